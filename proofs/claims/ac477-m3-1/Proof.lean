import JvmDerived
import JvmDerived.Pilot.@@N@@Statement
import JvmDerived.Pilot.@@N@@Code
set_option linter.unusedVariables false
set_option linter.unusedSimpArgs false
@@BLOCK:NumsL.lean.txt@@
/- laws to paste: Road.backV, Road.eqW, Road.codOf (cut by pick.py; bodies as the Statement names them) -/
namespace Jvm.Pilot.@@N@@
namespace StrChars
open Jvm Sem ClassFile Op Lib Jvm.Stand Jvm.Free.XT Jvm.Free.ALB Jvm.Free.JM Jvm.Free
open Jvm.Lib.Cold (StaticIs)
/-- a char array whose places are chars -/
def Ch (a : Addr) (A : Cell) (U : State) : Prop := Arr .char a A U ∧ Typed .char A
theorem Ch.mv {a : Addr} {A : Cell} {U U' : State} (h : Ch a A U) (hal : U.vm.Alike U'.vm) (hh : U'.heap = U.heap) : Ch a A U' := ⟨h.1.mv hal hh, h.2⟩
theorem Ch.keep {a : Addr} {A : Cell} {U U' : State} (h : Ch a A U) (hal : U.vm.Alike U'.vm) (hk : U'.heap[a]? = some A) : Ch a A U' := ⟨h.1.keep hal hk, h.2⟩
/-- what place i of a char[]'s cell holds -/
def cv (A : Cell) (i : Nat) : Int32 := match A.slots[i]? with | some (.int x) => x | _ => 0
theorem Ch.get {a : Addr} {A : Cell} {U : State} (h : Ch a A U) {i : Nat} (hi : i < A.slots.size) : A.slots[i]? = some (.int (cv A i)) := by
  have e := Array.getElem?_eq_getElem hi
  have f := h.2 i _ e
  unfold cv; rw [e]
  generalize A.slots[i] = v at f
  cases v <;> simp [fits] at f ⊢
/-- the byte that i2b leaves of a char -/
def lo8 (x : Int32) : Int32 := x.toInt8.toInt32
theorem fits_lo8 (y : Int32) : fits .byte (.int (lo8 y)) = true := by
  have h1 := y.toInt8.le_toInt
  have h2 := y.toInt8.toInt_lt
  simp only [lo8, fits, Bool.and_eq_true, decide_eq_true_eq, Int32.le_iff_toInt_le, Int8.toInt_toInt32, show (-128 : Int32).toInt = -128 from by decide, show (127 : Int32).toInt = 127 from by decide]
  omega
/-- A' is A but that each place j of lo .. hi - 1 holds f j -/
def Laid (A A' : Cell) (lo hi : Nat) (f : Nat → Value) : Prop := A'.cls = A.cls ∧ A'.vm = A.vm ∧ A'.slots.size = A.slots.size ∧ ∀ i, A'.slots[i]? = if lo ≤ i ∧ i < hi then some (f i) else A.slots[i]?
theorem Laid.zero (A : Cell) (lo : Nat) (f : Nat → Value) : Laid A A lo (lo + 0) f := ⟨rfl, rfl, rfl, fun i => by rw [if_neg (by omega)]⟩
theorem Laid.step {A Ak : Cell} {lo k : Nat} {f : Nat → Value} {v : Value} (h : Laid A Ak lo k f) (hlo : lo ≤ k) (hk : k < Ak.slots.size) (hv : v = f k) : Laid A (Ak.setSlot k v) lo (k + 1) f := by
  refine ⟨h.1, h.2.1, by simpa [Cell.setSlot] using h.2.2.1, fun i => ?_⟩
  by_cases e : k = i
  · subst e; rw [Cell.slots_setSlot_self v hk, if_pos (by omega), hv]
  · rw [Cell.slots_setSlot_ne v e, h.2.2.2 i]
    by_cases q : lo ≤ i ∧ i < k
    · rw [if_pos q, if_pos (by omega)]
    · rw [if_neg q, if_neg (by omega)]
def U16 : String := "java/lang/StringUTF16"
namespace Cmp5
def yN : MethodName := ⟨"java/lang/StringUTF16", "compress", "([CI[BII)I"⟩
abbrev yB : ByteArray := jdk_52_method_21_code
theorem d0 : decode yB 0 = .ok (.iconst 0, 1) := by decide +kernel
theorem d1 : decode yB 1 = .ok (.istore 5, 2) := by decide +kernel
theorem d3 : decode yB 3 = .ok (.iload 5, 2) := by decide +kernel
theorem d5 : decode yB 5 = .ok (.iload 4, 2) := by decide +kernel
theorem d7 : decode yB 7 = .ok (.if_icmp (.ge) 37, 3) := by decide +kernel
theorem d10 : decode yB 10 = .ok (.aload_n 0, 1) := by decide +kernel
theorem d11 : decode yB 11 = .ok (.iload_n 1, 1) := by decide +kernel
theorem d12 : decode yB 12 = .ok (.caload, 1) := by decide +kernel
theorem d13 : decode yB 13 = .ok (.istore 6, 2) := by decide +kernel
theorem d15 : decode yB 15 = .ok (.iload 6, 2) := by decide +kernel
theorem d17 : decode yB 17 = .ok (.sipush 255, 3) := by decide +kernel
theorem d20 : decode yB 20 = .ok (.if_icmp (.le) 6, 3) := by decide +kernel
theorem d26 : decode yB 26 = .ok (.aload_n 2, 1) := by decide +kernel
theorem d27 : decode yB 27 = .ok (.iload_n 3, 1) := by decide +kernel
theorem d28 : decode yB 28 = .ok (.iload 6, 2) := by decide +kernel
theorem d30 : decode yB 30 = .ok (.i2b, 1) := by decide +kernel
theorem d31 : decode yB 31 = .ok (.bastore, 1) := by decide +kernel
theorem d32 : decode yB 32 = .ok (.iinc 1 1, 3) := by decide +kernel
theorem d35 : decode yB 35 = .ok (.iinc 3 1, 3) := by decide +kernel
theorem d38 : decode yB 38 = .ok (.iinc 5 1, 3) := by decide +kernel
theorem d41 : decode yB 41 = .ok (.goto (-38), 3) := by decide +kernel
theorem d44 : decode yB 44 = .ok (.iload 4, 2) := by decide +kernel
theorem d46 : decode yB 46 = .ok (.ireturn, 1) := by decide +kernel
def site : List Cond := []
def tab : Cond := tabOf yN yB 7 (some .int) site
def P (b : Addr) (A : Cell) (d : Addr) (B : Cell) (o q len : Nat) (args : Array Value) (s : State) : Prop := args = #[.ref b, .int (Int32.ofNat o), .ref d, .int (Int32.ofNat q), .int (Int32.ofNat len)] ∧ Ch b A s ∧ Arr .byte d B s ∧ b ≠ d ∧ o + len ≤ A.slots.size ∧ q + len ≤ B.slots.size ∧ ∀ i, i < len → ¬ 255 < cv A (o + i)
def E (b : Addr) (A : Cell) (d : Addr) (B : Cell) (o q len : Nat) (r : Option Value) (s u : State) : Prop := r = some (.int (Int32.ofNat len)) ∧ ∃ B', Put d B' s u ∧ Laid B B' q (q + len) (fun j => Value.int (lo8 (cv A (o + (j - q)))))
/-- no char of the range above 255: len; the places written hold each char's low byte -/
theorem law (l : Launch) (b : Addr) (A : Cell) (d : Addr) (B : Cell) (o q len : Nat) : Law l yN 5 5 0 0 yB 7 (some .int) site (P b A d B o q len) (E b A d B o q len) (copyLocs d q len) 0 0 := by
  refine Law.of_walk (plainFor_of_name (by decide +kernel)) (by decide +kernel) (by decide +kernel) (by decide) (fun _ _ h => by rw [h.1]; rfl) (fun _ U U' hal hh h => ⟨h.1, h.2.1.mv hal hh, h.2.2.1.mv hal hh, h.2.2.2⟩) (fun r U U' V V' h1 hal h2 h => ⟨h.1, h.2.elim fun B' q => ⟨B', q.1.mv h1 h2, q.2⟩⟩) ?_
  intro p e s m args below meth c s₁ X0 hexec hbytes hml hret hlk hnm hown hh0 W hP
  obtain ⟨rfl, hA, hB, hne, l1, l2, hp⟩ := hP
  have c1 : Steps p.tables e below (s₁.setTop (entryFrame m #[.ref b, .int (Int32.ofNat o), .ref d, .int (Int32.ofNat q), .int (Int32.ofNat len)] 7)) (s₁.setTop (mkF m 0 #[.val (.ref b), .val (.int (Int32.ofNat o)), .val (.ref d), .val (.int (Int32.ofNat q)), .val (.int (Int32.ofNat len)), .unset, .unset] [])) := entry rfl
  have hA0 := hA.1.mv X0.warmed.alike hh0
  have hB0 := hB.mv X0.warmed.alike hh0
  have a31 := hA.1.2.2.2
  have c2 : Steps p.tables e below (s₁.setTop (entryFrame m #[.ref b, .int (Int32.ofNat o), .ref d, .int (Int32.ofNat q), .int (Int32.ofNat len)] 7)) (s₁.setTop (mkF m 3 #[.val (.ref b), .val (.int (Int32.ofNat o)), .val (.ref d), .val (.int (Int32.ofNat q)), .val (.int (Int32.ofNat len)), .val (.int 0), .unset] [])) := c1.trans (by
    refine iconstV X0.here hexec rfl 0 (hb hbytes d0) (by decide) ?_
    refine XS.istore X0.here hexec rfl (hb hbytes d1) rfl rfl ?_
    exact Steps.refl _)
  have loop : ∀ (r i : Nat), i + r = len → ∀ (z : Slot), (z = .unset ∨ ∃ w, z = .val w ∧ w.category = 1) → ∀ (Tl : State) (Bk : Cell), Stand p l e { frames := 0, locals := 0, cells := 0, slots := 0 } s m #[.ref b, .int (Int32.ofNat o), .ref d, .int (Int32.ofNat q), .int (Int32.ofNat len)] below meth c Tl ([] ++ copyLocs d q i) 0 0 → Put d Bk s₁ Tl → Laid B Bk q (q + i) (fun j => Value.int (lo8 (cv A (o + (j - q))))) →
      Steps p.tables e below (s₁.setTop (entryFrame m #[.ref b, .int (Int32.ofNat o), .ref d, .int (Int32.ofNat q), .int (Int32.ofNat len)] 7)) (Tl.setTop (mkF m 3 #[.val (.ref b), .val (.int (Int32.ofNat (o + i))), .val (.ref d), .val (.int (Int32.ofNat (q + i))), .val (.int (Int32.ofNat len)), .val (.int (Int32.ofNat i)), z] [])) → ∃ (T' : State) (B' : Cell) (z' : Slot), Stand p l e { frames := 0, locals := 0, cells := 0, slots := 0 } s m #[.ref b, .int (Int32.ofNat o), .ref d, .int (Int32.ofNat q), .int (Int32.ofNat len)] below meth c T' ([] ++ copyLocs d q len) 0 0 ∧ Put d B' s₁ T' ∧ Laid B B' q (q + len) (fun j => Value.int (lo8 (cv A (o + (j - q))))) ∧
      Steps p.tables e below (s₁.setTop (entryFrame m #[.ref b, .int (Int32.ofNat o), .ref d, .int (Int32.ofNat q), .int (Int32.ofNat len)] 7)) (T'.setTop (mkF m 3 #[.val (.ref b), .val (.int (Int32.ofNat (o + len))), .val (.ref d), .val (.int (Int32.ofNat (q + len))), .val (.int (Int32.ofNat len)), .val (.int (Int32.ofNat len)), z'] [])) := by
    intro r
    induction r with
    | zero =>
      intro i hi z hz Tl Bk Xl pl fl cl
      have hil : i = len := by omega
      rw [hil] at Xl fl cl
      exact ⟨Tl, Bk, z, Xl, pl, fl, cl⟩
    | succ r ih =>
      intro i hi z hz Tl Bk Xl pl fl cl
      have all := X0.warmed.alike.symm.trans Xl.warmed.alike
      have hAl := hA0.keep all (pl.other hne hA0.1)
      have hBk := hB0.like all pl.1 fl.1 fl.2.1 fl.2.2.1
      have hlt : q + i < Bk.slots.size := by rw [fl.2.2.1]; omega
      have c3 : Steps p.tables e below (s₁.setTop (entryFrame m #[.ref b, .int (Int32.ofNat o), .ref d, .int (Int32.ofNat q), .int (Int32.ofNat len)] 7)) (Tl.setTop (mkF m 12 #[.val (.ref b), .val (.int (Int32.ofNat (o + i))), .val (.ref d), .val (.int (Int32.ofNat (q + i))), .val (.int (Int32.ofNat len)), .val (.int (Int32.ofNat i)), z] [.int (Int32.ofNat (o + i)), .ref b])) := cl.trans (by
        refine XS.iload Xl.here hexec rfl (hb hbytes d3) rfl ?_
        refine XS.iload Xl.here hexec rfl (hb hbytes d5) rfl ?_
        refine XS.icmpNo Xl.here hexec rfl (hb hbytes d7) rfl (ii_ge_f (lt32 (by omega) (by omega))) ?_
        refine XS.aloadN Xl.here hexec rfl (hb hbytes d10) rfl rfl ?_
        refine XS.iloadN Xl.here hexec rfl (hb hbytes d11) rfl ?_
        exact Steps.refl _)
      have c4 : Steps p.tables e below (s₁.setTop (entryFrame m #[.ref b, .int (Int32.ofNat o), .ref d, .int (Int32.ofNat q), .int (Int32.ofNat len)] 7)) (Tl.setTop (mkF m 13 #[.val (.ref b), .val (.int (Int32.ofNat (o + i))), .val (.ref d), .val (.int (Int32.ofNat (q + i))), .val (.int (Int32.ofNat len)), .val (.int (Int32.ofNat i)), z] [.int (cv A (o + i))])) := c3.trans (by
        refine Xl.aget hexec hAl rfl (hA.get (i := o + i) (by omega)) rfl rfl (hb hbytes d12) ?_
        exact Steps.refl _)
      have c5 : Steps p.tables e below (s₁.setTop (entryFrame m #[.ref b, .int (Int32.ofNat o), .ref d, .int (Int32.ofNat q), .int (Int32.ofNat len)] 7)) (Tl.setTop (mkF m 15 #[.val (.ref b), .val (.int (Int32.ofNat (o + i))), .val (.ref d), .val (.int (Int32.ofNat (q + i))), .val (.int (Int32.ofNat len)), .val (.int (Int32.ofNat i)), .val (.int (cv A (o + i)))] [])) := c4.trans (by
        refine XS.istoreS Xl.here hexec rfl (hb hbytes d13) rfl rfl hz ?_
        exact Steps.refl _)
      have c6 : Steps p.tables e below (s₁.setTop (entryFrame m #[.ref b, .int (Int32.ofNat o), .ref d, .int (Int32.ofNat q), .int (Int32.ofNat len)] 7)) (Tl.setTop (mkF m 31 #[.val (.ref b), .val (.int (Int32.ofNat (o + i))), .val (.ref d), .val (.int (Int32.ofNat (q + i))), .val (.int (Int32.ofNat len)), .val (.int (Int32.ofNat i)), .val (.int (cv A (o + i)))] [.int (lo8 (cv A (o + i))), .int (Int32.ofNat (q + i)), .ref d])) := c5.trans (by
        refine XS.iload Xl.here hexec rfl (hb hbytes d15) rfl ?_
        refine sipushV Xl.here hexec rfl 255 (hb hbytes d17) (by decide) ?_
        refine XS.icmpYes Xl.here hexec rfl (pc0 := 20) rfl (hb hbytes d20) rfl (ii_le_t (hp i (by omega))) (by decide) rfl ?_
        refine XS.aloadN Xl.here hexec rfl (hb hbytes d26) rfl rfl ?_
        refine XS.iloadN Xl.here hexec rfl (hb hbytes d27) rfl ?_
        refine XS.iload Xl.here hexec rfl (hb hbytes d28) rfl ?_
        refine i2b Xl.here hexec rfl (hb hbytes d30) rfl ?_
        exact Steps.refl _)
      obtain ⟨T7, X7, p7, st7⟩ := Xl.aput hexec hBk rfl hlt rfl (fits_lo8 (cv A (o + i))) (g := (mkF m 31 #[.val (.ref b), .val (.int (Int32.ofNat (o + i))), .val (.ref d), .val (.int (Int32.ofNat (q + i))), .val (.int (Int32.ofNat len)), .val (.int (Int32.ofNat i)), .val (.int (cv A (o + i)))] [.int (lo8 (cv A (o + i))), .int (Int32.ofNat (q + i)), .ref d])) rfl (rest := []) rfl (hb hbytes d31)
      have c8 : Steps p.tables e below (s₁.setTop (entryFrame m #[.ref b, .int (Int32.ofNat o), .ref d, .int (Int32.ofNat q), .int (Int32.ofNat len)] 7)) (T7.setTop (mkF m 32 #[.val (.ref b), .val (.int (Int32.ofNat (o + i))), .val (.ref d), .val (.int (Int32.ofNat (q + i))), .val (.int (Int32.ofNat len)), .val (.int (Int32.ofNat i)), .val (.int (cv A (o + i)))] [])) := c6.trans (st7 _ (Steps.refl _))
      have c9 : Steps p.tables e below (s₁.setTop (entryFrame m #[.ref b, .int (Int32.ofNat o), .ref d, .int (Int32.ofNat q), .int (Int32.ofNat len)] 7)) (T7.setTop (mkF m 3 #[.val (.ref b), .val (.int (Int32.ofNat (o + i) + 1)), .val (.ref d), .val (.int (Int32.ofNat (q + i) + 1)), .val (.int (Int32.ofNat len)), .val (.int (Int32.ofNat i + 1)), .val (.int (cv A (o + i)))] [])) := c8.trans (by
        refine iincV X7.here hexec rfl 1 (hb hbytes d32) (by decide) rfl rfl ?_
        refine iincV X7.here hexec rfl 1 (hb hbytes d35) (by decide) rfl rfl ?_
        refine iincV X7.here hexec rfl 1 (hb hbytes d38) (by decide) rfl rfl ?_
        refine XS.goto X7.here hexec rfl (pc0 := 41) rfl (hb hbytes d41) (by decide) rfl ?_
        exact Steps.refl _)
      have c10 : Steps p.tables e below (s₁.setTop (entryFrame m #[.ref b, .int (Int32.ofNat o), .ref d, .int (Int32.ofNat q), .int (Int32.ofNat len)] 7)) (T7.setTop (mkF m 3 #[.val (.ref b), .val (.int (Int32.ofNat (o + (i + 1)))), .val (.ref d), .val (.int (Int32.ofNat (q + (i + 1)))), .val (.int (Int32.ofNat len)), .val (.int (Int32.ofNat (i + 1))), .val (.int (cv A (o + i)))] [])) := by
        have := c9
        rw [succ32, succ32, succ32] at this
        exact this
      exact ih (i + 1) (by omega) _ (Or.inr ⟨_, rfl, rfl⟩) T7 _ (by rw [copyLocs_step, ← List.append_assoc]; exact X7) (pl.trans p7) (fl.step (by omega) hlt (by simp)) c10
  obtain ⟨T9, B9, z9, X9, p9, f9, g9⟩ := loop len 0 (by omega) .unset (Or.inl rfl) s₁ B (by simpa [copyLocs] using X0) ⟨hB0.1, fun _ _ => rfl, rfl⟩ (Laid.zero _ _ _) c2
  have c11 : Steps p.tables e below (s₁.setTop (entryFrame m #[.ref b, .int (Int32.ofNat o), .ref d, .int (Int32.ofNat q), .int (Int32.ofNat len)] 7)) (T9.setTop (mkF m 46 #[.val (.ref b), .val (.int (Int32.ofNat (o + len))), .val (.ref d), .val (.int (Int32.ofNat (q + len))), .val (.int (Int32.ofNat len)), .val (.int (Int32.ofNat len)), z9] [.int (Int32.ofNat len)])) := g9.trans (by
    refine XS.iload X9.here hexec rfl (hb hbytes d3) rfl ?_
    refine XS.iload X9.here hexec rfl (hb hbytes d5) rfl ?_
    refine XS.icmpYes X9.here hexec rfl (pc0 := 7) rfl (hb hbytes d7) rfl (ii_ge_t (nlt32 (by omega) (Nat.le_refl _))) (by decide) rfl ?_
    refine XS.iload X9.here hexec rfl (hb hbytes d44) rfl ?_
    exact Steps.refl _)
  exact ⟨T9, some (.int (Int32.ofNat len)), _, _, _, X9, by simp, rfl, rfl, (fun h => by cases h), ⟨rfl, B9, p9.from hh0, f9⟩, fun fs hl => c11.trans (X9.ireturnOut hexec hret rfl (Or.inl rfl) (hb hbytes d46) hl)⟩
end Cmp5
namespace Cmp3
def yN : MethodName := ⟨"java/lang/StringUTF16", "compress", "([CII)[B"⟩
abbrev yB : ByteArray := jdk_52_method_16_code
theorem d0 : decode yB 0 = .ok (.iload_n 2, 1) := by decide +kernel
theorem d1 : decode yB 1 = .ok (.newarray .byte, 2) := by decide +kernel
theorem d3 : decode yB 3 = .ok (.astore_n 3, 1) := by decide +kernel
theorem d4 : decode yB 4 = .ok (.aload_n 0, 1) := by decide +kernel
theorem d5 : decode yB 5 = .ok (.iload_n 1, 1) := by decide +kernel
theorem d6 : decode yB 6 = .ok (.aload_n 3, 1) := by decide +kernel
theorem d7 : decode yB 7 = .ok (.iconst 0, 1) := by decide +kernel
theorem d8 : decode yB 8 = .ok (.iload_n 2, 1) := by decide +kernel
theorem d9 : decode yB 9 = .ok (.invokestatic 115, 3) := by decide +kernel
theorem d12 : decode yB 12 = .ok (.istore 4, 2) := by decide +kernel
theorem d14 : decode yB 14 = .ok (.iload 4, 2) := by decide +kernel
theorem d16 : decode yB 16 = .ok (.iload_n 2, 1) := by decide +kernel
theorem d17 : decode yB 17 = .ok (.if_icmp (.eq) 40, 3) := by decide +kernel
theorem d57 : decode yB 57 = .ok (.aload_n 3, 1) := by decide +kernel
theorem d58 : decode yB 58 = .ok (.areturn, 1) := by decide +kernel
def site : List Cond := [.arrayClass .byte, Cmp5.tab] ++ staticW U16 115 Cmp5.yN
def tab : Cond := tabOf yN yB 6 (some (.array .byte)) site
def P (b : Addr) (A : Cell) (o len : Nat) (args : Array Value) (s : State) : Prop := args = #[.ref b, .int (Int32.ofNat o), .int (Int32.ofNat len)] ∧ Ch b A s ∧ o + len ≤ A.slots.size ∧ len ≤ 536870912 ∧ ∀ i, i < len → ¬ 255 < cv A (o + i)
def E (b : Addr) (A : Cell) (o len : Nat) (r : Option Value) (s u : State) : Prop := NewArr .byte "[B" len (fun j => .int (lo8 (cv A (o + j)))) r s u ∧ u.heap.size = s.heap.size + 1
/-- no char of the range above 255: a new byte[] of their low bytes -/
theorem law (l : Launch) (b : Addr) (A : Cell) (o len : Nat) : Law l yN 3 3 1 18 yB 6 (some (.array .byte)) site (P b A o len) (E b A o len) [] 1 len := by
  refine Law.of_walk (plainFor_of_name (by decide +kernel)) (by decide +kernel) (by decide +kernel) (by decide) (fun _ _ h => by rw [h.1]; rfl) (fun _ U U' hal hh h => ⟨h.1, h.2.1.mv hal hh, h.2.2⟩) (fun r U U' V V' h1 hal h2 h => ⟨NewArr.mv r U U' V V' h1 hal h2 h.1, by rw [h1, h2]; exact h.2⟩) ?_
  intro p e s m args below meth c s₁ X0 hexec hbytes hml hret hlk hnm hown hh0 W hP
  obtain ⟨rfl, hA, l1, l2, hp⟩ := hP
  have a31 := hA.1.2.2.2
  have c1 : Steps p.tables e below (s₁.setTop (entryFrame m #[.ref b, .int (Int32.ofNat o), .int (Int32.ofNat len)] 6)) (s₁.setTop (mkF m 0 #[.val (.ref b), .val (.int (Int32.ofNat o)), .val (.int (Int32.ofNat len)), .unset, .unset, .unset] [])) := entry rfl
  have c2 : Steps p.tables e below (s₁.setTop (entryFrame m #[.ref b, .int (Int32.ofNat o), .int (Int32.ofNat len)] 6)) (s₁.setTop (mkF m 1 #[.val (.ref b), .val (.int (Int32.ofNat o)), .val (.int (Int32.ofNat len)), .unset, .unset, .unset] [.int (Int32.ofNat len)])) := c1.trans (by
    refine XS.iloadN X0.here hexec rfl (hb hbytes d0) rfl ?_
    exact Steps.refl _)
  obtain ⟨T3, B3, X3, ba3, bs3, bv3, bh3, bf3, st3⟩ := X0.anew hexec (atype := .byte) (wk W (.arrayClass .byte)) rfl (by show len * 1 ≤ _; omega) (by omega) (g := (mkF m 1 #[.val (.ref b), .val (.int (Int32.ofNat o)), .val (.int (Int32.ofNat len)), .unset, .unset, .unset] [.int (Int32.ofNat len)])) rfl (hb hbytes d1) (rest := []) rfl (Nat.le_refl _) (by show 0 + len ≤ len; omega)
  rw [hh0] at ba3 st3
  have kp3 : XT.Kept s T3 := (XT.Kept.of_eq hh0).push bh3
  have hA3 := hA.keep X3.warmed.alike (kp3 _ _ hA.1.1)
  have hne : b ≠ s.heap.size := hA.1.ne
  have c4 : Steps p.tables e below (s₁.setTop (entryFrame m #[.ref b, .int (Int32.ofNat o), .int (Int32.ofNat len)] 6)) (T3.setTop (mkF m 3 #[.val (.ref b), .val (.int (Int32.ofNat o)), .val (.int (Int32.ofNat len)), .unset, .unset, .unset] [.ref s.heap.size])) := c2.trans (st3 _ (Steps.refl _))
  have c5 : Steps p.tables e below (s₁.setTop (entryFrame m #[.ref b, .int (Int32.ofNat o), .int (Int32.ofNat len)] 6)) (T3.setTop (mkF m 9 #[.val (.ref b), .val (.int (Int32.ofNat o)), .val (.int (Int32.ofNat len)), .val (.ref s.heap.size), .unset, .unset] [.int (Int32.ofNat len), .int 0, .ref s.heap.size, .int (Int32.ofNat o), .ref b])) := c4.trans (by
    refine XS.astoreN X3.here hexec rfl (hb hbytes d3) rfl rfl rfl ?_
    refine XS.aloadN X3.here hexec rfl (hb hbytes d4) rfl rfl ?_
    refine XS.iloadN X3.here hexec rfl (hb hbytes d5) rfl ?_
    refine XS.aloadN X3.here hexec rfl (hb hbytes d6) rfl rfl ?_
    refine iconstV X3.here hexec rfl 0 (hb hbytes d7) (by decide) ?_
    refine XS.iloadN X3.here hexec rfl (hb hbytes d8) rfl ?_
    exact Steps.refl _)
  obtain ⟨v6, T6, X6, E6, g6⟩ := X3.callS hexec (Cmp5.law l b A s.heap.size B3 o 0 len) hown (wks W (staticW U16 115 Cmp5.yN)) (wk W Cmp5.tab) (W := 0) (Nat.le_of_ble_eq_true rfl) (Nat.le_of_ble_eq_true rfl) (Nat.le_refl _) (by show 0 + len + 0 ≤ len; omega) (g := (mkF m 9 #[.val (.ref b), .val (.int (Int32.ofNat o)), .val (.int (Int32.ofNat len)), .val (.ref s.heap.size), .unset, .unset] [.int (Int32.ofNat len), .int (Int32.ofNat 0), .ref s.heap.size, .int (Int32.ofNat o), .ref b])) rfl (by rw [hml]; rfl) c5 (argsL := [.ref b, .int (Int32.ofNat o), .ref s.heap.size, .int (Int32.ofNat 0), .int (Int32.ofNat len)]) (rest := []) rfl rfl (by show 2 * 0 + 0 ≤ _; decide) (hb hbytes d9) (⟨rfl, hA3, ba3, hne, l1, by rw [bs3]; simp, hp⟩)
  obtain ⟨rfl, B6, p6, f6⟩ := E6
  have c7 : Steps p.tables e below (s₁.setTop (entryFrame m #[.ref b, .int (Int32.ofNat o), .int (Int32.ofNat len)] 6)) (T6.setTop (mkF m 12 #[.val (.ref b), .val (.int (Int32.ofNat o)), .val (.int (Int32.ofNat len)), .val (.ref s.heap.size), .unset, .unset] [.int (Int32.ofNat len)])) := g6
  have c8 : Steps p.tables e below (s₁.setTop (entryFrame m #[.ref b, .int (Int32.ofNat o), .int (Int32.ofNat len)] 6)) (T6.setTop (mkF m 58 #[.val (.ref b), .val (.int (Int32.ofNat o)), .val (.int (Int32.ofNat len)), .val (.ref s.heap.size), .val (.int (Int32.ofNat len)), .unset] [.ref s.heap.size])) := c7.trans (by
    refine XS.istore X6.here hexec rfl (hb hbytes d12) rfl rfl ?_
    refine XS.iload X6.here hexec rfl (hb hbytes d14) rfl ?_
    refine XS.iloadN X6.here hexec rfl (hb hbytes d16) rfl ?_
    refine XS.icmpYes X6.here hexec rfl (pc0 := 17) rfl (hb hbytes d17) rfl (ii_eq_t rfl) (by decide) rfl ?_
    refine XS.aloadN X6.here hexec rfl (hb hbytes d57) rfl rfl ?_
    exact Steps.refl _)
  have X8 := X6.wide (L' := []) (cells' := 1) (slots' := len) (fun x hx hlt => by
    simp only [List.nil_append, copyLocs, List.mem_map, List.mem_range] at hx
    obtain ⟨i, -, rfl⟩ := hx
    exact absurd hlt (Nat.lt_irrefl _)) (Nat.le_refl _) (by omega)
  exact ⟨T6, some (.ref s.heap.size), _, _, _, X8, rfl, rfl, rfl, (fun h => by cases h), ⟨⟨rfl, B6, ba3.like (X3.warmed.alike.symm.trans X6.warmed.alike) p6.1 f6.1 f6.2.1 f6.2.2.1, f6.2.1.trans bv3, by rw [X6.warmed.alike.findClass, f6.1]; exact bf3, by rw [f6.2.2.1, bs3]; simp, fun j hj => by rw [f6.2.2.2 j, if_pos (by omega)]; rfl, kp3.put p6 (Nat.le_refl _)⟩, by rw [p6.2.2, bh3, hh0]; simp⟩, fun fs hl => c8.trans (X8.areturnOut hexec rfl hret rfl (hb hbytes d58) hl)⟩
end Cmp3
namespace CodL
def yN : MethodName := ⟨"java/lang/StringUTF16", "coderFromArrayLen", "([BI)B"⟩
abbrev yB : ByteArray := jdk_52_method_15_code
theorem d0 : decode yB 0 = .ok (.iload_n 1, 1) := by decide +kernel
theorem d1 : decode yB 1 = .ok (.aload_n 0, 1) := by decide +kernel
theorem d2 : decode yB 2 = .ok (.arraylength, 1) := by decide +kernel
theorem d3 : decode yB 3 = .ok (.isub, 1) := by decide +kernel
theorem d4 : decode yB 4 = .ok (.bipush 31, 2) := by decide +kernel
theorem d6 : decode yB 6 = .ok (.iushr, 1) := by decide +kernel
theorem d7 : decode yB 7 = .ok (.i2b, 1) := by decide +kernel
theorem d8 : decode yB 8 = .ok (.ireturn, 1) := by decide +kernel
def site : List Cond := []
def tab : Cond := tabOf yN yB 2 (some .byte) site
def P (d : Addr) (B : Cell) (args : Array Value) (s : State) : Prop := args = #[.ref d, .int (Int32.ofNat B.slots.size)] ∧ Arr .byte d B s
def E (r : Option Value) (s u : State) : Prop := XT.PureE (some (.int 0)) r s u
/-- an array as long as the number of chars: LATIN1 -/
theorem law (l : Launch) (d : Addr) (B : Cell) : Law l yN 2 2 0 0 yB 2 (some .byte) site (P d B) E [] 0 0 := by
  refine Law.of_walk (plainFor_of_name (by decide +kernel)) (by decide +kernel) (by decide +kernel) (by decide) (fun _ _ h => by rw [h.1]; rfl) (fun _ U U' hal hh h => ⟨h.1, h.2.mv hal hh⟩) (fun r U U' V V' h1 hal h2 h => XT.PureE.mv r U U' V V' h1 hal h2 h) ?_
  intro p e s m args below meth c s₁ X0 hexec hbytes hml hret hlk hnm hown hh0 W hP
  obtain ⟨rfl, hB⟩ := hP
  have hB0 := hB.mv X0.warmed.alike hh0
  have c1 : Steps p.tables e below (s₁.setTop (entryFrame m #[.ref d, .int (Int32.ofNat B.slots.size)] 2)) (s₁.setTop (mkF m 0 #[.val (.ref d), .val (.int (Int32.ofNat B.slots.size))] [])) := entry rfl
  have c2 : Steps p.tables e below (s₁.setTop (entryFrame m #[.ref d, .int (Int32.ofNat B.slots.size)] 2)) (s₁.setTop (mkF m 2 #[.val (.ref d), .val (.int (Int32.ofNat B.slots.size))] [.ref d, .int (Int32.ofNat B.slots.size)])) := c1.trans (by
    refine XS.iloadN X0.here hexec rfl (hb hbytes d0) rfl ?_
    refine XS.aloadN X0.here hexec rfl (hb hbytes d1) rfl rfl ?_
    exact Steps.refl _)
  have c3 : Steps p.tables e below (s₁.setTop (entryFrame m #[.ref d, .int (Int32.ofNat B.slots.size)] 2)) (s₁.setTop (mkF m 8 #[.val (.ref d), .val (.int (Int32.ofNat B.slots.size))] [.int (lo8 (ushr (Int32.ofNat B.slots.size - Int32.ofNat B.slots.size) 31))])) := c2.trans (by
    refine X0.alen hexec hB0 rfl rfl (hb hbytes d2) ?_
    refine XS.isub X0.here hexec rfl (hb hbytes d3) rfl ?_
    refine bipushV X0.here hexec rfl 31 (hb hbytes d4) (by decide) ?_
    refine iushr X0.here hexec rfl (hb hbytes d6) rfl ?_
    refine i2b X0.here hexec rfl (hb hbytes d7) rfl ?_
    exact Steps.refl _)
  have e0 : lo8 (ushr (Int32.ofNat B.slots.size - Int32.ofNat B.slots.size) 31) = 0 := by rw [Int32.sub_self]; decide
  rw [e0] at c3
  exact ⟨s₁, some (.int 0), _, _, _, X0, rfl, rfl, rfl, (fun h => by cases h), ⟨rfl, hh0⟩, fun fs hl => c3.trans (X0.ireturnOut hexec hret rfl (Or.inr (Or.inr (Or.inl rfl))) (hb hbytes d8) hl)⟩
end CodL
/-- the String at a is Latin-1 over a new byte[] (the heap's one new cell): the low bytes of the len chars of A from o on; every cell but a is kept -/
def Got (a : Addr) (D : Cell) (fV fC : Field) (A : Cell) (o len : Nat) (r : Option Value) (s u : State) : Prop := r = none ∧ ∃ D' V : Cell, Blank "java/lang/String" a D' u ∧ Same D D' [fV.slot, fC.slot] ∧ D'.slots[fV.slot]? = some (.ref s.heap.size) ∧ D'.slots[fC.slot]? = some (.int 0) ∧ Arr .byte s.heap.size V u ∧ V.vm = .none ∧ u.vm.findClass "[B" = some V.cls ∧ V.slots.size = len ∧ (∀ j, j < len → V.slots[j]? = some (.int (lo8 (cv A (o + j))))) ∧ (∀ (y : Addr) (c : Cell), y ≠ a → s.heap[y]? = some c → u.heap[y]? = some c) ∧ u.heap.size = s.heap.size + 1
theorem Got.mv {a : Addr} {D A : Cell} {fV fC : Field} {o len : Nat} : ∀ r (U U' V V' : State), U'.heap = U.heap → V.vm.Alike V'.vm → V'.heap = V.heap → Got a D fV fC A o len r U V → Got a D fV fC A o len r U' V' :=
  fun r U U' V V' h1 hal h2 ⟨e0, D', X, a1, a2, a3, a4, a5, a6, a7, a8, a9, a10, a11⟩ => ⟨e0, D', X, a1.mv hal h2, a2, by rw [h1]; exact a3, a4, by rw [h1]; exact a5.mv hal h2, a6, by rw [hal.findClass]; exact a7, a8, a9, by rw [h1, h2]; exact a10, by rw [h1, h2]; exact a11⟩
namespace New4
def yN : MethodName := ⟨"java/lang/String", "<init>", "([CIILjava/lang/Void;)V"⟩
abbrev yB : ByteArray := jdk_42_method_149_code
theorem d0 : decode yB 0 = .ok (.aload_n 0, 1) := by decide +kernel
theorem d1 : decode yB 1 = .ok (.invokespecial 1, 3) := by decide +kernel
theorem d4 : decode yB 4 = .ok (.iload_n 3, 1) := by decide +kernel
theorem d5 : decode yB 5 = .ok (.ifCond (.ne) 22, 3) := by decide +kernel
theorem d27 : decode yB 27 = .ok (.getstatic 38, 3) := by decide +kernel
theorem d30 : decode yB 30 = .ok (.ifCond (.eq) 28, 3) := by decide +kernel
theorem d33 : decode yB 33 = .ok (.aload_n 1, 1) := by decide +kernel
theorem d34 : decode yB 34 = .ok (.iload_n 2, 1) := by decide +kernel
theorem d35 : decode yB 35 = .ok (.iload_n 3, 1) := by decide +kernel
theorem d36 : decode yB 36 = .ok (.invokestatic 177, 3) := by decide +kernel
theorem d39 : decode yB 39 = .ok (.astore 5, 2) := by decide +kernel
theorem d41 : decode yB 41 = .ok (.aload_n 0, 1) := by decide +kernel
theorem d42 : decode yB 42 = .ok (.aload 5, 2) := by decide +kernel
theorem d44 : decode yB 44 = .ok (.iload_n 3, 1) := by decide +kernel
theorem d45 : decode yB 45 = .ok (.invokestatic 47, 3) := by decide +kernel
theorem d48 : decode yB 48 = .ok (.putfield 15, 3) := by decide +kernel
theorem d51 : decode yB 51 = .ok (.aload_n 0, 1) := by decide +kernel
theorem d52 : decode yB 52 = .ok (.aload 5, 2) := by decide +kernel
theorem d54 : decode yB 54 = .ok (.putfield 9, 3) := by decide +kernel
theorem d57 : decode yB 57 = .ok (.return_, 1) := by decide +kernel
def site : List Cond := [.fieldLink "java/lang/String" 38 "java/lang/String" "COMPACT_STRINGS" "Z", Cmp3.tab, CodL.tab, .laysFinal "java/lang/String" "java/lang/String" "value" "[B", .fieldLink "java/lang/String" 9 "java/lang/String" "value" "[B", .laysFinal "java/lang/String" "java/lang/String" "coder" "B", .fieldLink "java/lang/String" 15 "java/lang/String" "coder" "B"] ++ objW "java/lang/String" 1 ++ staticW "java/lang/String" 177 Cmp3.yN ++ staticW "java/lang/String" 47 CodL.yN
def tab : Cond := tabOf yN yB 6 none site
def P (a : Addr) (D : Cell) (fV fC : Field) (b : Addr) (A : Cell) (z : Int32) (o len : Nat) (args : Array Value) (s : State) : Prop := args = #[.ref a, .ref b, .int (Int32.ofNat o), .int (Int32.ofNat len), .null] ∧ Blank "java/lang/String" a D s ∧ Found "java/lang/String" "value" "[B" fV s ∧ Found "java/lang/String" "coder" "B" fC s ∧ Ch b A s ∧ StaticIs s "java/lang/String" "COMPACT_STRINGS" "Z" (.int z) ∧ ¬ z = 0 ∧ 0 < len ∧ o + len ≤ A.slots.size ∧ len ≤ 536870912 ∧ ∀ i, i < len → ¬ 255 < cv A (o + i)
def E (a : Addr) (D : Cell) (fV fC : Field) (A : Cell) (o len : Nat) (r : Option Value) (s u : State) : Prop := Got a D fV fC A o len r s u
/-- len > 0, no char of the range above 255: a Latin-1 String of their low bytes -/
theorem law (l : Launch) (a : Addr) (D : Cell) (fV fC : Field) (b : Addr) (A : Cell) (z : Int32) (o len : Nat) : Law l yN 5 4 2 35 yB 6 none site (P a D fV fC b A z o len) (E a D fV fC A o len) [⟨a, fC.slot⟩, ⟨a, fV.slot⟩] 1 len := by
  refine Law.of_walk (plainFor_of_name (by decide +kernel)) (by decide +kernel) (by decide +kernel) (by decide) (fun _ _ h => by rw [h.1]; rfl) (fun _ U U' hal hh h => ⟨h.1, h.2.1.mv hal hh, h.2.2.1.al hal, h.2.2.2.1.al hal, h.2.2.2.2.1.mv hal hh, h.2.2.2.2.2.1.there hal hh, h.2.2.2.2.2.2⟩) (fun r U U' V V' h1 hal h2 h => Got.mv r U U' V V' h1 hal h2 h) ?_
  intro p e s m args below meth c s₁ X0 hexec hbytes hml hret hlk hnm hown hh0 W hP
  obtain ⟨rfl, hB, f1, f2, hA, s1, hz, l0, l1, l2, hp⟩ := hP
  have a31 := hA.1.2.2.2
  have c1 : Steps p.tables e below (s₁.setTop (entryFrame m #[.ref a, .ref b, .int (Int32.ofNat o), .int (Int32.ofNat len), .null] 6)) (s₁.setTop (mkF m 0 #[.val (.ref a), .val (.ref b), .val (.int (Int32.ofNat o)), .val (.int (Int32.ofNat len)), .val .null, .unset] [])) := entry rfl
  have c2 : Steps p.tables e below (s₁.setTop (entryFrame m #[.ref a, .ref b, .int (Int32.ofNat o), .int (Int32.ofNat len), .null] 6)) (s₁.setTop (mkF m 1 #[.val (.ref a), .val (.ref b), .val (.int (Int32.ofNat o)), .val (.int (Int32.ofNat len)), .val .null, .unset] [.ref a])) := c1.trans (by
    refine XS.aloadN X0.here hexec rfl (hb hbytes d0) rfl rfl ?_
    exact Steps.refl _)
  obtain ⟨T3, X3, q3, st3⟩ := X0.oinit hexec hown (wks W (objW "java/lang/String" 1)) (g := (mkF m 1 #[.val (.ref a), .val (.ref b), .val (.int (Int32.ofNat o)), .val (.int (Int32.ofNat len)), .val .null, .unset] [.ref a])) rfl (by rw [hml]; rfl) (rest := []) rfl (hb hbytes d1) (W := 0) (by show 2 * 0 + 0 ≤ _; decide) (Nat.le_of_ble_eq_true rfl) (Nat.le_of_ble_eq_true rfl)
  have hh3 := q3.trans hh0
  have c4 : Steps p.tables e below (s₁.setTop (entryFrame m #[.ref a, .ref b, .int (Int32.ofNat o), .int (Int32.ofNat len), .null] 6)) (T3.setTop (mkF m 27 #[.val (.ref a), .val (.ref b), .val (.int (Int32.ofNat o)), .val (.int (Int32.ofNat len)), .val .null, .unset] [])) := (c2.trans (st3 _ (Steps.refl _))).trans (by
    refine XS.iloadN X3.here hexec rfl (hb hbytes d4) rfl ?_
    refine XS.ifYes X3.here hexec rfl (pc0 := 5) rfl (hb hbytes d5) rfl (i0_ne_t (nz32 (by omega) l0)) (by decide) rfl ?_
    exact Steps.refl _)
  obtain ⟨T5, X5, q5, st5⟩ := X3.sget hexec hown (wk W (.fieldLink "java/lang/String" 38 "java/lang/String" "COMPACT_STRINGS" "Z")) s1 (fun _ _ h => by rw [hh3]; exact h) (g := (mkF m 27 #[.val (.ref a), .val (.ref b), .val (.int (Int32.ofNat o)), .val (.int (Int32.ofNat len)), .val .null, .unset] [])) rfl (hb hbytes d27)
  have hh5 := q5.trans hh3
  have c6 : Steps p.tables e below (s₁.setTop (entryFrame m #[.ref a, .ref b, .int (Int32.ofNat o), .int (Int32.ofNat len), .null] 6)) (T5.setTop (mkF m 30 #[.val (.ref a), .val (.ref b), .val (.int (Int32.ofNat o)), .val (.int (Int32.ofNat len)), .val .null, .unset] [.int z])) := c4.trans (st5 _ (Steps.refl _))
  have c7 : Steps p.tables e below (s₁.setTop (entryFrame m #[.ref a, .ref b, .int (Int32.ofNat o), .int (Int32.ofNat len), .null] 6)) (T5.setTop (mkF m 36 #[.val (.ref a), .val (.ref b), .val (.int (Int32.ofNat o)), .val (.int (Int32.ofNat len)), .val .null, .unset] [.int (Int32.ofNat len), .int (Int32.ofNat o), .ref b])) := c6.trans (by
    refine XS.ifNo X5.here hexec rfl (hb hbytes d30) rfl (i0_eq_f hz) ?_
    refine XS.aloadN X5.here hexec rfl (hb hbytes d33) rfl rfl ?_
    refine XS.iloadN X5.here hexec rfl (hb hbytes d34) rfl ?_
    refine XS.iloadN X5.here hexec rfl (hb hbytes d35) rfl ?_
    exact Steps.refl _)
  obtain ⟨v8, T8, X8, E8, g8⟩ := X5.callS hexec (Cmp3.law l b A o len) hown (wks W (staticW "java/lang/String" 177 Cmp3.yN)) (wk W Cmp3.tab) (W := 0) (Nat.le_of_ble_eq_true rfl) (Nat.le_of_ble_eq_true rfl) (Nat.le_refl _) (by show 0 + len ≤ len; omega) (g := (mkF m 36 #[.val (.ref a), .val (.ref b), .val (.int (Int32.ofNat o)), .val (.int (Int32.ofNat len)), .val .null, .unset] [.int (Int32.ofNat len), .int (Int32.ofNat o), .ref b])) rfl (by rw [hml]; rfl) c7 (argsL := [.ref b, .int (Int32.ofNat o), .int (Int32.ofNat len)]) (rest := []) rfl rfl (by show 2 * 0 + 0 ≤ _; decide) (hb hbytes d36) (⟨rfl, hA.mv X5.warmed.alike hh5, l1, l2, hp⟩)
  obtain ⟨e8, z8⟩ := E8
  obtain ⟨rfl, N, n1, n2, n3, n4, n5, n6⟩ := NewArr.mv _ T5 s _ _ hh5.symm (Vm.Alike.refl _) rfl e8
  rw [hh5] at z8
  have hB1 := hB.keep X8.warmed.alike (n6 _ _ hB.1)
  have hne : s.heap.size ≠ a := (Nat.ne_of_lt (Array.getElem?_eq_some_iff.mp hB.1).1).symm
  have c9 : Steps p.tables e below (s₁.setTop (entryFrame m #[.ref a, .ref b, .int (Int32.ofNat o), .int (Int32.ofNat len), .null] 6)) (T8.setTop (mkF m 39 #[.val (.ref a), .val (.ref b), .val (.int (Int32.ofNat o)), .val (.int (Int32.ofNat len)), .val .null, .unset] [.ref s.heap.size])) := g8
  have c10 : Steps p.tables e below (s₁.setTop (entryFrame m #[.ref a, .ref b, .int (Int32.ofNat o), .int (Int32.ofNat len), .null] 6)) (T8.setTop (mkF m 45 #[.val (.ref a), .val (.ref b), .val (.int (Int32.ofNat o)), .val (.int (Int32.ofNat len)), .val .null, .val (.ref s.heap.size)] [.int (Int32.ofNat N.slots.size), .ref s.heap.size, .ref a])) := by
    have hc : Steps p.tables e below (s₁.setTop (entryFrame m #[.ref a, .ref b, .int (Int32.ofNat o), .int (Int32.ofNat len), .null] 6)) (T8.setTop (mkF m 45 #[.val (.ref a), .val (.ref b), .val (.int (Int32.ofNat o)), .val (.int (Int32.ofNat len)), .val .null, .val (.ref s.heap.size)] [.int (Int32.ofNat len), .ref s.heap.size, .ref a])) := c9.trans (by
      refine XS.astore X8.here hexec rfl (hb hbytes d39) rfl rfl rfl ?_
      refine XS.aloadN X8.here hexec rfl (hb hbytes d41) rfl rfl ?_
      refine XS.aload X8.here hexec rfl (hb hbytes d42) rfl rfl ?_
      refine XS.iloadN X8.here hexec rfl (hb hbytes d44) rfl ?_
      exact Steps.refl _)
    rw [n4]; exact hc
  obtain ⟨v11, T11, X11, E11, g11⟩ := X8.callS hexec (CodL.law l s.heap.size N) hown (wks W (staticW "java/lang/String" 47 CodL.yN)) (wk W CodL.tab) (W := 1) (Nat.le_of_ble_eq_true rfl) (Nat.le_of_ble_eq_true rfl) (Nat.le_refl _) (by show 0 + len + 0 ≤ len; omega) (g := (mkF m 45 #[.val (.ref a), .val (.ref b), .val (.int (Int32.ofNat o)), .val (.int (Int32.ofNat len)), .val .null, .val (.ref s.heap.size)] [.int (Int32.ofNat N.slots.size), .ref s.heap.size, .ref a])) rfl (by rw [hml]; rfl) c10 (argsL := [.ref s.heap.size, .int (Int32.ofNat N.slots.size)]) (rest := [.ref a]) rfl rfl (by show 2 * 0 + (1 + 0) ≤ _; decide) (hb hbytes d45) (⟨rfl, n1⟩)
  obtain ⟨rfl, q11⟩ := E11
  have hB11 := hB1.mv (X8.warmed.alike.symm.trans X11.warmed.alike) q11
  have c12 : Steps p.tables e below (s₁.setTop (entryFrame m #[.ref a, .ref b, .int (Int32.ofNat o), .int (Int32.ofNat len), .null] 6)) (T11.setTop (mkF m 48 #[.val (.ref a), .val (.ref b), .val (.int (Int32.ofNat o)), .val (.int (Int32.ofNat len)), .val .null, .val (.ref s.heap.size)] [.int 0, .ref a])) := g11
  obtain ⟨T13, X13, p13, bl13, sl13, st13⟩ := X11.finit hexec hown (wk W (.fieldLink "java/lang/String" 15 "java/lang/String" "coder" "B")) (Or.inr ⟨_, (wk W (.laysFinal "java/lang/String" "java/lang/String" "coder" "B"))⟩) (Or.inl ⟨rfl, hnm⟩) f2 (Or.inl rfl) hB11 (t := .byte) (by decide +kernel) rfl (g := (mkF m 48 #[.val (.ref a), .val (.ref b), .val (.int (Int32.ofNat o)), .val (.int (Int32.ofNat len)), .val .null, .val (.ref s.heap.size)] [.int 0, .ref a])) rfl (rest := []) rfl (hb hbytes d48)
  have c14 : Steps p.tables e below (s₁.setTop (entryFrame m #[.ref a, .ref b, .int (Int32.ofNat o), .int (Int32.ofNat len), .null] 6)) (T13.setTop (mkF m 54 #[.val (.ref a), .val (.ref b), .val (.int (Int32.ofNat o)), .val (.int (Int32.ofNat len)), .val .null, .val (.ref s.heap.size)] [.ref s.heap.size, .ref a])) := (c12.trans (st13 _ (Steps.refl _))).trans (by
    refine XS.aloadN X13.here hexec rfl (hb hbytes d51) rfl rfl ?_
    refine XS.aload X13.here hexec rfl (hb hbytes d52) rfl rfl ?_
    exact Steps.refl _)
  obtain ⟨T15, X15, p15, bl15, sl15, st15⟩ := X13.finit hexec hown (wk W (.fieldLink "java/lang/String" 9 "java/lang/String" "value" "[B")) (Or.inr ⟨_, (wk W (.laysFinal "java/lang/String" "java/lang/String" "value" "[B"))⟩) (Or.inl ⟨rfl, hnm⟩) f1 (Or.inl rfl) bl13 (t := (.array .byte)) (by decide +kernel) rfl (g := (mkF m 54 #[.val (.ref a), .val (.ref b), .val (.int (Int32.ofNat o)), .val (.int (Int32.ofNat len)), .val .null, .val (.ref s.heap.size)] [.ref s.heap.size, .ref a])) rfl (rest := []) rfl (hb hbytes d54)
  have c16 : Steps p.tables e below (s₁.setTop (entryFrame m #[.ref a, .ref b, .int (Int32.ofNat o), .int (Int32.ofNat len), .null] 6)) (T15.setTop (mkF m 57 #[.val (.ref a), .val (.ref b), .val (.int (Int32.ofNat o)), .val (.int (Int32.ofNat len)), .val .null, .val (.ref s.heap.size)] [])) := c14.trans (st15 _ (Steps.refl _))
  have ap := apart (Or.inr ⟨_, (wk W (.laysFinal "java/lang/String" "java/lang/String" "value" "[B"))⟩) (Or.inr ⟨_, (wk W (.laysFinal "java/lang/String" "java/lang/String" "coder" "B"))⟩) f1 f2 (t₁ := .array .byte) (t₂ := .byte) (by decide +kernel) (by decide +kernel) (by decide)
  have al := X8.warmed.alike.symm.trans X15.warmed.alike
  have n7 : T11.heap[s.heap.size]? = some N := by rw [q11]; exact n1.1
  exact ⟨T15, none, _, _, _, X15, by simp, rfl, by omega, (fun _ => rfl), ⟨rfl, _, N, bl15, ((Same.refl D _).set _ (by simp)).set _ (by simp), sl15, (Cell.slots_setSlot_ne _ ap).trans sl13, n1.keep al (p15.other hne (p13.other hne n7)), n2, by rw [al.findClass]; exact n3, n4, n5, fun y c h1 h2 => p15.other h1 (p13.other h1 (by rw [q11]; exact n6 y c h2)), by rw [p15.2.2, p13.2.2, q11]; exact z8⟩, fun fs hl => c16.trans (X15.returnOut hexec hret (hb hbytes d57) hl)⟩
end New4
namespace New1
def yN : MethodName := ⟨"java/lang/String", "<init>", "([C)V"⟩
abbrev yB : ByteArray := jdk_42_method_3_code
theorem d0 : decode yB 0 = .ok (.aload_n 0, 1) := by decide +kernel
theorem d1 : decode yB 1 = .ok (.aload_n 1, 1) := by decide +kernel
theorem d2 : decode yB 2 = .ok (.iconst 0, 1) := by decide +kernel
theorem d3 : decode yB 3 = .ok (.aload_n 1, 1) := by decide +kernel
theorem d4 : decode yB 4 = .ok (.arraylength, 1) := by decide +kernel
theorem d5 : decode yB 5 = .ok (.aconst_null, 1) := by decide +kernel
theorem d6 : decode yB 6 = .ok (.invokespecial 27, 3) := by decide +kernel
theorem d9 : decode yB 9 = .ok (.return_, 1) := by decide +kernel
def site : List Cond := [New4.tab] ++ initW "java/lang/String" 27 New4.yN
def tab : Cond := tabOf yN yB 2 none site
def P (a : Addr) (D : Cell) (fV fC : Field) (b : Addr) (A : Cell) (z : Int32) (args : Array Value) (s : State) : Prop := args = #[.ref a, .ref b] ∧ Blank "java/lang/String" a D s ∧ Found "java/lang/String" "value" "[B" fV s ∧ Found "java/lang/String" "coder" "B" fC s ∧ Ch b A s ∧ StaticIs s "java/lang/String" "COMPACT_STRINGS" "Z" (.int z) ∧ ¬ z = 0 ∧ 0 < A.slots.size ∧ A.slots.size ≤ 536870912 ∧ ∀ i, i < A.slots.size → ¬ 255 < cv A i
def E (a : Addr) (D : Cell) (fV fC : Field) (A : Cell) (r : Option Value) (s u : State) : Prop := Got a D fV fC A 0 A.slots.size r s u
/-- new String(chars), not empty, no char above 255: a Latin-1 String of their low bytes -/
theorem law (l : Launch) (a : Addr) (D : Cell) (fV fC : Field) (b : Addr) (A : Cell) (z : Int32) : Law l yN 2 1 3 52 yB 2 none site (P a D fV fC b A z) (E a D fV fC A) [⟨a, fC.slot⟩, ⟨a, fV.slot⟩] 1 A.slots.size := by
  refine Law.of_walk (plainFor_of_name (by decide +kernel)) (by decide +kernel) (by decide +kernel) (by decide) (fun _ _ h => by rw [h.1]; rfl) (fun _ U U' hal hh h => ⟨h.1, h.2.1.mv hal hh, h.2.2.1.al hal, h.2.2.2.1.al hal, h.2.2.2.2.1.mv hal hh, h.2.2.2.2.2.1.there hal hh, h.2.2.2.2.2.2⟩) (fun r U U' V V' h1 hal h2 h => Got.mv r U U' V V' h1 hal h2 h) ?_
  intro p e s m args below meth c s₁ X0 hexec hbytes hml hret hlk hnm hown hh0 W hP
  obtain ⟨rfl, hB, f1, f2, hA, s1, hz, l0, l2, hp⟩ := hP
  have c1 : Steps p.tables e below (s₁.setTop (entryFrame m #[.ref a, .ref b] 2)) (s₁.setTop (mkF m 0 #[.val (.ref a), .val (.ref b)] [])) := entry rfl
  have c2 : Steps p.tables e below (s₁.setTop (entryFrame m #[.ref a, .ref b] 2)) (s₁.setTop (mkF m 6 #[.val (.ref a), .val (.ref b)] [.null, .int (Int32.ofNat A.slots.size), .int 0, .ref b, .ref a])) := c1.trans (by
    refine XS.aloadN X0.here hexec rfl (hb hbytes d0) rfl rfl ?_
    refine XS.aloadN X0.here hexec rfl (hb hbytes d1) rfl rfl ?_
    refine iconstV X0.here hexec rfl 0 (hb hbytes d2) (by decide) ?_
    refine XS.aloadN X0.here hexec rfl (hb hbytes d3) rfl rfl ?_
    refine X0.alen hexec (hA.1.mv X0.warmed.alike hh0) rfl rfl (hb hbytes d4) ?_
    refine XS.aconstNull X0.here hexec rfl (hb hbytes d5) ?_
    exact Steps.refl _)
  obtain ⟨v3, T3, X3, E3, g3⟩ := X0.callN hexec (New4.law l a D fV fC b A z 0 A.slots.size) rfl hown (wks W (initW "java/lang/String" 27 New4.yN)) (W New4.tab (by simp only [site, List.mem_cons, List.mem_append, true_or, or_true])) (W := 0) (Nat.le_of_ble_eq_true rfl) (Nat.le_of_ble_eq_true rfl) (Nat.le_refl _) (by show 0 + A.slots.size ≤ A.slots.size; omega) (g := (mkF m 6 #[.val (.ref a), .val (.ref b)] [.null, .int (Int32.ofNat A.slots.size), .int (Int32.ofNat 0), .ref b, .ref a])) rfl (by rw [hml]; rfl) c2 (argsL := [.ref b, .int (Int32.ofNat 0), .int (Int32.ofNat A.slots.size), .null]) (rest := []) rfl rfl (by show 2 * 0 + 0 ≤ _; decide) (hb hbytes d6) (⟨rfl, hB.mv X0.warmed.alike hh0, f1.al X0.warmed.alike, f2.al X0.warmed.alike, hA.mv X0.warmed.alike hh0, s1.there X0.warmed.alike hh0, hz, l0, by omega, l2, fun i hi => by rw [Nat.zero_add]; exact hp i hi⟩)
  have e0 := Got.mv _ s₁ s _ _ hh0.symm (Vm.Alike.refl _) rfl E3
  obtain rfl := e0.1
  have c4 : Steps p.tables e below (s₁.setTop (entryFrame m #[.ref a, .ref b] 2)) (T3.setTop (mkF m 9 #[.val (.ref a), .val (.ref b)] [])) := g3
  exact ⟨T3, none, _, _, _, X3, by simp, rfl, by omega, (fun _ => rfl), e0, fun fs hl => c4.trans (X3.returnOut hexec hret (hb hbytes d9) hl)⟩
theorem pays {l : Launch} {R : Room} {p : Program} {e : Env} {below : List Frame} {s : State} {sargs : Array Value} {len W : Nat} (a : Addr) (D : Cell) (fV fC : Field) (b : Addr) (A : Cell) (z : Int32) (htab : tab.before sargs s = true) (hfr : 4 ≤ R.frames) (hlo : W + 65 ≤ R.locals) :
    Back l R p e below s sargs yN len W (fun A₁ a₁ => A₁.cells + 1 ≤ R.cells ∧ A₁.slots + A.slots.size ≤ R.slots ∧ P a D fV fC b A z a₁ A₁.U) (fun A₁ _ v₁ B₁ => E a D fV fC A v₁ A₁.U B₁.U ∧ B₁.locs = A₁.locs ++ [⟨a, fC.slot⟩, ⟨a, fV.slot⟩] ∧ B₁.cells = A₁.cells + 1 ∧ B₁.slots = A₁.slots + A.slots.size) :=
  (law l a D fV fC b A z).pays htab hfr (by omega)
end New1
/-- the byte, read back as charAt reads it, is the char -/
theorem lo8_mask {x : Int32} (h0 : ¬ x < 0) (h1 : ¬ 255 < x) : lo8 x &&& 255 = x := by
  have t : ∀ k : Fin 256, lo8 (Int32.ofNat k.val) &&& 255 = Int32.ofNat k.val := by decide +kernel
  rw [Int32.lt_iff_toInt_lt] at h0 h1
  have e0 : (0 : Int32).toInt = 0 := rfl
  have e1 : (255 : Int32).toInt = 255 := rfl
  obtain ⟨k, hk⟩ : ∃ k : Nat, x.toInt = k := ⟨x.toInt.toNat, by omega⟩
  have hx : x = Int32.ofNat k := Int32.toInt_inj.mp (by rw [hk, Int32.toInt_ofNat_small (by omega)])
  rw [hx]
  exact t ⟨k, by omega⟩
end StrChars
namespace StrChars.Road
open Jvm Sem ClassFile Op Lib Jvm.Stand Jvm.Free Jvm.Free.XT
open Jvm.Lib.Cold (StaticIs)
abbrev ST : String := "java/lang/String"
/-- every table word that New1's law asks, flat -/
abbrev words : List Jvm.Cond := [.code New1.yN New1.yB 2 none, .initialized ST, .methodLink ST 27 New4.yN, .instanceMethod New4.yN,
  .code New4.yN New4.yB 6 none, .fieldLink ST 38 ST "COMPACT_STRINGS" "Z", .laysFinal ST ST "value" "[B", .fieldLink ST 9 ST "value" "[B", .laysFinal ST ST "coder" "B", .fieldLink ST 15 ST "coder" "B",
  .methodLink ST 1 Lib.objectInit, .instanceMethod Lib.objectInit, .code Lib.objectInit ⟨#[0xb1]⟩ 1 none, .methodLink ST 177 Cmp3.yN, .static Cmp3.yN, .methodLink ST 47 CodL.yN, .static CodL.yN,
  .code Cmp3.yN Cmp3.yB 6 (some (.array .byte)), .initialized U16, .arrayClass .byte, .methodLink U16 115 Cmp5.yN, .static Cmp5.yN, .code Cmp5.yN Cmp5.yB 7 (some .int), .code CodL.yN CodL.yB 2 (some .byte)]
theorem tab_of {a : Array Value} {s : State} (h : ∀ w ∈ words, w.before a s = true) : New1.tab.before a s = true := by
  have h5 : Cmp5.tab.before a s = true := unparts (wk h (.code Cmp5.yN Cmp5.yB 7 (some .int))) (wks h (.initialized Cmp5.yN.cls :: Cmp5.site))
  have hc : CodL.tab.before a s = true := unparts (wk h (.code CodL.yN CodL.yB 2 (some .byte))) (wks h (.initialized CodL.yN.cls :: CodL.site))
  have q5 : ∀ w ∈ Cmp5.tab :: words, w.before a s = true := fun w hw => (List.mem_cons.mp hw).elim (fun e => e ▸ h5) (h w)
  have h3 : Cmp3.tab.before a s = true := unparts (wk q5 (.code Cmp3.yN Cmp3.yB 6 (some (.array .byte)))) (wks q5 (.initialized Cmp3.yN.cls :: Cmp3.site))
  have q3 : ∀ w ∈ Cmp3.tab :: CodL.tab :: words, w.before a s = true := fun w hw => (List.mem_cons.mp hw).elim (fun e => e ▸ h3) fun hw => (List.mem_cons.mp hw).elim (fun e => e ▸ hc) (h w)
  have h4 : New4.tab.before a s = true := unparts (wk q3 (.code New4.yN New4.yB 6 none)) (wks q3 (.initialized New4.yN.cls :: New4.site))
  have q4 : ∀ w ∈ New4.tab :: words, w.before a s = true := fun w hw => (List.mem_cons.mp hw).elim (fun e => e ▸ h4) (h w)
  exact unparts (wk q4 (.code New1.yN New1.yB 2 none)) (wks q4 (.initialized New1.yN.cls :: New1.site))
/-- the words ride from the start Z to the walk's own state -/
theorem moved {Z s : State} {a0 args : Array Value} (hZ : Z.Warmed39 s.vm) (hw : ∀ d ∈ words, d.before a0 Z = true) : ∀ d ∈ words, d.before args s = true := fun d hd => by
  have q := hw d hd
  have t : ∀ d ∈ words, d = .arrayClass .byte ∨ (d.onTables && d.keepsFace) = true := by decide +kernel
  rcases t d hd with rfl | t
  · exact RoadKit.mvA hZ q
  · exact RoadKit.mv hZ q t
/-- WHAT COMES BACK, over the tables of the start Z: h the heap at the call, h' behind it -/
def Q (Z : State) (x : Addr) (A : Cell) (h : Heap) (v : Option Value) (h' : Heap) (L : List Loc) : Prop := v = none ∧ (∀ y ∈ L, y.base = x) ∧ RoadKit.Keep h h' [x] ∧ h'.size = h.size + 1 ∧ RoadKit.Exa Z h' x ST ∧ RoadKit.Fld Z h' x ST "value" "[B" (.ref h.size) ∧ RoadKit.Fld Z h' x ST "coder" "B" (.int 0) ∧
  (∃ V : Cell, RoadKit.Arr Z h' h.size V .byte ∧ V.vm = .none ∧ Z.vm.findClass "[B" = some V.cls ∧ V.slots.size = A.slots.size ∧ ∀ j, j < A.slots.size → V.slots[j]? = some (.int (lo8 (cv A j)))) ∧
  ∀ (O n d : String) (w : Value), RoadKit.Fld Z h x O n d w → RoadKit.slotOf Z O n d ≠ RoadKit.slotOf Z ST "value" "[B" → RoadKit.slotOf Z O n d ≠ RoadKit.slotOf Z ST "coder" "B" → RoadKit.Fld Z h' x O n d w
/-- **new String(chars) AT A CALL, IN THE ROAD'S FORM**: for specialBack behind newO: x the fresh String, b the char[] with the cell A -/
theorem back {p : Program} {l : Launch} {e : Env} {R : Room} {s : State} {args : Array Value} {below : List Frame} {len W : Nat} {Z : State} {a0 : Array Value} {h : Heap} (hZ : Z.Warmed39 s.vm) (hw : ∀ d ∈ words, d.before a0 Z = true) {kI : Nat} (wi : (Jvm.Cond.instantiable ST kI).before a0 Z = true)
    {x b : Addr} {A : Cell} {z : Int32} {v0 c0 : Value} (E : RoadKit.Exa Z h x ST) (V : RoadKit.Fld Z h x ST "value" "[B" v0) (C : RoadKit.Fld Z h x ST "coder" "B" c0) (K : RoadKit.Arr Z h b A .char) (hty : Typed .char A) (S : RoadKit.Sta Z h ST "COMPACT_STRINGS" "Z" (.int z)) (hz : ¬ z = 0)
    (l0 : 0 < A.slots.size) (l2 : A.slots.size ≤ 536870912) (hp : ∀ i, i < A.slots.size → ¬ 255 < cv A i) (hfr : 4 ≤ R.frames) (hlo : W + 65 ≤ R.locals) :
    Back l R p e below s args New1.yN len W (fun P a => a = #[.ref x, .ref b] ∧ P.U.heap = h ∧ P.cells + 1 ≤ R.cells ∧ P.slots + A.slots.size ≤ R.slots)
      (fun P _ v B => ∃ L, Q Z x A h v B.U.heap L ∧ B.locs = P.locs ++ L ∧ B.cells = P.cells + 1 ∧ B.slots = P.slots + A.slots.size) := by
  intro m meth c P g ig mk a X hg hsize hdg hW hn hp'
  obtain ⟨rfl, rfl, r1, r2⟩ := hp'
  have al : Z.vm.Alike P.U.vm := hZ.alike.trans X.warmed.alike
  obtain ⟨D, cfV, kV, iV, fV, hD, gV, stV, knV, obV, asV, slV⟩ := id V
  obtain ⟨D', cfC, kC, iC, fC, hD', gC, stC, -, -, asC, slC⟩ := id C
  cases hD.symm.trans hD'
  obtain ⟨D2, kD, e1, e2, e3, e4, e5⟩ := id E
  cases hD.symm.trans e1
  obtain ⟨c2, k2, i1, i2, i3, -⟩ := Cond.instantiable_spec wi
  cases e2.symm.trans i1
  cases e3.symm.trans i2
  obtain ⟨kU, u1, u2⟩ := al.2.2 _ _ e3
  have hB : Blank ST x D P.U := ⟨hD, ⟨knV, fun q hq => by rw [hq] at obV; cases obV⟩, by rw [al.findClass]; exact e2, kU, u1, by rw [u2]; exact i3, by rw [u2]; exact e5 i3⟩
  have F1 : Found ST "value" "[B" fV P.U := ⟨SBG.found_only al ⟨cfV, kV, iV, gV⟩, stV⟩
  have F2 : Found ST "coder" "B" fC P.U := ⟨SBG.found_only al ⟨cfC, kC, iC, gC⟩, stC⟩
  have hA : Ch b A P.U := ⟨⟨K.1, State.isArrayOf_alike al K.2.1, K.2.2, by omega⟩, hty⟩
  have hS : StaticIs P.U ST "COMPACT_STRINGS" "Z" (.int z) := by
    obtain ⟨cfS, iS, kS, fS, st, cS, t1, t2, t3, t4, t5, t6, t7⟩ := S
    exact StaticIs.there (s := { Z with heap := P.U.heap }) ⟨cfS, iS, kS, fS, st, cS, t1, t2, t3, t4, t5, (fun q => by rw [q] at t6; cases t6), t7⟩ al rfl
  obtain ⟨v, B, X', ⟨⟨hv, E', V', q1, q2, q3, q4, q5, q6, q7, q8, q9, q10, q11⟩, hl, hc, hs⟩, st⟩ := New1.pays x D fV fC b A z (tab_of (moved hZ hw)) hfr hlo m meth c P g ig mk _ X hg hsize hdg hW hn ⟨r1, r2, rfl, hB, F1, F2, hA, hS, hz, l0, l2, hp⟩
  have al' : Z.vm.Alike B.U.vm := hZ.alike.trans X'.warmed.alike
  have hsz : E'.slots.size = D.slots.size := by
    obtain ⟨-, -, -, kB, w1, w2, w3⟩ := q1
    obtain ⟨kB', y1, y2⟩ := al'.2.2 _ _ e3
    rw [q2.2.1] at w1
    cases w1.symm.trans y1
    rw [w3, e5 i3, y2]
  refine ⟨v, B, X', ⟨_, ⟨hv, ?_, ⟨by omega, fun y cy hy hn' => q10 y cy (by simpa using hn') hy, fun y cy hy => ?_⟩, q11, ⟨E', _, q1.1, by rw [q2.2.1]; exact e2, by rw [q2.2.1]; exact e3, by rw [q2.1]; exact obV, fun _ => by rw [hsz]; exact e5 i3⟩,
    ⟨E', cfV, kV, iV, fV, q1.1, gV, stV, by rw [q2.1]; exact knV, by rw [q2.1]; exact obV, by rw [q2.2.1]; exact asV, q3⟩, ⟨E', cfC, kC, iC, fC, q1.1, gC, stC, by rw [q2.1]; exact knV, by rw [q2.1]; exact obV, by rw [q2.2.1]; exact asC, q4⟩,
    ⟨V', ⟨q5.1, State.isArrayOf_alike al'.symm q5.2.1, q5.2.2.1⟩, q6, by rw [← al'.findClass]; exact q7, q8, fun j hj => by have := q9 j hj; rwa [Nat.zero_add] at this⟩, fun O n d w F n1 n2 => ?_⟩, hl, hc, hs⟩, st⟩
  · intro y hy
    simp only [List.mem_cons, List.not_mem_nil, or_false] at hy
    rcases hy with rfl | rfl <;> rfl
  · by_cases q : y = x
    · subst q
      cases hD.symm.trans hy
      exact ⟨E', q1.1, q2.2.1, q2.1, hsz⟩
    · exact ⟨cy, q10 y cy q hy, rfl, rfl, rfl⟩
  · obtain ⟨D3, cf, k, i, f, g1, g2, g3, g4, g5, g6, g7⟩ := F
    cases hD.symm.trans g1
    simp only [RoadKit.slotOf, g2, gV, gC, Option.map_some, Option.getD_some] at n1 n2
    exact ⟨E', cf, k, i, f, q1.1, g2, g3, by rw [q2.1]; exact g4, by rw [q2.1]; exact g5, by rw [q2.2.1]; exact g6, by rw [q2.2.2 f.slot (by simp [n1, n2])]; exact g7⟩
end StrChars.Road
namespace StrChars.Road
open Jvm Sem ClassFile Op Lib Jvm.Stand Jvm.Free Jvm.Free.XT
/-- WHAT COMES BACK, the byte[] as a list of values -/
def QA (Z : State) (x : Addr) (zn : Int32) (cs : List Int32) (h : Heap) (v : Option Value) (h' : Heap) (L : List Loc) : Prop := v = none ∧ (∀ y ∈ L, y.base = x) ∧ RoadKit.Keep h h' [x] ∧ h'.size = h.size + 1 ∧ RoadKit.Exa Z h' x ST ∧ RoadKit.Fld Z h' x ST "value" "[B" (.ref h.size) ∧ RoadKit.Fld Z h' x ST "coder" "B" (.int 0) ∧
  (∃ kb, Z.vm.findClass "[B" = some kb ∧ RoadKit.Arv Z h' h.size kb .byte zn (cs.map fun c => .int (lo8 c)) (.int 0)) ∧
  ∀ (O n d : String) (w : Value), RoadKit.Fld Z h x O n d w → RoadKit.slotOf Z O n d ≠ RoadKit.slotOf Z ST "value" "[B" → RoadKit.slotOf Z O n d ≠ RoadKit.slotOf Z ST "coder" "B" → RoadKit.Fld Z h' x O n d w
/-- **new String(chars) AT A CALL, THE ARRAYS AS LISTS**: the char[] at b holds cs, not empty, no char above 255 -/
theorem backArv {p : Program} {l : Launch} {e : Env} {R : Room} {s : State} {args : Array Value} {below : List Frame} {len W : Nat} {Z : State} {a0 : Array Value} {h : Heap} (hZ : Z.Warmed39 s.vm) (hw : ∀ d ∈ words, d.before a0 Z = true) {kI : Nat} (wi : (Jvm.Cond.instantiable ST kI).before a0 Z = true)
    {x b : Addr} {k : ClassId} {zn z : Int32} {cs : List Int32} {dv v0 c0 : Value} (E : RoadKit.Exa Z h x ST) (V : RoadKit.Fld Z h x ST "value" "[B" v0) (C : RoadKit.Fld Z h x ST "coder" "B" c0) (K : RoadKit.Arv Z h b k .char zn (cs.map Value.int) dv) (S : RoadKit.Sta Z h ST "COMPACT_STRINGS" "Z" (.int z)) (hz : ¬ z = 0)
    (hlen : zn.toNatClampNeg = cs.length) (h0 : 0 < cs.length) (hbig : cs.length ≤ 536870912) (hall : ∀ c ∈ cs, ¬ 255 < c) (hfr : 4 ≤ R.frames) (hlo : W + 65 ≤ R.locals) :
    Back l R p e below s args New1.yN len W (fun P a => a = #[.ref x, .ref b] ∧ P.U.heap = h ∧ P.cells + 1 ≤ R.cells ∧ P.slots + cs.length ≤ R.slots)
      (fun P _ v B => ∃ L, QA Z x zn cs h v B.U.heap L ∧ B.locs = P.locs ++ L ∧ B.cells = P.cells + 1 ∧ B.slots = P.slots + cs.length) := by
  obtain ⟨A, K1, K2, K3, K4, K5, K6⟩ := K
  have e : A.slots.size = cs.length := K3.trans hlen
  have hat : ∀ (i : Nat) (hi : i < cs.length), A.slots[i]? = some (.int cs[i]) := fun i hi => by rw [K5 i (by omega)]; simp [List.getD_eq_getElem?_getD, hi]
  have hcv : ∀ (i : Nat) (hi : i < cs.length), cv A i = cs[i] := fun i hi => by unfold cv; rw [hat i hi]
  have hty : Typed .char A := fun i v hv => by
    have hi : i < A.slots.size := (Array.getElem?_eq_some_iff.mp hv).1
    have q := K5 i hi
    rw [hv] at q
    rw [Option.some.inj q]
    exact K6 i hi
  refine Back.mono (back hZ hw wi E V C K1 hty S hz (by omega) (by omega) (fun i hi => by rw [hcv i (by omega)]; exact hall _ (List.getElem_mem _)) hfr hlo) (fun P a hp => ⟨hp.1, hp.2.1, hp.2.2.1, by rw [e]; exact hp.2.2.2⟩) (fun P a v B hp hq => ?_)
  obtain ⟨L, ⟨q1, q2, q3, q4, q5, q6, q7, ⟨V', v1, v2, v3, v4, v5⟩, q9⟩, hl, hc, hs⟩ := hq
  refine ⟨L, ⟨q1, q2, q3, q4, q5, q6, q7, ⟨V'.cls, v3, V', v1, rfl, by rw [v4, e, hlen], K4, fun i hi => ?_, fun i hi => ?_⟩, q9⟩, hl, hc, by rw [hs, e]⟩
  · have hi' : i < cs.length := by omega
    rw [v5 i (by omega), hcv i hi']; simp [List.getD_eq_getElem?_getD, hi']
  · have hi' : i < cs.length := by omega
    simp only [List.getD_eq_getElem?_getD, List.getElem?_map, List.getElem?_eq_getElem hi', Option.map_some, Option.getD_some]
    exact fits_lo8 _
end StrChars.Road
namespace StrChars.Road
open Jvm Sem ClassFile Op Lib Jvm.Stand Jvm.Free Jvm.Free.XT
/-- WHAT COMES BACK, in the writer's own shape -/
def QV (Z : State) (x : Addr) (N : Int32) (bs : List Int32) (h : Heap) (n0 : Nat) (v : Option Value) (h' : Heap) (L : List Loc) : Prop := v = none ∧ RoadKit.Fr n0 L ∧ RoadKit.Keep h h' [x] ∧ RoadKit.Exa Z h' x ST ∧ RoadKit.Fld Z h' x ST "coder" "B" (.int 0) ∧
  ∃ (t : Addr) (kb : ClassId), n0 ≤ t ∧ h.size ≤ t ∧ ¬ t = x ∧ RoadKit.Fld Z h' x ST "value" "[B" (.ref t) ∧ RoadKit.Arv Z h' t kb .byte N (bs.map Value.int) (.int 0)
/-- **new String(chars) AT A CALL, FOR THE WRITER**: a char[] of n known ints, each 0 to 255 -/
theorem backV {p : Program} {l : Launch} {e : Env} {R : Room} {s : State} {args : Array Value} {below : List Frame} {len W : Nat} {Z : State} {a0 : Array Value} {h : Heap} (hZ : Z.Warmed39 s.vm) (hw : ∀ d ∈ words, d.before a0 Z = true) {kI : Nat} (wi : (Jvm.Cond.instantiable ST kI).before a0 Z = true)
    {x b : Addr} {kC : ClassId} {cs bs : List Int32} {d v0 c0 : Value} {z N : Int32} {n n0 : Nat} (hx0 : n0 ≤ x) (hh0 : n0 ≤ h.size) (E : RoadKit.Exa Z h x ST) (V : RoadKit.Fld Z h x ST "value" "[B" v0) (C : RoadKit.Fld Z h x ST "coder" "B" c0) (K : RoadKit.Arv Z h b kC .char N (cs.map Value.int) d) (S : RoadKit.Sta Z h ST "COMPACT_STRINGS" "Z" (.int z)) (hz : ¬ z = 0)
    (hn : cs.length = n) (hN : N = Int32.ofNat n) (l0 : 0 < n) (l2 : n ≤ 4000) (hp : ∀ c ∈ cs, ¬ c < 0 ∧ ¬ (255 : Int32) < c) (hb : bs = cs.map (fun c => c.toInt8.toInt32)) (hfr : 4 ≤ R.frames) (hlo : W + 65 ≤ R.locals) :
    Back l R p e below s args (⟨"java/lang/String", "<init>", "([C)V"⟩ : MethodName) len W (fun P a => a = #[.ref x, .ref b] ∧ P.U.heap = h ∧ P.cells + 1 ≤ R.cells ∧ P.slots + n ≤ R.slots)
      (fun P _ v B => ∃ L, QV Z x N bs h n0 v B.U.heap L ∧ B.locs = P.locs ++ L ∧ B.cells = P.cells + 1 ∧ B.slots = P.slots + n) := by
  subst hn hN hb
  refine Back.mono (backArv hZ hw wi E V C K S hz (n32 (by omega)) l0 (by omega) (fun c hc => (hp c hc).2) hfr hlo) (fun P a hp => hp) (fun P a v B hp hq => ?_)
  obtain ⟨L, ⟨q1, q2, q3, q4, q5, q6, q7, ⟨kb, v1, v2⟩, q9⟩, hl, hc, hs⟩ := hq
  exact ⟨L, ⟨q1, fun y hy => by rw [q2 y hy]; exact hx0, q3, q5, q7, h.size, kb, hh0, Nat.le_refl _, Nat.ne_of_gt E.lt, q6, by rw [List.map_map]; exact v2⟩, hl, hc, hs⟩
end StrChars.Road
namespace StrChars
open Jvm Sem ClassFile Op Lib Jvm.Stand Jvm.Free.XT Jvm.Free.ALB Jvm.Free.JM Jvm.Free
open Jvm.Lib.Cold (StaticIs)
def hi8 (x : Int32) : Int32 := lo8 (x >>> ((8 : Int32) &&& 31))
/-- what StringUTF16.getChar makes of two bytes -/
def pairCh (u v : Int32) : Int32 := (((u &&& 255) <<< ((0 : Int32) &&& 31)) ||| ((v &&& 255) <<< ((8 : Int32) &&& 31))).toUInt32.toUInt16.toUInt32.toInt32
theorem lo8_and (x : Int32) : (lo8 x &&& 255).toBitVec.toNat = x.toBitVec.toNat % 256 := by
  have h : (lo8 x).toBitVec = (x.toBitVec.signExtend 8).signExtend 32 := by rw [lo8, Int8.toBitVec_toInt32, Int32.toBitVec_toInt8]
  rw [Int32.toBitVec_and, BitVec.toNat_and, h]
  have e : ((x.toBitVec.signExtend 8).signExtend 32).toNat % 256 = x.toBitVec.toNat % 256 := by
    rw [BitVec.toNat_signExtend]
    have hlt := x.toBitVec.isLt
    simp only [BitVec.toNat_setWidth, BitVec.toNat_signExtend]
    split <;> split <;> omega
  rw [← e]
  exact Nat.and_two_pow_sub_one_eq_mod _ 8
theorem pair_says {c : Int32} (h0 : ¬ c < 0) (h1 : ¬ 65535 < c) : pairCh (lo8 c) (hi8 c) = c := by
  rw [Int32.lt_iff_toInt_lt] at h0 h1
  have e0 : (0 : Int32).toInt = 0 := rfl
  have e1 : (65535 : Int32).toInt = 65535 := rfl
  have hc : c.toInt = c.toBitVec.toNat := by
    have := c.toBitVec.isLt
    have e : c.toInt = c.toBitVec.toInt := rfl
    rw [e] at h0 h1
    rw [e]
    rw [BitVec.toInt_eq_toNat_cond] at h0 h1 ⊢
    split at h0 <;> split <;> omega
  have hn : c.toBitVec.toNat < 65536 := by omega
  have a1 := lo8_and c
  have a2 : (hi8 c &&& 255).toBitVec.toNat = c.toBitVec.toNat / 256 := by
    rw [hi8, lo8_and]
    have e : ((8 : Int32) &&& 31) = 8 := by decide
    rw [e, Int32.toBitVec_shiftRight]
    have e2 : ((8 : Int32).toBitVec.smod 32) = 8#32 := by decide
    rw [e2, BitVec.sshiftRight_eq', BitVec.toNat_sshiftRight_of_msb_false (by rw [BitVec.msb_eq_false_iff_two_mul_lt]; omega)]
    show c.toBitVec.toNat >>> 8 % 256 = _
    rw [Nat.shiftRight_eq_div_pow]
    omega
  unfold pairCh
  apply Int32.toBitVec_inj.mp
  apply BitVec.eq_of_toNat_eq
  have f0 : ((0 : Int32) &&& 31) = 0 := by decide
  have f8 : ((8 : Int32) &&& 31) = 8 := by decide
  rw [f0, f8]
  have g : (((lo8 c &&& 255) <<< (0 : Int32)) ||| ((hi8 c &&& 255) <<< (8 : Int32))).toBitVec.toNat = c.toBitVec.toNat := by
    rw [Int32.toBitVec_or, Int32.toBitVec_shiftLeft, Int32.toBitVec_shiftLeft]
    have s0 : ((0 : Int32).toBitVec.smod 32) = 0#32 := by decide
    have s8 : ((8 : Int32).toBitVec.smod 32) = 8#32 := by decide
    rw [s0, s8, BitVec.toNat_or]
    simp only [BitVec.shiftLeft_eq', BitVec.toNat_shiftLeft, a1, a2]
    show (c.toBitVec.toNat % 256) <<< 0 % 2 ^ 32 ||| (c.toBitVec.toNat / 256) <<< 8 % 2 ^ 32 = _
    rw [Nat.shiftLeft_zero, Nat.mod_eq_of_lt (show c.toBitVec.toNat % 256 < 2 ^ 32 by omega), Nat.mod_eq_of_lt (show (c.toBitVec.toNat / 256) <<< 8 < 2 ^ 32 by rw [Nat.shiftLeft_eq]; omega), Nat.or_comm, ← Nat.shiftLeft_add_eq_or_of_lt (by omega), Nat.shiftLeft_eq]
    omega
  show BitVec.toNat (((((lo8 c &&& 255) <<< (0 : Int32)) ||| ((hi8 c &&& 255) <<< (8 : Int32))).toBitVec.setWidth 16).setWidth 32) = _
  rw [BitVec.toNat_setWidth, BitVec.toNat_setWidth, g]
  omega
end StrChars
namespace StrChars
open Jvm Sem ClassFile Op Lib Jvm.Stand Jvm.Free.XT Jvm.Free.ALB Jvm.Free.JM Jvm.Free
open Jvm.Lib.Cold (StaticIs)
/-- the array's cell V codes the n chars f 0 .. f (n - 1) by the coder cd, as the JDK does: coder 1 just where some char is above 255 -/
def Cod (cd : Int32) (n : Nat) (f : Nat → Int32) (V : Cell) : Prop := (cd = 0 ∧ V.slots.size = n ∧ ∀ j, j < n → V.slots[j]? = some (.int (lo8 (f j))) ∧ ¬ 255 < f j) ∨ (cd = 1 ∧ V.slots.size = 2 * n ∧ (∀ j, j < n → V.slots[2 * j]? = some (.int (lo8 (f j))) ∧ V.slots[2 * j + 1]? = some (.int (hi8 (f j)))) ∧ ∃ j, j < n ∧ 255 < f j)
/-- **x is a String of the n chars f 0 .. f (n - 1)**, Latin-1 or UTF-16; its array at t has the cell V -/
def Txt (x t : Addr) (V : Cell) (cd : Int32) (n : Nat) (f : Nat → Int32) (U : State) : Prop := Exact "java/lang/String" x U ∧ Has x "java/lang/String" "value" "[B" (.ref t) U ∧ Has x "java/lang/String" "coder" "B" (.int cd) U ∧ XT.Arr .byte t V U ∧ Cod cd n f V ∧ ∀ j, j < n → ¬ f j < 0 ∧ ¬ 65535 < f j
theorem Txt.mv {x t : Addr} {V : Cell} {cd : Int32} {n : Nat} {f : Nat → Int32} {U U' : State} (h : Txt x t V cd n f U) (hal : U.vm.Alike U'.vm) (hh : U'.heap = U.heap) : Txt x t V cd n f U' := ⟨h.1.mv hal hh, h.2.1.mv hal hh, h.2.2.1.mv hal hh, h.2.2.2.1.mv hal hh, h.2.2.2.2⟩
end StrChars
namespace StrChars.Road
open Jvm Sem ClassFile Op Lib Jvm.Stand Jvm.Free Jvm.Free.XT
open Jvm.Lib.Cold (StaticIs)
theorem consq {a : Array Value} {s : State} {c : Jvm.Cond} {L : List Jvm.Cond} (h0 : c.before a s = true) (h : ∀ w ∈ L, w.before a s = true) : ∀ w ∈ c :: L, w.before a s = true := fun w hw => (List.mem_cons.mp hw).elim (fun e => e ▸ h0) (h w)
/-- the bytes of the chars cs, low before high -/
def wideBytes : List Int32 → List Value
  | [] => []
  | c :: cs => .int (lo8 c) :: .int (hi8 c) :: wideBytes cs
theorem wide_lo (d : Value) : ∀ (cs : List Int32) (j : Nat), j < cs.length → (wideBytes cs).getD (2 * j) d = .int (lo8 (cs.getD j 0))
  | [], j, h => absurd h (Nat.not_lt_zero j)
  | c :: cs, 0, _ => rfl
  | c :: cs, j + 1, h => by
    have q := wide_lo d cs j (by simpa using h)
    rw [show 2 * (j + 1) = 2 * j + 1 + 1 from by omega]
    simpa [wideBytes] using q
theorem wide_hi (d : Value) : ∀ (cs : List Int32) (j : Nat), j < cs.length → (wideBytes cs).getD (2 * j + 1) d = .int (hi8 (cs.getD j 0))
  | [], j, h => absurd h (Nat.not_lt_zero j)
  | c :: cs, 0, _ => rfl
  | c :: cs, j + 1, h => by
    have q := wide_hi d cs j (by simpa using h)
    rw [show 2 * (j + 1) + 1 = 2 * j + 1 + 1 + 1 from by omega]
    simpa [wideBytes] using q
theorem low_at (d : Value) (cs : List Int32) (j : Nat) (h : j < cs.length) : (cs.map fun c => Value.int (lo8 c)).getD j d = .int (lo8 (cs.getD j 0)) := by
  simp [List.getD_eq_getElem?_getD, h]
/-- an array of N2 bytes vs codes the chars cs by the coder cd -/
def CodA (cs : List Int32) (cd N2 : Int32) (vs : List Value) : Prop := (cd = 0 ∧ N2 = Int32.ofNat cs.length ∧ vs = (cs.map fun c => Value.int (lo8 c)) ∧ ∀ c ∈ cs, ¬ 255 < c) ∨ (cd = 1 ∧ N2 = Int32.ofNat (2 * cs.length) ∧ vs = wideBytes cs ∧ ∃ c ∈ cs, 255 < c)
theorem CodA.cod {cs : List Int32} {cd N2 : Int32} {vs : List Value} {V : Cell} (h : CodA cs cd N2 vs) (hn : 2 * cs.length < 2 ^ 31) (hs : V.slots.size = N2.toNatClampNeg) (hv : RoadKit.Has V vs (.int 0)) : Cod cd cs.length (fun j => cs.getD j 0) V := by
  rcases h with ⟨rfl, rfl, rfl, h⟩ | ⟨rfl, rfl, rfl, c, hc, hw⟩
  · rw [n32 (by omega)] at hs
    exact Or.inl ⟨rfl, hs, fun j hj => ⟨by rw [hv j (by omega), low_at _ _ _ hj], by
      have e : cs.getD j 0 = cs[j] := by simp [List.getD_eq_getElem?_getD, hj]
      show ¬ 255 < cs.getD j 0
      rw [e]; exact h _ (List.getElem_mem _)⟩⟩
  · rw [n32 (by omega)] at hs
    obtain ⟨j, hj, rfl⟩ := List.getElem_of_mem hc
    exact Or.inr ⟨rfl, hs, fun j hj => ⟨by rw [hv _ (by omega), wide_lo _ _ _ hj], by rw [hv _ (by omega), wide_hi _ _ _ hj]⟩, j, hj, by
      have e : cs.getD j 0 = cs[j] := by simp [List.getD_eq_getElem?_getD, hj]
      show 255 < cs.getD j 0
      rw [e]; exact hw⟩
/-- an object of exactly java/lang/String, its two fields found: as the laws ask it -/
theorem strObj {Z U : State} {a0 : Array Value} {kI : Nat} (wi : (Jvm.Cond.instantiable ST kI).before a0 Z = true) (al : Z.vm.Alike U.vm) {x : Addr} {v0 c0 : Value} (E : RoadKit.Exa Z U.heap x ST) (V : RoadKit.Fld Z U.heap x ST "value" "[B" v0) (C : RoadKit.Fld Z U.heap x ST "coder" "B" c0) :
    ∃ (D : Cell) (fV fC : Field), Blank ST x D U ∧ Found ST "value" "[B" fV U ∧ Found ST "coder" "B" fC U ∧ D.slots[fV.slot]? = some v0 ∧ D.slots[fC.slot]? = some c0 ∧ RoadKit.slotOf Z ST "value" "[B" = fV.slot ∧ RoadKit.slotOf Z ST "coder" "B" = fC.slot := by
  obtain ⟨D, cfV, kV, iV, fV, hD, gV, stV, knV, obV, asV, slV⟩ := V
  obtain ⟨D', cfC, kC, iC, fC, hD', gC, stC, -, -, asC, slC⟩ := C
  cases hD.symm.trans hD'
  obtain ⟨D2, kD, e1, e2, e3, e4, e5⟩ := E
  cases hD.symm.trans e1
  obtain ⟨c2, k2, i1, i2, i3, -⟩ := Cond.instantiable_spec wi
  cases e2.symm.trans i1
  cases e3.symm.trans i2
  obtain ⟨kU, u1, u2⟩ := al.2.2 _ _ e3
  exact ⟨D, fV, fC, ⟨hD, ⟨knV, fun q hq => by rw [hq] at obV; cases obV⟩, by rw [al.findClass]; exact e2, kU, u1, by rw [u2]; exact i3, by rw [u2]; exact e5 i3⟩, ⟨SBG.found_only al ⟨cfV, kV, iV, gV⟩, stV⟩, ⟨SBG.found_only al ⟨cfC, kC, iC, gC⟩, stC⟩, slV, slC, by simp [RoadKit.slotOf, gV], by simp [RoadKit.slotOf, gC]⟩
theorem sta_is {Z U : State} (al : Z.vm.Alike U.vm) {C n d : String} {v : Value} (S : RoadKit.Sta Z U.heap C n d v) : StaticIs U C n d v := by
  obtain ⟨cfS, iS, kS, fS, st, cS, t1, t2, t3, t4, t5, t6, t7⟩ := S
  exact StaticIs.there (s := { Z with heap := U.heap }) ⟨cfS, iS, kS, fS, st, cS, t1, t2, t3, t4, t5, (fun q => by rw [q] at t6; cases t6), t7⟩ al rfl
end StrChars.Road
namespace StrChars
open Jvm Sem ClassFile Op Lib Jvm.Stand Jvm.Free.XT Jvm.Free.ALB Jvm.Free.JM Jvm.Free
open Jvm.Lib.Cold (StaticIs)
/-- what place i of a byte[]'s cell holds -/
def yv (A : Cell) (i : Nat) : Int32 := match A.slots[i]? with | some (.int x) => x | _ => 0
theorem yv_get {a : Addr} {A : Cell} {U : State} (h : XT.Arr .byte a A U) (ht : Typed .byte A) {i : Nat} (hi : i < A.slots.size) : A.slots[i]? = some (.int (yv A i)) := by
  have e := Array.getElem?_eq_getElem hi
  have f := ht i _ e
  unfold yv; rw [e]
  generalize A.slots[i] = v at f
  cases v <;> simp [fits] at f ⊢
/-- the two arrays are equal, place for place -/
def EqC (A B : Cell) : Prop := A.slots.size = B.slots.size ∧ ∀ i, i < A.slots.size → yv A i = yv B i
/-- a boolean that says whether p -/
def Says01 (q : Prop) (r : Option Value) (s u : State) : Prop := ∃ v : Int32, r = some (.int v) ∧ u.heap = s.heap ∧ ((v = 1 ∧ q) ∨ (v = 0 ∧ ¬ q))
theorem Says01.mv {q : Prop} : ∀ r (U U' V V' : State), U'.heap = U.heap → V.vm.Alike V'.vm → V'.heap = V.heap → Says01 q r U V → Says01 q r U' V' :=
  fun r U U' V V' h1 _ h2 ⟨v, a, b, c⟩ => ⟨v, a, by rw [h1, h2]; exact b, c⟩
namespace LEq
def yN : MethodName := ⟨"java/lang/StringLatin1", "equals", "([B[B)Z"⟩
abbrev yB : ByteArray := jdk_43_method_13_code
theorem d0 : decode yB 0 = .ok (.aload_n 0, 1) := by decide +kernel
theorem d1 : decode yB 1 = .ok (.arraylength, 1) := by decide +kernel
theorem d2 : decode yB 2 = .ok (.aload_n 1, 1) := by decide +kernel
theorem d3 : decode yB 3 = .ok (.arraylength, 1) := by decide +kernel
theorem d4 : decode yB 4 = .ok (.if_icmp (.ne) 30, 3) := by decide +kernel
theorem d7 : decode yB 7 = .ok (.iconst 0, 1) := by decide +kernel
theorem d8 : decode yB 8 = .ok (.istore_n 2, 1) := by decide +kernel
theorem d9 : decode yB 9 = .ok (.iload_n 2, 1) := by decide +kernel
theorem d10 : decode yB 10 = .ok (.aload_n 0, 1) := by decide +kernel
theorem d11 : decode yB 11 = .ok (.arraylength, 1) := by decide +kernel
theorem d12 : decode yB 12 = .ok (.if_icmp (.ge) 20, 3) := by decide +kernel
theorem d15 : decode yB 15 = .ok (.aload_n 0, 1) := by decide +kernel
theorem d16 : decode yB 16 = .ok (.iload_n 2, 1) := by decide +kernel
theorem d17 : decode yB 17 = .ok (.baload, 1) := by decide +kernel
theorem d18 : decode yB 18 = .ok (.aload_n 1, 1) := by decide +kernel
theorem d19 : decode yB 19 = .ok (.iload_n 2, 1) := by decide +kernel
theorem d20 : decode yB 20 = .ok (.baload, 1) := by decide +kernel
theorem d21 : decode yB 21 = .ok (.if_icmp (.eq) 5, 3) := by decide +kernel
theorem d24 : decode yB 24 = .ok (.iconst 0, 1) := by decide +kernel
theorem d25 : decode yB 25 = .ok (.ireturn, 1) := by decide +kernel
theorem d26 : decode yB 26 = .ok (.iinc 2 1, 3) := by decide +kernel
theorem d29 : decode yB 29 = .ok (.goto (-20), 3) := by decide +kernel
theorem d32 : decode yB 32 = .ok (.iconst 1, 1) := by decide +kernel
theorem d33 : decode yB 33 = .ok (.ireturn, 1) := by decide +kernel
theorem d34 : decode yB 34 = .ok (.iconst 0, 1) := by decide +kernel
theorem d35 : decode yB 35 = .ok (.ireturn, 1) := by decide +kernel
def site : List Cond := []
def tab : Cond := tabOf yN yB 3 (some .boolean) site
def P (a : Addr) (A : Cell) (b : Addr) (B : Cell) (args : Array Value) (s : State) : Prop := args = #[.ref a, .ref b] ∧ XT.Arr .byte a A s ∧ Typed .byte A ∧ XT.Arr .byte b B s ∧ Typed .byte B
/-- whether two byte[] are equal, place for place -/
theorem law (l : Launch) (a : Addr) (A : Cell) (b : Addr) (B : Cell) : Law l yN 2 2 0 0 yB 3 (some .boolean) site (P a A b B) (Says01 (EqC A B)) [] 0 0 := by
  refine Law.of_walk (plainFor_of_name (by decide +kernel)) (by decide +kernel) (by decide +kernel) (by decide) (fun _ _ h => by rw [h.1]; rfl) (fun _ U U' hal hh h => ⟨h.1, h.2.1.mv hal hh, h.2.2.1, h.2.2.2.1.mv hal hh, h.2.2.2.2⟩) (fun r U U' V V' h1 hal h2 h => Says01.mv r U U' V V' h1 hal h2 h) ?_
  intro p e s m args below meth c s₁ X0 hexec hbytes hml hret hlk hnm hown hh0 W hP
  obtain ⟨rfl, hA, tA, hB, tB⟩ := hP
  have a31 := hA.2.2.2
  have b31 := hB.2.2.2
  have hA0 := hA.mv X0.warmed.alike hh0
  have hB0 := hB.mv X0.warmed.alike hh0
  have c1 : Steps p.tables e below (s₁.setTop (entryFrame m #[.ref a, .ref b] 3)) (s₁.setTop (mkF m 0 #[.val (.ref a), .val (.ref b), .unset] [])) := entry rfl
  have c2 : Steps p.tables e below (s₁.setTop (entryFrame m #[.ref a, .ref b] 3)) (s₁.setTop (mkF m 4 #[.val (.ref a), .val (.ref b), .unset] [.int (Int32.ofNat B.slots.size), .int (Int32.ofNat A.slots.size)])) := c1.trans (by
    refine XS.aloadN X0.here hexec rfl (hb hbytes d0) rfl rfl ?_
    refine X0.alen hexec hA0 rfl rfl (hb hbytes d1) ?_
    refine XS.aloadN X0.here hexec rfl (hb hbytes d2) rfl rfl ?_
    refine X0.alen hexec hB0 rfl rfl (hb hbytes d3) ?_
    exact Steps.refl _)
  by_cases hs : A.slots.size = B.slots.size
  · have c3 : Steps p.tables e below (s₁.setTop (entryFrame m #[.ref a, .ref b] 3)) (s₁.setTop (mkF m 9 #[.val (.ref a), .val (.ref b), .val (.int 0)] [])) := c2.trans (by
      refine XS.icmpNo X0.here hexec rfl (hb hbytes d4) rfl (ii_ne_f (by rw [hs])) ?_
      refine iconstV X0.here hexec rfl 0 (hb hbytes d7) (by decide) ?_
      refine XS.istoreN X0.here hexec rfl (hb hbytes d8) rfl rfl ?_
      exact Steps.refl _)
    have loop : ∀ (r i : Nat), i + r = A.slots.size → (∀ j, j < i → yv A j = yv B j) → Steps p.tables e below (s₁.setTop (entryFrame m #[.ref a, .ref b] 3)) (s₁.setTop (mkF m 9 #[.val (.ref a), .val (.ref b), .val (.int (Int32.ofNat i))] [])) → ∃ (pc : Nat) (Ls : Array Slot) (v : Int32), (pc = 25 ∨ pc = 33) ∧ ((v = 1 ∧ EqC A B) ∨ (v = 0 ∧ ¬ EqC A B)) ∧ Steps p.tables e below (s₁.setTop (entryFrame m #[.ref a, .ref b] 3)) (s₁.setTop (mkF m pc Ls [.int v])) := by
      intro r
      induction r with
      | zero =>
        intro i hi he cl
        exact ⟨33, _, 1, Or.inr rfl, Or.inl ⟨rfl, hs, fun j hj => he j (by omega)⟩, cl.trans (by
          refine XS.iloadN X0.here hexec rfl (hb hbytes d9) rfl ?_
          refine XS.aloadN X0.here hexec rfl (hb hbytes d10) rfl rfl ?_
          refine X0.alen hexec hA0 rfl rfl (hb hbytes d11) ?_
          refine XS.icmpYes X0.here hexec rfl (pc0 := 12) rfl (hb hbytes d12) rfl (ii_ge_t (nlt32 (by omega) (by omega))) (by decide) rfl ?_
          refine iconstV X0.here hexec rfl 1 (hb hbytes d32) (by decide) ?_
          exact Steps.refl _)⟩
      | succ r ih =>
        intro i hi he cl
        have c4 : Steps p.tables e below (s₁.setTop (entryFrame m #[.ref a, .ref b] 3)) (s₁.setTop (mkF m 21 #[.val (.ref a), .val (.ref b), .val (.int (Int32.ofNat i))] [.int (yv B i), .int (yv A i)])) := cl.trans (by
          refine XS.iloadN X0.here hexec rfl (hb hbytes d9) rfl ?_
          refine XS.aloadN X0.here hexec rfl (hb hbytes d10) rfl rfl ?_
          refine X0.alen hexec hA0 rfl rfl (hb hbytes d11) ?_
          refine XS.icmpNo X0.here hexec rfl (hb hbytes d12) rfl (ii_ge_f (lt32 (by omega) (by omega))) ?_
          refine XS.aloadN X0.here hexec rfl (hb hbytes d15) rfl rfl ?_
          refine XS.iloadN X0.here hexec rfl (hb hbytes d16) rfl ?_
          refine X0.aget hexec hA0 rfl (yv_get hA tA (i := i) (by omega)) rfl rfl (hb hbytes d17) ?_
          refine XS.aloadN X0.here hexec rfl (hb hbytes d18) rfl rfl ?_
          refine XS.iloadN X0.here hexec rfl (hb hbytes d19) rfl ?_
          refine X0.aget hexec hB0 rfl (yv_get hB tB (i := i) (by omega)) rfl rfl (hb hbytes d20) ?_
          exact Steps.refl _)
        by_cases hv : yv A i = yv B i
        · have c5 : Steps p.tables e below (s₁.setTop (entryFrame m #[.ref a, .ref b] 3)) (s₁.setTop (mkF m 9 #[.val (.ref a), .val (.ref b), .val (.int (Int32.ofNat i + 1))] [])) := c4.trans (by
            refine XS.icmpYes X0.here hexec rfl (pc0 := 21) rfl (hb hbytes d21) rfl (ii_eq_t hv) (by decide) rfl ?_
            refine iincV X0.here hexec rfl 1 (hb hbytes d26) (by decide) rfl rfl ?_
            refine XS.goto X0.here hexec rfl (pc0 := 29) rfl (hb hbytes d29) (by decide) rfl ?_
            exact Steps.refl _)
          rw [succ32] at c5
          exact ih (i + 1) (by omega) (fun j hj => by
            by_cases e : j = i
            · rw [e]; exact hv
            · exact he j (by omega)) c5
        · exact ⟨25, _, 0, Or.inl rfl, Or.inr ⟨rfl, fun q => hv (q.2 i (by omega))⟩, c4.trans (by
            refine XS.icmpNo X0.here hexec rfl (hb hbytes d21) rfl (ii_eq_f hv) ?_
            refine iconstV X0.here hexec rfl 0 (hb hbytes d24) (by decide) ?_
            exact Steps.refl _)⟩
    obtain ⟨pc, Ls, v, hpc, hv, cz⟩ := loop A.slots.size 0 (by omega) (fun j hj => absurd hj (Nat.not_lt_zero j)) c3
    have nv : narrow .boolean (.int v) = .int v := by rcases hv with ⟨rfl, -⟩ | ⟨rfl, -⟩ <;> rfl
    rcases hpc with rfl | rfl
    · exact ⟨s₁, some (.int v), _, _, _, X0, rfl, rfl, rfl, (fun h => by cases h), ⟨v, rfl, hh0, hv⟩, fun fs hl => cz.trans (X0.ireturnOut hexec hret nv (Or.inr (Or.inl rfl)) (hb hbytes d25) hl)⟩
    · exact ⟨s₁, some (.int v), _, _, _, X0, rfl, rfl, rfl, (fun h => by cases h), ⟨v, rfl, hh0, hv⟩, fun fs hl => cz.trans (X0.ireturnOut hexec hret nv (Or.inr (Or.inl rfl)) (hb hbytes d33) hl)⟩
  · have c3 : Steps p.tables e below (s₁.setTop (entryFrame m #[.ref a, .ref b] 3)) (s₁.setTop (mkF m 35 #[.val (.ref a), .val (.ref b), .unset] [.int 0])) := c2.trans (by
      refine XS.icmpYes X0.here hexec rfl (pc0 := 4) rfl (hb hbytes d4) rfl (ii_ne_t (ne32 a31 b31 hs)) (by decide) rfl ?_
      refine iconstV X0.here hexec rfl 0 (hb hbytes d34) (by decide) ?_
      exact Steps.refl _)
    exact ⟨s₁, some (.int 0), _, _, _, X0, rfl, rfl, rfl, (fun h => by cases h), ⟨0, rfl, hh0, Or.inr ⟨rfl, fun q => hs q.1⟩⟩, fun fs hl => c3.trans (X0.ireturnOut hexec hret rfl (Or.inr (Or.inl rfl)) (hb hbytes d35) hl)⟩
end LEq
theorem Cod.ty {cd : Int32} {n : Nat} {f : Nat → Int32} {V : Cell} (h : Cod cd n f V) : Typed .byte V := fun i v hv => by
  have hi : i < V.slots.size := (Array.getElem?_eq_some_iff.mp hv).1
  rcases h with ⟨-, k1, k2⟩ | ⟨-, k1, k2, -⟩
  · rw [(k2 i (by omega)).1] at hv; cases hv; exact fits_lo8 _
  · rcases Nat.mod_two_eq_zero_or_one i with e | e
    · obtain ⟨j, rfl⟩ : ∃ j, i = 2 * j := ⟨i / 2, by omega⟩
      rw [(k2 j (by omega)).1] at hv; cases hv; exact fits_lo8 _
    · obtain ⟨j, rfl⟩ : ∃ j, i = 2 * j + 1 := ⟨i / 2, by omega⟩
      rw [(k2 j (by omega)).2] at hv; cases hv; exact fits_lo8 _
/-- the same text -/
def SameT (n : Nat) (f : Nat → Int32) (k : Nat) (g : Nat → Int32) : Prop := n = k ∧ ∀ j, j < n → f j = g j
theorem lo8_inj {x y : Int32} (h0 : ¬ x < 0) (h1 : ¬ 255 < x) (k0 : ¬ y < 0) (k1 : ¬ 255 < y) (h : lo8 x = lo8 y) : x = y := by
  rw [← lo8_mask h0 h1, ← lo8_mask k0 k1, h]
/-- arrays coded by one coder are equal just where the texts are -/
theorem Cod.eqv {cd : Int32} {n k : Nat} {f g : Nat → Int32} {V V' : Cell} (h : Cod cd n f V) (h' : Cod cd k g V') (hf : ∀ j, j < n → ¬ f j < 0 ∧ ¬ 65535 < f j) (hg : ∀ j, j < k → ¬ g j < 0 ∧ ¬ 65535 < g j) : EqC V V' ↔ SameT n f k g := by
  have yvv : ∀ {W : Cell} {i : Nat} {x : Int32}, W.slots[i]? = some (.int x) → yv W i = x := fun q => by unfold yv; rw [q]
  rcases h with ⟨rfl, k1, k2⟩ | ⟨rfl, k1, k2, -⟩
  · rcases h' with ⟨-, m1, m2⟩ | ⟨e, -⟩
    · constructor
      · rintro ⟨e1, e2⟩
        refine ⟨by omega, fun j hj => ?_⟩
        have q := e2 j (by omega)
        rw [yvv (k2 j hj).1, yvv (m2 j (by omega)).1] at q
        exact lo8_inj (hf j hj).1 (k2 j hj).2 (hg j (by omega)).1 (m2 j (by omega)).2 q
      · rintro ⟨rfl, e2⟩
        refine ⟨by omega, fun j hj => ?_⟩
        rw [yvv (k2 j (by omega)).1, yvv (m2 j (by omega)).1, e2 j (by omega)]
    · exact absurd e (by decide)
  · rcases h' with ⟨e, -⟩ | ⟨-, m1, m2, -⟩
    · exact absurd e (by decide)
    · constructor
      · rintro ⟨e1, e2⟩
        refine ⟨by omega, fun j hj => ?_⟩
        have q1 := e2 (2 * j) (by omega)
        have q2 := e2 (2 * j + 1) (by omega)
        rw [yvv (k2 j hj).1, yvv (m2 j (by omega)).1] at q1
        rw [yvv (k2 j hj).2, yvv (m2 j (by omega)).2] at q2
        rw [← pair_says (hf j hj).1 (hf j hj).2, ← pair_says (hg j (by omega)).1 (hg j (by omega)).2, q1, q2]
      · rintro ⟨rfl, e2⟩
        refine ⟨by omega, fun i hi => ?_⟩
        rcases Nat.mod_two_eq_zero_or_one i with e | e
        · obtain ⟨j, rfl⟩ : ∃ j, i = 2 * j := ⟨i / 2, by omega⟩
          rw [yvv (k2 j (by omega)).1, yvv (m2 j (by omega)).1, e2 j (by omega)]
        · obtain ⟨j, rfl⟩ : ∃ j, i = 2 * j + 1 := ⟨i / 2, by omega⟩
          rw [yvv (k2 j (by omega)).2, yvv (m2 j (by omega)).2, e2 j (by omega)]
/-- two codings differ: so do the texts -/
theorem Cod.dif {cd cd' : Int32} {n k : Nat} {f g : Nat → Int32} {V V' : Cell} (h : Cod cd n f V) (h' : Cod cd' k g V') (hne : ¬ cd = cd') : ¬ SameT n f k g := by
  rintro ⟨rfl, e⟩
  rcases h with ⟨rfl, -, k2⟩ | ⟨rfl, -, -, j, hj, hw⟩
  · rcases h' with ⟨rfl, -⟩ | ⟨-, -, -, j, hj, hw⟩
    · exact hne rfl
    · exact (k2 j hj).2 (by rw [e j hj]; exact hw)
  · rcases h' with ⟨-, -, m2⟩ | ⟨rfl, -⟩
    · exact (m2 j hj).2 (by rw [← e j hj]; exact hw)
    · exact hne rfl
/-- an object of exactly C is an instance of C -/
theorem cinst {p : Program} {l : Launch} {e : Env} {R : Room} {s : State} {m : MethodId} {args : Array Value} {below : List Frame} {meth : Method} {c : Code} {T : State} {locs : List Loc} {cells slots : Nat} (X : Stand p l e R s m args below meth c T locs cells slots) (hexec : p.tables.exec = Jvm.exec) {own C : String} {index : Nat} (hown : s.vm.findClass own = some m.cls) (hlink : (Cond.classLink own index C).before args s = true) {a : Addr} (hE : Exact C a T)
    {g : JFrame} (hg : g.method = m) {rest : List Value} (hstack : g.stack = .ref a :: rest) (hdg : decode c.code g.pc = .ok (.instanceof index, 3)) :
    ∃ T', Stand p l e R s m args below meth c T' locs cells slots ∧ T'.heap = T.heap ∧ ∀ target, Steps p.tables e below (T'.setTop { g with pc := g.pc + 3, stack := .int 1 :: rest }) target → Steps p.tables e below (T.setTop g) target := by
  obtain ⟨cB, h1, D, h2, h3, h4⟩ := hE
  have h1' : s.vm.findClass C = some cB := by rw [← X.warmed.alike.findClass]; exact h1
  obtain ⟨vm', X', st⟩ := X.instanceofYes hexec hown hlink h2 h4 h1' (by rw [h3]; exact Jvm.Free.SB.assignable_self _ _) hg hstack hdg
  exact ⟨_, X', rfl, st⟩
theorem cself {p : Program} {l : Launch} {e : Env} {R : Room} {s : State} {m : MethodId} {args : Array Value} {below : List Frame} {meth : Method} {c : Code} {T : State} {locs : List Loc} {cells slots : Nat} (X : Stand p l e R s m args below meth c T locs cells slots) (hexec : p.tables.exec = Jvm.exec) {own C : String} {index : Nat} (hown : s.vm.findClass own = some m.cls) (hlink : (Cond.classLink own index C).before args s = true) {a : Addr} (hE : Exact C a T)
    {g : JFrame} (hg : g.method = m) {rest : List Value} (hstack : g.stack = .ref a :: rest) (hdg : decode c.code g.pc = .ok (.checkcast index, 3)) :
    ∃ T', Stand p l e R s m args below meth c T' locs cells slots ∧ T'.heap = T.heap ∧ ∀ target, Steps p.tables e below (T'.setTop { g with pc := g.pc + 3, stack := .ref a :: rest }) target → Steps p.tables e below (T.setTop g) target := by
  obtain ⟨cB, h1, D, h2, h3, h4⟩ := hE
  have h1' : s.vm.findClass C = some cB := by rw [← X.warmed.alike.findClass]; exact h1
  obtain ⟨vm', X', st⟩ := X.checkcastYes hexec hown hlink h2 h4 h1' (by rw [h3]; exact Jvm.Free.SB.assignable_self _ _) hg hstack hdg
  exact ⟨_, X', rfl, fun t h => st t (by rw [← hstack] at h; exact h)⟩
namespace SEq
def yN : MethodName := ⟨"java/lang/String", "equals", "(Ljava/lang/Object;)Z"⟩
abbrev yB : ByteArray := jdk_42_method_66_code
theorem d0 : decode yB 0 = .ok (.aload_n 0, 1) := by decide +kernel
theorem d1 : decode yB 1 = .ok (.aload_n 1, 1) := by decide +kernel
theorem d2 : decode yB 2 = .ok (.if_acmp (.ne) 5, 3) := by decide +kernel
theorem d5 : decode yB 5 = .ok (.iconst 1, 1) := by decide +kernel
theorem d6 : decode yB 6 = .ok (.ireturn, 1) := by decide +kernel
theorem d7 : decode yB 7 = .ok (.aload_n 1, 1) := by decide +kernel
theorem d8 : decode yB 8 = .ok (.instanceof 10, 3) := by decide +kernel
theorem d11 : decode yB 11 = .ok (.ifCond (.eq) 43, 3) := by decide +kernel
theorem d14 : decode yB 14 = .ok (.aload_n 1, 1) := by decide +kernel
theorem d15 : decode yB 15 = .ok (.checkcast 10, 3) := by decide +kernel
theorem d18 : decode yB 18 = .ok (.astore_n 2, 1) := by decide +kernel
theorem d19 : decode yB 19 = .ok (.getstatic 38, 3) := by decide +kernel
theorem d22 : decode yB 22 = .ok (.ifCond (.eq) 14, 3) := by decide +kernel
theorem d25 : decode yB 25 = .ok (.aload_n 0, 1) := by decide +kernel
theorem d26 : decode yB 26 = .ok (.getfield 15, 3) := by decide +kernel
theorem d29 : decode yB 29 = .ok (.aload_n 2, 1) := by decide +kernel
theorem d30 : decode yB 30 = .ok (.getfield 15, 3) := by decide +kernel
theorem d33 : decode yB 33 = .ok (.if_icmp (.ne) 21, 3) := by decide +kernel
theorem d36 : decode yB 36 = .ok (.aload_n 0, 1) := by decide +kernel
theorem d37 : decode yB 37 = .ok (.getfield 9, 3) := by decide +kernel
theorem d40 : decode yB 40 = .ok (.aload_n 2, 1) := by decide +kernel
theorem d41 : decode yB 41 = .ok (.getfield 9, 3) := by decide +kernel
theorem d44 : decode yB 44 = .ok (.invokestatic 541, 3) := by decide +kernel
theorem d47 : decode yB 47 = .ok (.ifCond (.eq) 7, 3) := by decide +kernel
theorem d50 : decode yB 50 = .ok (.iconst 1, 1) := by decide +kernel
theorem d51 : decode yB 51 = .ok (.goto 4, 3) := by decide +kernel
theorem d54 : decode yB 54 = .ok (.iconst 0, 1) := by decide +kernel
theorem d55 : decode yB 55 = .ok (.ireturn, 1) := by decide +kernel
def site : List Cond := [.classLink "java/lang/String" 10 "java/lang/String", .fieldLink "java/lang/String" 38 "java/lang/String" "COMPACT_STRINGS" "Z", .fieldLink "java/lang/String" 15 "java/lang/String" "coder" "B", .fieldLink "java/lang/String" 9 "java/lang/String" "value" "[B", LEq.tab] ++ staticW "java/lang/String" 541 LEq.yN
def tab : Cond := tabOf yN yB 3 (some .boolean) site
def P (x t : Addr) (V : Cell) (cd : Int32) (n : Nat) (f : Nat → Int32) (y t' : Addr) (V' : Cell) (cd' : Int32) (k : Nat) (g : Nat → Int32) (z : Int32) (args : Array Value) (s : State) : Prop := args = #[.ref x, .ref y] ∧ Txt x t V cd n f s ∧ Txt y t' V' cd' k g s ∧ StaticIs s "java/lang/String" "COMPACT_STRINGS" "Z" (.int z) ∧ ¬ z = 0
/-- equals(Object) of two Strings: whether the texts are the same -/
theorem law (l : Launch) (x t : Addr) (V : Cell) (cd : Int32) (n : Nat) (f : Nat → Int32) (y t' : Addr) (V' : Cell) (cd' : Int32) (k : Nat) (g : Nat → Int32) (z : Int32) : Law l yN 2 1 1 14 yB 3 (some .boolean) site (P x t V cd n f y t' V' cd' k g z) (Says01 (SameT n f k g)) [] 0 0 := by
  refine Law.of_walk (plainFor_of_name (by decide +kernel)) (by decide +kernel) (by decide +kernel) (by decide) (fun _ _ h => by rw [h.1]; rfl) (fun _ U U' hal hh h => ⟨h.1, h.2.1.mv hal hh, h.2.2.1.mv hal hh, h.2.2.2.1.there hal hh, h.2.2.2.2⟩) (fun r U U' V V' h1 hal h2 h => Says01.mv r U U' V V' h1 hal h2 h) ?_
  intro p e s m args below meth c s₁ X0 hexec hbytes hml hret hlk hnm hown hh0 W hP
  obtain ⟨rfl, hx, hy, s1, hz⟩ := hP
  have c1 : Steps p.tables e below (s₁.setTop (entryFrame m #[.ref x, .ref y] 3)) (s₁.setTop (mkF m 2 #[.val (.ref x), .val (.ref y), .unset] [.ref y, .ref x])) := Steps.trans (entry rfl) (by
    show Steps p.tables e below (s₁.setTop (mkF m 0 #[.val (.ref x), .val (.ref y), .unset] [])) _
    refine XS.aloadN X0.here hexec rfl (hb hbytes d0) rfl rfl ?_
    refine XS.aloadN X0.here hexec rfl (hb hbytes d1) rfl rfl ?_
    exact Steps.refl _)
  by_cases hxy : x = y
  · have c2 : Steps p.tables e below (s₁.setTop (entryFrame m #[.ref x, .ref y] 3)) (s₁.setTop (mkF m 6 #[.val (.ref x), .val (.ref y), .unset] [.int 1])) := c1.trans (by
      refine acmpNo X0.here hexec rfl (hb hbytes d2) rfl rfl rfl (by simp [acmp, hxy]) ?_
      refine iconstV X0.here hexec rfl 1 (hb hbytes d5) (by decide) ?_
      exact Steps.refl _)
    subst hxy
    have ec : cd = cd' := by
      obtain ⟨D, fd, a1, a2, a3⟩ := hx.2.2.1
      obtain ⟨D', fd', b1, b2, b3⟩ := hy.2.2.1
      cases a1.symm.trans b1
      obtain ⟨q1, q2, q3, q4⟩ := a2.1
      obtain ⟨r1, r2, r3, r4⟩ := b2.1
      cases q4.symm.trans r4
      cases a3.symm.trans b3; rfl
    have et : t = t' := by
      obtain ⟨D, fd, a1, a2, a3⟩ := hx.2.1
      obtain ⟨D', fd', b1, b2, b3⟩ := hy.2.1
      cases a1.symm.trans b1
      obtain ⟨q1, q2, q3, q4⟩ := a2.1
      obtain ⟨r1, r2, r3, r4⟩ := b2.1
      cases q4.symm.trans r4
      cases a3.symm.trans b3; rfl
    subst ec et
    have ev : V = V' := by cases hx.2.2.2.1.1.symm.trans hy.2.2.2.1.1; rfl
    subst ev
    have hs : SameT n f k g := (Cod.eqv hx.2.2.2.2.1 hy.2.2.2.2.1 hx.2.2.2.2.2 hy.2.2.2.2.2).mp ⟨rfl, fun _ _ => rfl⟩
    exact ⟨s₁, some (.int 1), _, _, _, X0, rfl, rfl, rfl, (fun h => by cases h), ⟨1, rfl, hh0, Or.inl ⟨rfl, hs⟩⟩, fun fs hl => c2.trans (X0.ireturnOut hexec hret rfl (Or.inr (Or.inl rfl)) (hb hbytes d6) hl)⟩
  · have c2 : Steps p.tables e below (s₁.setTop (entryFrame m #[.ref x, .ref y] 3)) (s₁.setTop (mkF m 8 #[.val (.ref x), .val (.ref y), .unset] [.ref y])) := c1.trans (by
      refine acmpYes X0.here hexec rfl (pc0 := 2) rfl (hb hbytes d2) rfl rfl rfl (by simp [acmp, hxy]) (by decide) rfl ?_
      refine XS.aloadN X0.here hexec rfl (hb hbytes d7) rfl rfl ?_
      exact Steps.refl _)
    obtain ⟨T3, X3, q3, st3⟩ := cinst X0 hexec hown (wk W (.classLink "java/lang/String" 10 "java/lang/String")) (hy.mv X0.warmed.alike hh0).1 (g := (mkF m 8 #[.val (.ref x), .val (.ref y), .unset] [.ref y])) rfl (rest := []) rfl (hb hbytes d8)
    have hh3 := q3.trans hh0
    have c4 : Steps p.tables e below (s₁.setTop (entryFrame m #[.ref x, .ref y] 3)) (T3.setTop (mkF m 15 #[.val (.ref x), .val (.ref y), .unset] [.ref y])) := (c2.trans (st3 _ (Steps.refl _))).trans (by
      refine XS.ifNo X3.here hexec rfl (hb hbytes d11) rfl (i0_eq_f (by decide)) ?_
      refine XS.aloadN X3.here hexec rfl (hb hbytes d14) rfl rfl ?_
      exact Steps.refl _)
    obtain ⟨T5, X5, q5, st5⟩ := cself X3 hexec hown (wk W (.classLink "java/lang/String" 10 "java/lang/String")) (hy.mv X3.warmed.alike hh3).1 (g := (mkF m 15 #[.val (.ref x), .val (.ref y), .unset] [.ref y])) rfl (rest := []) rfl (hb hbytes d15)
    have hh5 := q5.trans hh3
    have c6 : Steps p.tables e below (s₁.setTop (entryFrame m #[.ref x, .ref y] 3)) (T5.setTop (mkF m 19 #[.val (.ref x), .val (.ref y), .val (.ref y)] [])) := (c4.trans (st5 _ (Steps.refl _))).trans (by
      refine XS.astoreN X5.here hexec rfl (hb hbytes d18) rfl rfl rfl ?_
      exact Steps.refl _)
    obtain ⟨T7, X7, q7, st7⟩ := X5.sget hexec hown (wk W (.fieldLink "java/lang/String" 38 "java/lang/String" "COMPACT_STRINGS" "Z")) s1 (fun _ _ h => by rw [hh5]; exact h) (g := (mkF m 19 #[.val (.ref x), .val (.ref y), .val (.ref y)] [])) rfl (hb hbytes d19)
    have hh7 := q7.trans hh5
    have c8 : Steps p.tables e below (s₁.setTop (entryFrame m #[.ref x, .ref y] 3)) (T7.setTop (mkF m 26 #[.val (.ref x), .val (.ref y), .val (.ref y)] [.ref x])) := (c6.trans (st7 _ (Steps.refl _))).trans (by
      refine XS.ifNo X7.here hexec rfl (hb hbytes d22) rfl (i0_eq_f hz) ?_
      refine XS.aloadN X7.here hexec rfl (hb hbytes d25) rfl rfl ?_
      exact Steps.refl _)
    obtain ⟨T9, X9, q9, st9⟩ := X7.hget hexec hown (wk W (.fieldLink "java/lang/String" 15 "java/lang/String" "coder" "B")) (hx.mv X7.warmed.alike hh7).2.2.1 (g := (mkF m 26 #[.val (.ref x), .val (.ref y), .val (.ref y)] [.ref x])) rfl (rest := []) rfl (hb hbytes d26)
    have hh9 := q9.trans hh7
    have c10 : Steps p.tables e below (s₁.setTop (entryFrame m #[.ref x, .ref y] 3)) (T9.setTop (mkF m 30 #[.val (.ref x), .val (.ref y), .val (.ref y)] [.ref y, .int cd])) := (c8.trans (st9 _ (Steps.refl _))).trans (by
      refine XS.aloadN X9.here hexec rfl (hb hbytes d29) rfl rfl ?_
      exact Steps.refl _)
    obtain ⟨T11, X11, q11, st11⟩ := X9.hget hexec hown (wk W (.fieldLink "java/lang/String" 15 "java/lang/String" "coder" "B")) (hy.mv X9.warmed.alike hh9).2.2.1 (g := (mkF m 30 #[.val (.ref x), .val (.ref y), .val (.ref y)] [.ref y, .int cd])) rfl (rest := [.int cd]) rfl (hb hbytes d30)
    have hh11 := q11.trans hh9
    have c12 : Steps p.tables e below (s₁.setTop (entryFrame m #[.ref x, .ref y] 3)) (T11.setTop (mkF m 33 #[.val (.ref x), .val (.ref y), .val (.ref y)] [.int cd', .int cd])) := c10.trans (st11 _ (Steps.refl _))
    by_cases hcd : cd = cd'
    · subst hcd
      have c13 : Steps p.tables e below (s₁.setTop (entryFrame m #[.ref x, .ref y] 3)) (T11.setTop (mkF m 37 #[.val (.ref x), .val (.ref y), .val (.ref y)] [.ref x])) := c12.trans (by
        refine XS.icmpNo X11.here hexec rfl (hb hbytes d33) rfl (ii_ne_f rfl) ?_
        refine XS.aloadN X11.here hexec rfl (hb hbytes d36) rfl rfl ?_
        exact Steps.refl _)
      obtain ⟨T14, X14, q14, st14⟩ := X11.hget hexec hown (wk W (.fieldLink "java/lang/String" 9 "java/lang/String" "value" "[B")) (hx.mv X11.warmed.alike hh11).2.1 (g := (mkF m 37 #[.val (.ref x), .val (.ref y), .val (.ref y)] [.ref x])) rfl (rest := []) rfl (hb hbytes d37)
      have hh14 := q14.trans hh11
      have c15 : Steps p.tables e below (s₁.setTop (entryFrame m #[.ref x, .ref y] 3)) (T14.setTop (mkF m 41 #[.val (.ref x), .val (.ref y), .val (.ref y)] [.ref y, .ref t])) := (c13.trans (st14 _ (Steps.refl _))).trans (by
        refine XS.aloadN X14.here hexec rfl (hb hbytes d40) rfl rfl ?_
        exact Steps.refl _)
      obtain ⟨T16, X16, q16, st16⟩ := X14.hget hexec hown (wk W (.fieldLink "java/lang/String" 9 "java/lang/String" "value" "[B")) (hy.mv X14.warmed.alike hh14).2.1 (g := (mkF m 41 #[.val (.ref x), .val (.ref y), .val (.ref y)] [.ref y, .ref t])) rfl (rest := [.ref t]) rfl (hb hbytes d41)
      have hh16 := q16.trans hh14
      have c17 : Steps p.tables e below (s₁.setTop (entryFrame m #[.ref x, .ref y] 3)) (T16.setTop (mkF m 44 #[.val (.ref x), .val (.ref y), .val (.ref y)] [.ref t', .ref t])) := c15.trans (st16 _ (Steps.refl _))
      obtain ⟨v18, T18, X18, E18, g18⟩ := X16.callS hexec (LEq.law l t V t' V') hown (wks W (staticW "java/lang/String" 541 LEq.yN)) (wk W LEq.tab) (W := 0) (Nat.le_of_ble_eq_true rfl) (Nat.le_of_ble_eq_true rfl) (Nat.le_refl _) (Nat.le_refl _) (g := (mkF m 44 #[.val (.ref x), .val (.ref y), .val (.ref y)] [.ref t', .ref t])) rfl (by rw [hml]; rfl) c17 (argsL := [.ref t, .ref t']) (rest := []) rfl rfl (by show 2 * 0 + 0 ≤ _; decide) (hb hbytes d44) (⟨rfl, hx.2.2.2.1.mv X16.warmed.alike hh16, hx.2.2.2.2.1.ty, hy.2.2.2.1.mv X16.warmed.alike hh16, hy.2.2.2.2.1.ty⟩)
      obtain ⟨v, rfl, q18, hv⟩ := E18
      have iff := Cod.eqv hx.2.2.2.2.1 hy.2.2.2.2.1 hx.2.2.2.2.2 hy.2.2.2.2.2
      rcases hv with ⟨rfl, he⟩ | ⟨rfl, he⟩
      · have c19 : Steps p.tables e below (s₁.setTop (entryFrame m #[.ref x, .ref y] 3)) (T18.setTop (mkF m 55 #[.val (.ref x), .val (.ref y), .val (.ref y)] [.int 1])) := Steps.trans g18 (by
          refine XS.ifNo X18.here hexec rfl (hb hbytes d47) rfl (i0_eq_f (by decide)) ?_
          refine iconstV X18.here hexec rfl 1 (hb hbytes d50) (by decide) ?_
          refine XS.goto X18.here hexec rfl (pc0 := 51) rfl (hb hbytes d51) (by decide) rfl ?_
          exact Steps.refl _)
        exact ⟨T18, some (.int 1), _, _, _, X18, rfl, rfl, rfl, (fun h => by cases h), ⟨1, rfl, q18.trans hh16, Or.inl ⟨rfl, iff.mp he⟩⟩, fun fs hl => c19.trans (X18.ireturnOut hexec hret rfl (Or.inr (Or.inl rfl)) (hb hbytes d55) hl)⟩
      · have c19 : Steps p.tables e below (s₁.setTop (entryFrame m #[.ref x, .ref y] 3)) (T18.setTop (mkF m 55 #[.val (.ref x), .val (.ref y), .val (.ref y)] [.int 0])) := Steps.trans g18 (by
          refine XS.ifYes X18.here hexec rfl (pc0 := 47) rfl (hb hbytes d47) rfl (i0_eq_t rfl) (by decide) rfl ?_
          refine iconstV X18.here hexec rfl 0 (hb hbytes d54) (by decide) ?_
          exact Steps.refl _)
        exact ⟨T18, some (.int 0), _, _, _, X18, rfl, rfl, rfl, (fun h => by cases h), ⟨0, rfl, q18.trans hh16, Or.inr ⟨rfl, fun q => he (iff.mpr q)⟩⟩, fun fs hl => c19.trans (X18.ireturnOut hexec hret rfl (Or.inr (Or.inl rfl)) (hb hbytes d55) hl)⟩
    · have c13 : Steps p.tables e below (s₁.setTop (entryFrame m #[.ref x, .ref y] 3)) (T11.setTop (mkF m 55 #[.val (.ref x), .val (.ref y), .val (.ref y)] [.int 0])) := c12.trans (by
        refine XS.icmpYes X11.here hexec rfl (pc0 := 33) rfl (hb hbytes d33) rfl (ii_ne_t hcd) (by decide) rfl ?_
        refine iconstV X11.here hexec rfl 0 (hb hbytes d54) (by decide) ?_
        exact Steps.refl _)
      exact ⟨T11, some (.int 0), _, _, _, X11, rfl, rfl, rfl, (fun h => by cases h), ⟨0, rfl, hh11, Or.inr ⟨rfl, Cod.dif hx.2.2.2.2.1 hy.2.2.2.2.1 hcd⟩⟩, fun fs hl => c13.trans (X11.ireturnOut hexec hret rfl (Or.inr (Or.inl rfl)) (hb hbytes d55) hl)⟩
theorem pays {l : Launch} {R : Room} {p : Program} {e : Env} {below : List Frame} {s : State} {sargs : Array Value} {len W : Nat} (x t : Addr) (V : Cell) (cd : Int32) (n : Nat) (f : Nat → Int32) (y t' : Addr) (V' : Cell) (cd' : Int32) (k : Nat) (g : Nat → Int32) (z : Int32) (htab : tab.before sargs s = true) (hfr : 2 ≤ R.frames) (hlo : W + 28 ≤ R.locals) :
    Back l R p e below s sargs yN len W (fun A₁ a₁ => A₁.cells + 0 ≤ R.cells ∧ A₁.slots + 0 ≤ R.slots ∧ P x t V cd n f y t' V' cd' k g z a₁ A₁.U) (fun A₁ _ v₁ B₁ => Says01 (SameT n f k g) v₁ A₁.U B₁.U ∧ B₁.locs = A₁.locs ++ [] ∧ B₁.cells = A₁.cells + 0 ∧ B₁.slots = A₁.slots + 0) :=
  (law l x t V cd n f y t' V' cd' k g z).pays htab hfr (by omega)
end SEq
end StrChars
namespace StrChars.Road
open Jvm Sem ClassFile Op Lib Jvm.Stand Jvm.Free Jvm.Free.XT
open Jvm.Lib.Cold (StaticIs)
/-- the words of String.equals(Object) -/
abbrev wordsEq : List Jvm.Cond := [.code SEq.yN SEq.yB 3 (some .boolean), .initialized ST, .classLink ST 10 ST, .fieldLink ST 38 ST "COMPACT_STRINGS" "Z", .fieldLink ST 15 ST "coder" "B", .fieldLink ST 9 ST "value" "[B", .methodLink ST 541 LEq.yN, .static LEq.yN, .code LEq.yN LEq.yB 3 (some .boolean), .initialized "java/lang/StringLatin1"]
theorem tabEq_of {a : Array Value} {s : State} (h : ∀ w ∈ wordsEq, w.before a s = true) : SEq.tab.before a s = true := by
  have hl : LEq.tab.before a s = true := unparts (wk h (.code LEq.yN LEq.yB 3 (some .boolean))) (wks h (.initialized LEq.yN.cls :: LEq.site))
  have q := consq hl h
  exact unparts (wk q (.code SEq.yN SEq.yB 3 (some .boolean))) (wks q (.initialized SEq.yN.cls :: SEq.site))
theorem movedEq {Z s : State} {a0 args : Array Value} (hZ : Z.Warmed39 s.vm) (hw : ∀ d ∈ wordsEq, d.before a0 Z = true) : ∀ d ∈ wordsEq, d.before args s = true := fun d hd => by
  have t : ∀ d ∈ wordsEq, (d.onTables && d.keepsFace) = true := by decide +kernel
  exact RoadKit.mv hZ (hw d hd) (t d hd)
/-- the road's facts of a String, as the laws ask it -/
theorem txt_of {Z U : State} {a0 : Array Value} {kI : Nat} (wi : (Jvm.Cond.instantiable ST kI).before a0 Z = true) (al : Z.vm.Alike U.vm) {x t : Addr} {kb : ClassId} {cs : List Int32} {cd N2 : Int32} {vs : List Value} (E : RoadKit.Exa Z U.heap x ST) (V : RoadKit.Fld Z U.heap x ST "value" "[B" (.ref t)) (C : RoadKit.Fld Z U.heap x ST "coder" "B" (.int cd)) (K : RoadKit.Arv Z U.heap t kb .byte N2 vs (.int 0)) (hc : CodA cs cd N2 vs) (hb : ∀ c ∈ cs, ¬ c < 0 ∧ ¬ (65535 : Int32) < c) (l2 : cs.length ≤ 4000) :
    ∃ A, Txt x t A cd cs.length (fun j => cs.getD j 0) U := by
  obtain ⟨A, K1, K2, K3, K4, K5, K6⟩ := K
  have hcod := hc.cod (by omega) K3 K5
  obtain ⟨D, fV, fC, hB, F1, F2, g1, g2, -, -⟩ := strObj wi al E V C
  exact ⟨A, ⟨_, hB.2.2.1, D, hB.1, rfl, by cases q : D.vm <;> first | rfl | exact absurd q (hB.2.1.2 _)⟩, Has.of hB F1 g1, Has.of hB F2 g2, ⟨K1.1, State.isArrayOf_alike al K1.2.1, K1.2.2, by rcases hcod with ⟨-, q, -⟩ | ⟨-, q, -⟩ <;> omega⟩, hcod, fun j hj => by
    have e : cs.getD j 0 = cs[j] := by simp [List.getD_eq_getElem?_getD, hj]
    show ¬ cs.getD j 0 < 0 ∧ ¬ 65535 < cs.getD j 0
    rw [e]; exact hb _ (List.getElem_mem _)⟩
theorem same_list (cs ds : List Int32) : SameT cs.length (fun j => cs.getD j 0) ds.length (fun j => ds.getD j 0) ↔ cs = ds := by
  constructor
  · rintro ⟨e, q⟩
    refine List.ext_getElem e fun j h1 h2 => ?_
    have := q j h1
    simpa [List.getD_eq_getElem?_getD, h1, h2] using this
  · rintro rfl
    exact ⟨rfl, fun _ _ => rfl⟩
/-- **equals(Object) OF TWO SUCH STRINGS**: 1 just where the chars are the same -/
theorem eqW {p : Program} {l : Launch} {e : Env} {R : Room} {s : State} {args : Array Value} {below : List Frame} {len W : Nat} {Z : State} {a0 : Array Value} {h : Heap} (hZ : Z.Warmed39 s.vm) (hw : ∀ d ∈ wordsEq, d.before a0 Z = true) {kI : Nat} (wi : (Jvm.Cond.instantiable ST kI).before a0 Z = true)
    {x t : Addr} {kb : ClassId} {cs : List Int32} {cd N2 : Int32} {vs : List Value} (E : RoadKit.Exa Z h x ST) (V : RoadKit.Fld Z h x ST "value" "[B" (.ref t)) (C : RoadKit.Fld Z h x ST "coder" "B" (.int cd)) (K : RoadKit.Arv Z h t kb .byte N2 vs (.int 0)) (hc : CodA cs cd N2 vs) (hb : ∀ c ∈ cs, ¬ c < 0 ∧ ¬ (65535 : Int32) < c) (l2 : cs.length ≤ 4000)
    {y t' : Addr} {kb' : ClassId} {ds : List Int32} {cd' N2' : Int32} {vs' : List Value} (E' : RoadKit.Exa Z h y ST) (V' : RoadKit.Fld Z h y ST "value" "[B" (.ref t')) (C' : RoadKit.Fld Z h y ST "coder" "B" (.int cd')) (K' : RoadKit.Arv Z h t' kb' .byte N2' vs' (.int 0)) (hc' : CodA ds cd' N2' vs') (hb' : ∀ c ∈ ds, ¬ c < 0 ∧ ¬ (65535 : Int32) < c) (l2' : ds.length ≤ 4000)
    {z : Int32} (S : RoadKit.Sta Z h ST "COMPACT_STRINGS" "Z" (.int z)) (hz : ¬ z = 0) (hfr : 2 ≤ R.frames) (hlo : W + 28 ≤ R.locals) :
    Back l R p e below s args (⟨"java/lang/String", "equals", "(Ljava/lang/Object;)Z"⟩ : MethodName) len W (fun P a => a = #[.ref x, .ref y] ∧ P.U.heap = h ∧ P.cells + 0 ≤ R.cells ∧ P.slots + 0 ≤ R.slots)
      (fun P _ v B => ∃ L, (((v = some (.int 1) ∧ cs = ds) ∨ (v = some (.int 0) ∧ ¬ cs = ds)) ∧ L = [] ∧ B.U.heap = h) ∧ B.locs = P.locs ++ L ∧ B.cells = P.cells + 0 ∧ B.slots = P.slots + 0) := by
  intro m meth c P g ig mk a X hg hsize hdg hW hn hp'
  obtain ⟨rfl, rfl, r1, r2⟩ := hp'
  have al : Z.vm.Alike P.U.vm := hZ.alike.trans X.warmed.alike
  obtain ⟨A, hx⟩ := txt_of wi al E V C K hc hb l2
  obtain ⟨A', hy⟩ := txt_of wi al E' V' C' K' hc' hb' l2'
  obtain ⟨v, B, X', ⟨⟨w, hv, hh, hq⟩, hl, hk, hs⟩, st⟩ := SEq.pays x t A cd cs.length (fun j => cs.getD j 0) y t' A' cd' ds.length (fun j => ds.getD j 0) z (tabEq_of (movedEq hZ hw)) hfr hlo m meth c P g ig mk _ X hg hsize hdg hW hn ⟨r1, r2, rfl, hx, hy, sta_is al S, hz⟩
  refine ⟨v, B, X', ⟨[], ⟨?_, rfl, hh⟩, hl, hk, hs⟩, st⟩
  rcases hq with ⟨rfl, q⟩ | ⟨rfl, q⟩
  · exact Or.inl ⟨hv, (same_list cs ds).mp q⟩
  · exact Or.inr ⟨hv, fun e => q ((same_list cs ds).mpr e)⟩
end StrChars.Road
namespace StrChars.Road
open Jvm Sem ClassFile Op Lib Jvm.Stand Jvm.Free Jvm.Free.XT
open Jvm.Lib.Cold (StaticIs)
/-- what backV says of its String, as the contracts of this text ask it: cs's low bytes, coder 0 -/
theorem codOf {cs : List Int32} {n : Nat} (hn : cs.length = n) (hb : ∀ c ∈ cs, ¬ 255 < c) : CodA cs 0 (Int32.ofNat n) ((cs.map lo8).map Value.int) := Or.inl ⟨rfl, by rw [hn], by simp [List.map_map, Function.comp_def], hb⟩
end StrChars.Road
end Jvm.Pilot.@@N@@

namespace Jvm.Pilot.@@N@@
open Jvm Jvm.ClassFile Sem Op Lib Jvm.Free Jvm.Stand Jvm.LawKit Jvm.RoadKit Bundle Jvm.Free.SB Jvm.Free.SBG Jvm.Pilot.@@N@@.Jvm.D
section own_kit
variable {p : Program} {l : Launch} {e : Env} {R : Room} {s : State} {m : MethodId} {args : Array Value} {below : List Frame} {meth : Method} {c : Code} {T T' : State} {locs : List Loc} {cells slots : Nat}
/-- from the frame g over the state T the run comes to an end of which K speaks -/
def Go (p : Program) (e : Env) (below : List Frame) (T : State) (g : JFrame) (K : Outcome → State → Prop) : Prop :=
  ∃ s₂ o, Steps p.tables e below (T.setTop g) s₂ ∧ s₂.status = .running ∧ Ended s₂ below o ∧ K o s₂
def KQ (s : State) (Q : Option Value → Heap → List Loc → Prop) (k n : Nat) (o : Outcome) (U : State) : Prop :=
  ∃ v L, o = .returned v ∧ Q v U.heap L ∧ FrameEnd s o U L k n
theorem Go.of {g g' : JFrame} {K : Outcome → State → Prop} (h : ∀ t, Steps p.tables e below (T'.setTop g') t → Steps p.tables e below (T.setTop g) t) (k : Go p e below T' g' K) : Go p e below T g K := by
  obtain ⟨s₂, o, h1, h2⟩ := k
  exact ⟨s₂, o, h _ h1, h2⟩
theorem Go.cast {g g' : JFrame} {K : Outcome → State → Prop} (q : g = g') (k : Go p e below T g' K) : Go p e below T g K := q ▸ k
theorem Go.ret0 (X : Stand p l e R s m args below meth c T locs cells slots) (hx : p.tables.exec = Jvm.exec) (hret : meth.sig.returnType = none) (hlk : meth.locks = false) {pc : Nat} {Ls : Array Slot} {Q : Option Value → Heap → List Loc → Prop} {k n : Nat} {h : Heap}
    (hd : decode c.code pc = .ok (.return_, 1)) (eT : T.heap = h) (hk : cells ≤ k) (hn : slots ≤ n) (hq : Q none h locs) : Go p e below T (mkF m pc Ls []) (KQ s Q k n) := by
  obtain ⟨fs, hr, hrun, hended, hW, hsame⟩ := X.leave (v := none) (fun _ => rfl) hlk
  exact ⟨_, _, X.returnOut hx hret hd hr, hrun, hended, _, _, rfl, by show Q none T.heap _; rw [eT]; exact hq, ⟨_, rfl⟩, hW, hsame.mono hk hn⟩
theorem Go.retV (X : Stand p l e R s m args below meth c T locs cells slots) (hx : p.tables.exec = Jvm.exec) {t : FieldType} {w : Value} {i : Instr} {rest : List Value} (hret : meth.sig.returnType = some t) (hlk : meth.locks = false) {pc : Nat} {Ls : Array Slot} {Q : Option Value → Heap → List Loc → Prop} {k n : Nat} {h : Heap} (hn0 : narrow t w = w)
    (hi : (i = .ireturn ∧ (t = .int ∨ t = .boolean ∨ t = .byte ∨ t = .char ∨ t = .short) ∧ ∃ z, w = .int z) ∨ (i = .lreturn ∧ t = .long ∧ ∃ z, w = .long z) ∨ (i = .dreturn ∧ t = .double ∧ ∃ z, w = .double z) ∨ (i = .freturn ∧ t = .float ∧ ∃ z, w = .float z) ∨ (i = .areturn ∧ t.isReference = true ∧ w.isRef = true))
    (hd : decode c.code pc = .ok (i, 1)) (eT : T.heap = h) (hk : cells ≤ k) (hn : slots ≤ n) (hq : Q (some w) h locs) : Go p e below T (mkF m pc Ls (w :: rest)) (KQ s Q k n) := by
  obtain ⟨fs, hr, hrun, hended, hW, hsame⟩ := X.leave (v := some w) (fun h => by rw [hret] at h; cases h) hlk
  exact ⟨_, _, retOut X hx hret hn0 hi hd hr, hrun, hended, _, _, rfl, by show Q (some w) T.heap _; rw [eT]; exact hq, ⟨_, rfl⟩, hW, hsame.mono hk hn⟩
theorem Go.retI (X : Stand p l e R s m args below meth c T locs cells slots) (hx : p.tables.exec = Jvm.exec) {z : Int32} {rest : List Value} (hret : meth.sig.returnType = some .int) (hlk : meth.locks = false) {pc : Nat} {Ls : Array Slot} {Q : Option Value → Heap → List Loc → Prop} {k n : Nat} {h : Heap}
    (hd : decode c.code pc = .ok (.ireturn, 1)) (eT : T.heap = h) (hk : cells ≤ k) (hn : slots ≤ n) (hq : Q (some (.int z)) h locs) : Go p e below T (mkF m pc Ls (.int z :: rest)) (KQ s Q k n) :=
  Go.retV X hx hret hlk rfl (Or.inl ⟨rfl, Or.inl rfl, z, rfl⟩) hd eT hk hn hq
theorem Go.retJ (X : Stand p l e R s m args below meth c T locs cells slots) (hx : p.tables.exec = Jvm.exec) {z : Int64} {rest : List Value} (hret : meth.sig.returnType = some .long) (hlk : meth.locks = false) {pc : Nat} {Ls : Array Slot} {Q : Option Value → Heap → List Loc → Prop} {k n : Nat} {h : Heap}
    (hd : decode c.code pc = .ok (.lreturn, 1)) (eT : T.heap = h) (hk : cells ≤ k) (hn : slots ≤ n) (hq : Q (some (.long z)) h locs) : Go p e below T (mkF m pc Ls (.long z :: rest)) (KQ s Q k n) :=
  Go.retV X hx hret hlk rfl (Or.inr (Or.inl ⟨rfl, rfl, z, rfl⟩)) hd eT hk hn hq
theorem narrow_ref {t : FieldType} {w : Value} (ht : t.isReference = true) (hw : w.isRef = true) : narrow t w = w := by
  rcases ref_cases hw with rfl | ⟨z, rfl⟩ <;> cases t <;> first | rfl | (cases ht; done)
theorem Go.retA (X : Stand p l e R s m args below meth c T locs cells slots) (hx : p.tables.exec = Jvm.exec) {t : FieldType} {w : Value} {rest : List Value} (hret : meth.sig.returnType = some t) (hlk : meth.locks = false) {pc : Nat} {Ls : Array Slot} {Q : Option Value → Heap → List Loc → Prop} {k n : Nat} {h : Heap} (ht : t.isReference = true) (hw : w.isRef = true)
    (hd : decode c.code pc = .ok (.areturn, 1)) (eT : T.heap = h) (hk : cells ≤ k) (hn : slots ≤ n) (hq : Q (some w) h locs) : Go p e below T (mkF m pc Ls (w :: rest)) (KQ s Q k n) :=
  Go.retV X hx hret hlk (narrow_ref ht hw) (Or.inr (Or.inr (Or.inr (Or.inr ⟨rfl, ht, hw⟩)))) hd eT hk hn hq
theorem Go.retN (X : Stand p l e R s m args below meth c T locs cells slots) (hx : p.tables.exec = Jvm.exec) {t : FieldType} {z : Int32} {rest : List Value} (hret : meth.sig.returnType = some t) (hlk : meth.locks = false) {pc : Nat} {Ls : Array Slot} {Q : Option Value → Heap → List Loc → Prop} {k n : Nat} {h : Heap} (ht : t = .boolean ∨ t = .byte ∨ t = .char ∨ t = .short)
    (hd : decode c.code pc = .ok (.ireturn, 1)) (eT : T.heap = h) (hk : cells ≤ k) (hn : slots ≤ n) (hq : Q (some (.int (nar t z))) h locs) : Go p e below T (mkF m pc Ls (.int z :: rest)) (KQ s Q k n) := by
  obtain ⟨fs, hr, hrun, hended, hW, hsame⟩ := X.leave (v := some (.int (nar t z))) (fun h => by rw [hret] at h; cases h) hlk
  exact ⟨_, _, Jvm.RoadKit.retN X hx hret ht hd hr, hrun, hended, _, _, rfl, by show Q _ T.heap _; rw [eT]; exact hq, ⟨_, rfl⟩, hW, hsame.mono hk hn⟩
/-- the contract of one body, at the arguments as and the heap h0 -/
abbrev Ctr (l : Launch) (Z : State) (y : MethodName) (bytes : ByteArray) (mx : Nat) (rt : Option FieldType) (ws : List Jvm.Cond) (R : Room) (as : Array Value) (h0 : Heap) (Q : Option Value → Heap → List Loc → Prop) : Prop :=
  MetFree l y (head1 (Jvm.Cond.code y bytes mx rt :: ws) R) (fun a U => a = as ∧ Z.Warmed39 U.vm ∧ U.heap = h0) (fun _ _ _ _ _ => True) (fun _ U o U' => ∃ v L, o = .returned v ∧ Q v U'.heap L ∧ FrameEnd U o U' L R.cells R.slots)
theorem Ctr.intro {Z : State} {y : MethodName} {bytes : ByteArray} {mx : Nat} {rt : Option FieldType} {ws : List Jvm.Cond} {as : Array Value} {h0 : Heap} {Q : Option Value → Heap → List Loc → Prop} (hpl : plainFor y = true)
    (body : ∀ (p : Program) (e : Env) (s : State) (m : MethodId) (below : List Frame) (meth : Method) (c : Code) (s₁ : State), p.tables.exec = Jvm.exec → c.code = bytes → c.maxLocals = mx → s.vm.findClass y.cls = some m.cls → meth.name = y.name → meth.sig.returnType = rt → meth.locks = false → Z.Warmed39 s.vm →
      Stand p l e R s m as below meth c s₁ [] 0 0 → s₁.heap = h0 → Go p e below s₁ (entryFrame m as mx) (KQ s Q R.cells R.slots)) : Ctr l Z y bytes mx rt ws R as h0 Q := by
  refine MetFree.of_bodySF hpl hisR ?_
  intro p e s m args below meth c s₁ Bd hml0 hP hK
  obtain ⟨rfl, hZ, hh⟩ := hP
  obtain ⟨s₂, o, h1, h2, h3, h4⟩ := body p e s m below meth c s₁ Bd.exec Bd.bytes hml0 (findClass_of_methodNamed Bd.named) (name_of_methodNamed Bd.named Bd.method).1 Bd.returns Bd.notSynchronized hZ (Stand.of_body Bd) (by rw [← hh, Bd.state]; rfl)
  exact ⟨s₂, o, h1, h2, h3, h4⟩
end own_kit
theorem own_mask31 (x : Int32) : 0 ≤ (x &&& 2147483647).toInt ∧ (x &&& 2147483647).toInt < 2 ^ 31 := by
  have e : (x &&& 2147483647).toInt = x.toInt % 2 ^ 31 := Jvm.Kit.i32_mask x 2147483647 (k := 31) (by decide) (by decide)
  omega
theorem own_rem {x y : Int32} (hx : 0 ≤ x.toInt) (hy : 0 < y.toInt) : 0 ≤ (x % y).toInt ∧ (x % y).toInt < y.toInt := by
  have e : (x % y).toInt = x.toInt.tmod y.toInt := Int32.toInt_mod x y
  rw [Int.tmod_eq_emod_of_nonneg hx] at e
  have h1 := Int.emod_nonneg x.toInt (show y.toInt ≠ 0 by omega)
  have h2 := Int.emod_lt_of_pos x.toInt hy
  omega
theorem own_lt {a b : Int32} : a < b ↔ a.toInt < b.toInt := Int32.lt_iff_toInt_lt
theorem own_eq {a b : Int32} : a = b ↔ a.toInt = b.toInt := Int32.toInt_inj.symm
theorem own_or' {args : Array Value} {first s : State} {o : Option Outcome} {idx : List Nat} {G Y : Jvm.Cond} {P : Prop} [Decidable P] (h : (Jvm.Cond.or G Y).value args first o s idx = some true) (hG : G.value args first o s idx = some (decide P)) (hn : ¬ P) : Y.value args first o s idx = some true := by
  simpa [Cond.value, hG, hn] using h
theorem own_len {Z : State} {args : Array Value} {t : Term} {a : Addr} {cl : Cell} {ty : FieldType} {n : Int32} (ea : t.eval args Z none [] Z = some (.ref a)) (A : Arr Z Z.heap a cl ty) (h : (Term.length t).eval args Z none [] Z = some (.int n)) : cl.slots.size = n.toNatClampNeg ∧ ¬ n < 0 := by
  have ha := A.fin (Vm.Alike.refl _)
  by_cases p : cl.slots.size < 2 ^ 31
  · have e := (len_f ea ha p).symm.trans h
    have e2 : cl.slots.size.toInt32 = n := Value.int.inj (Option.some.inj e)
    have e3 := len_toInt p
    rw [e2] at e3
    refine ⟨by simp only [Int32.toNatClampNeg, e3]; rfl, by rw [Int32.lt_iff_toInt_lt, e3]; simp⟩
  · simp [Term.eval, ea, ha, p] at h
theorem own_at {Z : State} {args : Array Value} {t F : Term} {a : Addr} {cl : Cell} {ty : FieldType} {j y : Int32} (et : ∀ idx, t.eval args Z none idx Z = some (.ref a)) (A : Arr Z Z.heap a cl ty) (nn : ¬ j < 0) (hF : F.eval args Z none [j.toNatClampNeg] Z = some (.int y))
    (h : (Jvm.Cond.eq (.elem t (.index 0)) F).value args Z none Z [j.toNatClampNeg] = some true) : cl.slots[j.toNatClampNeg]? = some (.int y) :=
  (elem_f (et _) (idx_at nn) (A.fin (Vm.Alike.refl _)) nn).symm.trans (eqv_i hF h)
theorem own_nlt {a b : Int32} : ¬ a < b ↔ b.toInt ≤ a.toInt := by rw [own_lt]; omega
theorem own_le {a b : Int32} : a ≤ b ↔ a.toInt ≤ b.toInt := Int32.le_iff_toInt_le
theorem own_clamp {j n : Int32} {k : Nat} (h0 : ¬ j < 0) (h1 : j < n) (hk : k = n.toNatClampNeg) : j.toNatClampNeg < k := by
  rw [own_lt] at h0 h1; subst hk
  have : (0 : Int32).toInt = 0 := by decide
  simp only [Int32.toNatClampNeg]; omega

section own_hkit
variable {p : Program} {l : Launch} {e : Env} {R : Room} {s : State} {m : MethodId} {args : Array Value} {below : List Frame} {meth : Method} {c : Code} {T T' : State} {locs : List Loc} {cells slots : Nat} {Z : State} {EL : List (String × Nat)} {vm0 vm : Vm} {k0 : Nat} {h h0 : Heap} {a0 : Array Value}
/-- the end of a body that may have loaded literals -/
def KQH (Z : State) (EL : List (String × Nat)) (s : State) (Q : Option Value → Heap → List Loc → Prop) (k n : Nat) (o : Outcome) (U : State) : Prop :=
  ∃ v L, o = .returned v ∧ Q v U.heap L ∧ CHr Z EL s.vm s.heap U.vm U.heap ∧ ReturnedEndW s o U L k n
abbrev CtrH (l : Launch) (Z : State) (EL : List (String × Nat)) (y : MethodName) (bytes : ByteArray) (mx : Nat) (rt : Option FieldType) (ws : List Jvm.Cond) (R : Room) (as : Array Value) (h0 : Heap) (Q : Option Value → Heap → List Loc → Prop) : Prop :=
  MetFree l y (head1 (Jvm.Cond.code y bytes mx rt :: ws) R) (fun a U => a = as ∧ Z.Warmed39 U.vm ∧ U.heap = h0 ∧ CHv Z EL U.vm h0) (fun _ _ _ _ _ => True) (fun _ U o U' => ∃ v L, o = .returned v ∧ Q v U'.heap L ∧ CHr Z EL U.vm U.heap U'.vm U'.heap ∧ ReturnedEndW U o U' L R.cells R.slots)
theorem CtrH.intro {y : MethodName} {bytes : ByteArray} {mx : Nat} {rt : Option FieldType} {ws : List Jvm.Cond} {as : Array Value} {Q : Option Value → Heap → List Loc → Prop} (hpl : plainFor y = true)
    (body : ∀ (p : Program) (e : Env) (s : State) (m : MethodId) (below : List Frame) (meth : Method) (c : Code) (s₁ : State), p.tables.exec = Jvm.exec → c.code = bytes → c.maxLocals = mx → (s.setVm s.vm).vm.findClass y.cls = some m.cls → meth.name = y.name → meth.sig.returnType = rt → meth.locks = false → Z.Warmed39 (s.setVm s.vm).vm →
      Stand p l e R (s.setVm s.vm) m as below meth c s₁ [] 0 0 → s₁.heap = h0 → s.heap = h0 → CHv Z EL s.vm h0 → Go p e below s₁ (entryFrame m as mx) (KQH Z EL s Q R.cells R.slots)) : CtrH l Z EL y bytes mx rt ws R as h0 Q := by
  refine MetFree.of_bodySF hpl hisR ?_
  intro p e s m args below meth c s₁ Bd hml0 hP hK
  obtain ⟨rfl, hZ, hh, hC⟩ := hP
  obtain ⟨s₂, o, h1, h2, h3, h4⟩ := body p e s m below meth c s₁ Bd.exec Bd.bytes hml0 (findClass_of_methodNamed Bd.named) (name_of_methodNamed Bd.named Bd.method).1 Bd.returns Bd.notSynchronized hZ (Stand.of_body Bd) (by rw [← hh, Bd.state]; rfl) hh hC
  exact ⟨s₂, o, h1, h2, h3, h4⟩
theorem Go.endH (X : Stand p l e R (s.setVm vm0) m args below meth c T locs cells slots) {g : JFrame} {v : Option Value} (hv : meth.sig.returnType = none → v = none) (hlk : meth.locks = false) {Q : Option Value → Heap → List Loc → Prop} {k n : Nat}
    (hst : ∀ fs, (∀ (f : JFrame) (acts : List Action), f.method = m → f.locked = none → f.entered = [] → (doReturn e (T.setTop f) acts v).1 = T.setFrames fs) → Steps p.tables e below (T.setTop g) (T.setFrames fs))
    (eT : T.heap = h) (hS : s.Since vm0 k0) (hk0 : k0 ≤ h.size) (hZ : Z.Warmed39 (s.setVm vm0).vm) (hEL : EW Z a0 EL) (hs0 : s.heap = h0) (HR : CHr Z EL s.vm h0 vm0 h) (hk : cells ≤ k) (hn : slots ≤ n) (hq : Q v h locs) : Go p e below T g (KQH Z EL s Q k n) := by
  obtain ⟨fs, hr, hrun, hended, h1, h2, h3, h4⟩ := X.leaveW hS (by rw [eT]; exact hk0) hv hlk
  refine ⟨_, _, hst fs hr, hrun, hended, v, locs, rfl, by show Q v T.heap _; rw [eT]; exact hq, ?_, h1, h2, h3, h4.mono hk hn⟩
  show CHr Z EL s.vm s.heap T.vm T.heap
  rw [eT, hs0]; exact HR.trans (CHv.at X hZ hEL HR.1)
theorem Go.ret0H (X : Stand p l e R (s.setVm vm0) m args below meth c T locs cells slots) (hx : p.tables.exec = Jvm.exec) (hret : meth.sig.returnType = none) (hlk : meth.locks = false) {pc : Nat} {Ls : Array Slot} {Q : Option Value → Heap → List Loc → Prop} {k n : Nat}
    (hd : decode c.code pc = .ok (.return_, 1)) (eT : T.heap = h) (hS : s.Since vm0 k0) (hk0 : k0 ≤ h.size) (hZ : Z.Warmed39 (s.setVm vm0).vm) (hEL : EW Z a0 EL) (hs0 : s.heap = h0) (HR : CHr Z EL s.vm h0 vm0 h) (hk : cells ≤ k) (hn : slots ≤ n) (hq : Q none h locs) : Go p e below T (mkF m pc Ls []) (KQH Z EL s Q k n) :=
  Go.endH X (fun _ => rfl) hlk (fun _ hr => X.returnOut hx hret hd hr) eT hS hk0 hZ hEL hs0 HR hk hn hq
theorem Go.retNH (X : Stand p l e R (s.setVm vm0) m args below meth c T locs cells slots) (hx : p.tables.exec = Jvm.exec) {t : FieldType} {z : Int32} {rest : List Value} (hret : meth.sig.returnType = some t) (hlk : meth.locks = false) {pc : Nat} {Ls : Array Slot} {Q : Option Value → Heap → List Loc → Prop} {k n : Nat} (ht : t = .boolean ∨ t = .byte ∨ t = .char ∨ t = .short)
    (hd : decode c.code pc = .ok (.ireturn, 1)) (eT : T.heap = h) (hS : s.Since vm0 k0) (hk0 : k0 ≤ h.size) (hZ : Z.Warmed39 (s.setVm vm0).vm) (hEL : EW Z a0 EL) (hs0 : s.heap = h0) (HR : CHr Z EL s.vm h0 vm0 h) (hk : cells ≤ k) (hn : slots ≤ n) (hq : Q (some (.int (nar t z))) h locs) : Go p e below T (mkF m pc Ls (.int z :: rest)) (KQH Z EL s Q k n) :=
  Go.endH X (fun h => by rw [hret] at h; cases h) hlk (fun _ hr => Jvm.RoadKit.retN X hx hret ht hd hr) eT hS hk0 hZ hEL hs0 HR hk hn hq
theorem Go.retAH (X : Stand p l e R (s.setVm vm0) m args below meth c T locs cells slots) (hx : p.tables.exec = Jvm.exec) {t : FieldType} {w : Value} {rest : List Value} (hret : meth.sig.returnType = some t) (hlk : meth.locks = false) {pc : Nat} {Ls : Array Slot} {Q : Option Value → Heap → List Loc → Prop} {k n : Nat} (ht : t.isReference = true) (hw : w.isRef = true)
    (hd : decode c.code pc = .ok (.areturn, 1)) (eT : T.heap = h) (hS : s.Since vm0 k0) (hk0 : k0 ≤ h.size) (hZ : Z.Warmed39 (s.setVm vm0).vm) (hEL : EW Z a0 EL) (hs0 : s.heap = h0) (HR : CHr Z EL s.vm h0 vm0 h) (hk : cells ≤ k) (hn : slots ≤ n) (hq : Q (some w) h locs) : Go p e below T (mkF m pc Ls (w :: rest)) (KQH Z EL s Q k n) :=
  Go.endH X (fun h => by rw [hret] at h; cases h) hlk (fun _ hr => retOut X hx hret (narrow_ref ht hw) (Or.inr (Or.inr (Or.inr (Or.inr ⟨rfl, ht, hw⟩)))) hd hr) eT hS hk0 hZ hEL hs0 HR hk hn hq
def KQW (s : State) (Q : Option Value → Heap → List Loc → Prop) (k n : Nat) (o : Outcome) (U : State) : Prop := ∃ v L, o = .returned v ∧ Q v U.heap L ∧ ReturnedEndW s o U L k n
abbrev CtrW (l : Launch) (Z : State) (EL : List (String × Nat)) (y : MethodName) (bytes : ByteArray) (mx : Nat) (rt : Option FieldType) (ws : List Jvm.Cond) (R : Room) (as : Array Value) (h0 : Heap) (Q : Option Value → Heap → List Loc → Prop) : Prop :=
  MetFree l y (head1 (Jvm.Cond.code y bytes mx rt :: ws) R) (fun a U => a = as ∧ Z.Warmed39 U.vm ∧ U.heap = h0 ∧ CHv Z EL U.vm h0) (fun _ _ _ _ _ => True) (fun _ U o U' => ∃ v L, o = .returned v ∧ Q v U'.heap L ∧ ReturnedEndW U o U' L R.cells R.slots)
theorem CtrW.intro {y : MethodName} {bytes : ByteArray} {mx : Nat} {rt : Option FieldType} {ws : List Jvm.Cond} {as : Array Value} {Q : Option Value → Heap → List Loc → Prop} (hpl : plainFor y = true)
    (body : ∀ (p : Program) (e : Env) (s : State) (m : MethodId) (below : List Frame) (meth : Method) (c : Code) (s₁ : State), p.tables.exec = Jvm.exec → c.code = bytes → c.maxLocals = mx → (s.setVm s.vm).vm.findClass y.cls = some m.cls → meth.name = y.name → meth.sig.returnType = rt → meth.locks = false → Z.Warmed39 (s.setVm s.vm).vm →
      Stand p l e R (s.setVm s.vm) m as below meth c s₁ [] 0 0 → s₁.heap = h0 → s.heap = h0 → CHv Z EL s.vm h0 → Go p e below s₁ (entryFrame m as mx) (KQW s Q R.cells R.slots)) : CtrW l Z EL y bytes mx rt ws R as h0 Q := by
  refine MetFree.of_bodySF hpl hisR ?_
  intro p e s m args below meth c s₁ Bd hml0 hP hK
  obtain ⟨rfl, hZ, hh, hC⟩ := hP
  obtain ⟨s₂, o, h1, h2, h3, h4⟩ := body p e s m below meth c s₁ Bd.exec Bd.bytes hml0 (findClass_of_methodNamed Bd.named) (name_of_methodNamed Bd.named Bd.method).1 Bd.returns Bd.notSynchronized hZ (Stand.of_body Bd) (by rw [← hh, Bd.state]; rfl) hh hC
  exact ⟨s₂, o, h1, h2, h3, h4⟩
theorem Go.retNW (X : Stand p l e R (s.setVm vm0) m args below meth c T locs cells slots) (hx : p.tables.exec = Jvm.exec) {t : FieldType} {z : Int32} {rest : List Value} (hret : meth.sig.returnType = some t) (hlk : meth.locks = false) {pc : Nat} {Ls : Array Slot} {Q : Option Value → Heap → List Loc → Prop} {k n : Nat} (ht : t = .boolean ∨ t = .byte ∨ t = .char ∨ t = .short)
    (hd : decode c.code pc = .ok (.ireturn, 1)) (eT : T.heap = h) (hS : s.Since vm0 k0) (hk0 : k0 ≤ h.size) (hk : cells ≤ k) (hn : slots ≤ n) (hq : Q (some (.int (nar t z))) h locs) : Go p e below T (mkF m pc Ls (.int z :: rest)) (KQW s Q k n) := by
  obtain ⟨fs, hr, hrun, hended, h1, h2, h3, h4⟩ := X.leaveW hS (by rw [eT]; exact hk0) (v := some (.int (nar t z))) (fun h => by rw [hret] at h; cases h) hlk
  exact ⟨_, _, Jvm.RoadKit.retN X hx hret ht hd hr, hrun, hended, _, locs, rfl, by show Q _ T.heap _; rw [eT]; exact hq, h1, h2, h3, h4.mono hk hn⟩
/-- a String whose value is still null is no booked one, nor a booked one's array -/
theorem own_safe {x : Addr} (hal : Z.vm.Alike vm) (E : Exa Z h x "java/lang/String") (F : Fld Z h x "java/lang/String" "value" "[B" .null) : Safe Z EL vm h x := fun B => by
  obtain ⟨cell, k, e1, e2, e3, -, -⟩ := E
  obtain ⟨cell', cf, k', i, f, f1, f2, f3, -, -, -, f7⟩ := F
  cases e1.symm.trans f1
  obtain ⟨p, -, u, a, -, q, -, F, rfl | rfl⟩ := B
  · cases (show h[q.sa]? = some q.sC from F.ha).symm.trans e1
    obtain ⟨cS, ⟨⟨s1, s2, s3, ⟨cv, kv, iv, s4, s4'⟩, ⟨cc, kc, ic, s5, s5'⟩, s6, s7, s8, -⟩, -⟩, -⟩ := F
    obtain ⟨kv', z4⟩ := ff_back (Z := Z) (U := Wst Z vm h) hal s4
    have e := f2.symm.trans z4
    simp only [Option.some.injEq, Prod.mk.injEq] at e
    rw [e.2.2.2] at f7
    have := f7.symm.trans s8
    cases this
  · cases (show h[q.sd]? = some q.SA from F.hd).symm.trans e1
    obtain ⟨cS, -, -, fB, -⟩ := F
    have fB' : Z.vm.findClass "[B" = some q.SA.cls := by rw [← hal.findClass]; exact fB
    obtain ⟨k1, q1, q2⟩ := Vm.findClass_spec fB'
    obtain ⟨k2, q3, q4⟩ := Vm.findClass_spec e2
    cases q1.symm.trans q3
    have := q2.symm.trans q4
    exact absurd this (by decide)
theorem own_pad (X : Stand p l e R s m args below meth c T locs cells slots) {c' n' : Nat} (h1 : cells ≤ c') (h2 : slots ≤ n') : Stand p l e R s m args below meth c T locs c' n' :=
  ⟨X.admits, X.cas, X.clock, X.frames, X.room, X.hears, X.method, X.code, X.here, X.tail, X.warmed, X.limits, X.bytes, X.same.mono h1 h2⟩
theorem own_since (s : State) : s.Since s.vm 0 := (State.WarmedH.refl s).since 0
end own_hkit

abbrev EL : List (String × Nat) := [("java/lang/String", 7)]
theorem d4_0 : decode jdk_42_method_149_code 0 = .ok (.aload_n 0, 1) := by decide +kernel
theorem d4_1 : decode jdk_42_method_149_code 1 = .ok (.invokespecial 1, 3) := by decide +kernel
theorem d4_4 : decode jdk_42_method_149_code 4 = .ok (.iload_n 3, 1) := by decide +kernel
theorem d4_5 : decode jdk_42_method_149_code 5 = .ok (.ifCond .ne 22, 3) := by decide +kernel
theorem d4_8 : decode jdk_42_method_149_code 8 = .ok (.aload_n 0, 1) := by decide +kernel
theorem d4_9 : decode jdk_42_method_149_code 9 = .ok (.ldc 7, 2) := by decide +kernel
theorem d4_11 : decode jdk_42_method_149_code 11 = .ok (.getfield 9, 3) := by decide +kernel
theorem d4_14 : decode jdk_42_method_149_code 14 = .ok (.putfield 9, 3) := by decide +kernel
theorem d4_17 : decode jdk_42_method_149_code 17 = .ok (.aload_n 0, 1) := by decide +kernel
theorem d4_18 : decode jdk_42_method_149_code 18 = .ok (.ldc 7, 2) := by decide +kernel
theorem d4_20 : decode jdk_42_method_149_code 20 = .ok (.getfield 15, 3) := by decide +kernel
theorem d4_23 : decode jdk_42_method_149_code 23 = .ok (.putfield 15, 3) := by decide +kernel
theorem d4_26 : decode jdk_42_method_149_code 26 = .ok (.return_, 1) := by decide +kernel
theorem own_pn0 : plainName "java/lang/String" = true := by first | (simp [plainName, overriddenIn]; done) | decide +kernel
theorem own_ef_rm4 (m : MethodId) (x0 : Addr) (x1 : Addr) : entryFrame m #[(.ref x0), (.ref x1), (.int (0 : Int32)), (.int (0 : Int32)), .null] 6 = mkF m 0 #[.val (.ref x0), .val (.ref x1), .val (.int (0 : Int32)), .val (.int (0 : Int32)), .val .null, .unset] [] := by first | (simp [entryFrame, mkF, argsToLocals, Value.category]; done) | rfl
def Q_rm4 (Z : State) (x0 x1 : Addr) (h0 : Heap) (n0 : Nat) : Option Value → Heap → List Loc → Prop := fun v h L => v = none ∧ Fr n0 L ∧ Keep h0 h [x0] ∧ Exa Z h x0 "java/lang/String" ∧ Fld Z h x0 "java/lang/String" "coder" "B" (.int 0) ∧ Fld Z h x0 "java/lang/String" "hash" "I" (.int 0) ∧ Fld Z h x0 "java/lang/String" "hashIsZero" "Z" (.int 0) ∧ ∃ (t : Addr) (kb : ClassId), Fld Z h x0 "java/lang/String" "value" "[B" (.ref t) ∧ Arv Z h t kb .byte 0 [] (.int 0)
set_option maxRecDepth 65536 in
set_option maxHeartbeats 40000000 in
theorem rm4 (l : Launch) (Z : State) (a0 : Array Value) (hw : ∀ d ∈ tables_1, d.before a0 Z = true) (ws : List Jvm.Cond) (x0 x1 : Addr) (h0 : Heap) (n0 : Nat) (Z0 : n0 ≤ h0.size) (hEL : EW Z a0 EL) (wS : ∀ a ∈ Bundle.stringAtoms, a.before a0 Z = true) (g0 : n0 ≤ x0) (E_x0 : Exa Z h0 x0 "java/lang/String") (F_value : Fld Z h0 x0 "java/lang/String" "value" "[B" .null) (F_coder : Fld Z h0 x0 "java/lang/String" "coder" "B" (.int 0)) (F_hash : Fld Z h0 x0 "java/lang/String" "hash" "I" (.int 0)) (F_hashIsZero : Fld Z h0 x0 "java/lang/String" "hashIsZero" "Z" (.int 0)) :
    CtrH l Z EL (⟨"java/lang/String", "<init>", "([CIILjava/lang/Void;)V"⟩ : MethodName) jdk_42_method_149_code 6 none ws ({ frames := 1, cells := 4, slots := 8, locals := 12 } : Room) #[(.ref x0), (.ref x1), (.int (0 : Int32)), (.int (0 : Int32)), .null] h0 (Q_rm4 Z x0 x1 h0 n0) := by
  refine CtrH.intro (plainFor_of_name own_pn0) ?_
  intro p e s m below meth c s₁ hx hby hml hown hnm hret hlk hZ X0 e0 hs0 hC0
  have hown : (s.setVm s.vm).vm.findClass "java/lang/String" = some m.cls := hown
  have hml : c.maxLocals = 6 := hml
  have N0 := Fr.nil n0
  refine Go.cast (own_ef_rm4 m x0 x1) ?_
  have hS : s.Since s.vm 0 := own_since s
  have hk : 0 ≤ h0.size := Nat.zero_le _
  have HR := CHr.refl hC0
  have KK := Keep.refl h0 [x0]
  have S_x0 : Safe Z EL s.vm h0 x0 := own_safe hZ.alike E_x0 F_value
  show Go p e below s₁ (mkF m 0 #[.val (.ref x0), .val (.ref x1), .val (.int (0 : Int32)), .val (.int (0 : Int32)), .val .null, .unset] []) _
  refine Go.of (fun _ k => XS.aloadN X0.here hx rfl (hb hby d4_0) rfl rfl  k) ?_
  show Go p e below s₁ (mkF m 1 #[.val (.ref x0), .val (.ref x1), .val (.int (0 : Int32)), .val (.int (0 : Int32)), .val .null, .unset] [(.ref x0)]) _
  obtain ⟨T1, X1, e1, st1⟩ := initO X0 hx hZ hown (hw _ (List.mem_of_getElem? (i := 21) rfl)) (hw _ (List.mem_of_getElem? (i := 22) rfl)) (hw _ (List.mem_of_getElem? (i := 23) rfl)) e0 (g := (mkF m 1 #[.val (.ref x0), .val (.ref x1), .val (.int (0 : Int32)), .val (.int (0 : Int32)), .val .null, .unset] [(.ref x0)])) rfl (by rw [hml]; rfl) rfl (hb hby d4_1) (by decide) (W := 0) (by show 2 * 0 + _ ≤ _; exact Nat.le_of_eq rfl) (by decide)
  refine Go.of (fun _ k => st1 _ k) ?_
  show Go p e below T1 (mkF m 4 #[.val (.ref x0), .val (.ref x1), .val (.int (0 : Int32)), .val (.int (0 : Int32)), .val .null, .unset] []) _
  refine Go.of (fun _ k => XS.iloadN X1.here hx rfl (hb hby d4_4) rfl  k) ?_
  show Go p e below T1 (mkF m 5 #[.val (.ref x0), .val (.ref x1), .val (.int (0 : Int32)), .val (.int (0 : Int32)), .val .null, .unset] [(.int (0 : Int32))]) _
  refine Go.of (fun _ k => XS.ifNo X1.here hx rfl (hb hby d4_5) rfl ((if0 _ _).trans (teq (show (0 : Int32) = (0 : Int32) from (by decide))).2) k) ?_
  show Go p e below T1 (mkF m 8 #[.val (.ref x0), .val (.ref x1), .val (.int (0 : Int32)), .val (.int (0 : Int32)), .val .null, .unset] []) _
  refine Go.of (fun _ k => XS.aloadN X1.here hx rfl (hb hby d4_8) rfl rfl  k) ?_
  show Go p e below T1 (mkF m 9 #[.val (.ref x0), .val (.ref x1), .val (.int (0 : Int32)), .val (.int (0 : Int32)), .val .null, .unset] [(.ref x0)]) _
  obtain ⟨la2, T2, h2, k2, lb2, kk2, X2, e2, E2, hS, hkN, hZ, hown, Ea2, Fc2, Fv2, Vb2, -, -, hC2, -, hsf2, st2⟩ := ldcCH X1 hx hZ hown (hw _ (List.mem_of_getElem? (i := 24) rfl)) wS e1 hS hk hEL (List.mem_of_getElem? (i := 0) rfl) HR.1 (vs := []) (z := 0) ⟨by decide, rfl⟩ (by decide) rfl (g := (mkF m 9 #[.val (.ref x0), .val (.ref x1), .val (.int (0 : Int32)), .val (.int (0 : Int32)), .val .null, .unset] [(.ref x0)])) rfl (hb hby d4_9) (n := 0) (by decide) (by decide) (by decide) (by decide)
  have S_x0 := hC2.safe E_x0.lt S_x0
  have ne_x0_la2 := (hsf2 _ S_x0).1
  have ne_x0_lb2 := (hsf2 _ S_x0).2
  have HR := HR.trans hC2
  have hk := hkN
  have KK := KK.ext E2
  have E_x0 := E_x0.ext E2
  have F_value := F_value.ext E2
  have F_coder := F_coder.ext E2
  have F_hash := F_hash.ext E2
  have F_hashIsZero := F_hashIsZero.ext E2
  refine Go.of (fun _ k => st2 _ k) ?_
  show Go p e below T2 (mkF m 11 #[.val (.ref x0), .val (.ref x1), .val (.int (0 : Int32)), .val (.int (0 : Int32)), .val .null, .unset] [(.ref la2), (.ref x0)]) _
  obtain ⟨T3, X3, e3, st3⟩ := getF X2 hx hZ hown (host := "") (Or.inl (hw _ (List.mem_of_getElem? (i := 30) rfl))) Via.refl e2 Fv2 (g := (mkF m 11 #[.val (.ref x0), .val (.ref x1), .val (.int (0 : Int32)), .val (.int (0 : Int32)), .val .null, .unset] [(.ref la2), (.ref x0)])) rfl rfl (hb hby d4_11)
  refine Go.of (fun _ k => st3 _ k) ?_
  show Go p e below T3 (mkF m 14 #[.val (.ref x0), .val (.ref x1), .val (.int (0 : Int32)), .val (.int (0 : Int32)), .val .null, .unset] [(.ref lb2), (.ref x0)]) _
  obtain ⟨T4, h4, X4, e4, W4, st4⟩ := putF X3 hx hZ hown (host := "") (Or.inl (hw _ (List.mem_of_getElem? (i := 30) rfl))) Via.refl e3 F_value E_x0 (Or.inr ⟨(hw _ (List.mem_of_getElem? (i := 26) rfl)), rfl, hnm⟩) (hw _ (List.mem_of_getElem? (i := 11) rfl)) (ty := (.array .byte)) (by decide) rfl rfl (g := (mkF m 14 #[.val (.ref x0), .val (.ref x1), .val (.int (0 : Int32)), .val (.int (0 : Int32)), .val .null, .unset] [(.ref lb2), (.ref x0)])) rfl rfl (hb hby d4_14)
  have sf4 := S_x0
  have N4 := Fr.snoc X4 N0 g0
  have F_value := F_value.same W4
  have S_x0 := Safe.wr W4 sf4 HR.1 S_x0
  have HR := HR.trans (CHr.wr W4 sf4 HR.1)
  have hk := Nat.le_trans hk (Keep.of_wr W4).1
  have KK := KK.wr W4 (Or.inl (List.mem_of_getElem? (i := 0) rfl))
  have E_x0 := E_x0.wr W4
  have F_coder := F_coder.other W4 (Or.inr (slot_ne (Or.inr (hw _ (List.mem_of_getElem? (i := 27) rfl))) (Or.inr (hw _ (List.mem_of_getElem? (i := 26) rfl))) (by decide) (t := .byte) (t' := (.array .byte)) (by decide) (by decide)))
  have F_hash := F_hash.other W4 (Or.inr (slot_ne (Or.inl (hw _ (List.mem_of_getElem? (i := 102) rfl))) (Or.inr (hw _ (List.mem_of_getElem? (i := 26) rfl))) (by decide) (t := .int) (t' := (.array .byte)) (by decide) (by decide)))
  have F_hashIsZero := F_hashIsZero.other W4 (Or.inr (slot_ne (Or.inl (hw _ (List.mem_of_getElem? (i := 104) rfl))) (Or.inr (hw _ (List.mem_of_getElem? (i := 26) rfl))) (by decide) (t := .boolean) (t' := (.array .byte)) (by decide) (by decide)))
  have Ea2 := Ea2.wr W4
  have Fc2 := Fc2.other W4 (Or.inl (Ne.symm ne_x0_la2))
  have Fv2 := Fv2.other W4 (Or.inl (Ne.symm ne_x0_la2))
  have Vb2 := Vb2.other W4 (Ne.symm ne_x0_lb2)
  refine Go.of (fun _ k => st4 _ k) ?_
  show Go p e below T4 (mkF m 17 #[.val (.ref x0), .val (.ref x1), .val (.int (0 : Int32)), .val (.int (0 : Int32)), .val .null, .unset] []) _
  refine Go.of (fun _ k => XS.aloadN X4.here hx rfl (hb hby d4_17) rfl rfl  k) ?_
  show Go p e below T4 (mkF m 18 #[.val (.ref x0), .val (.ref x1), .val (.int (0 : Int32)), .val (.int (0 : Int32)), .val .null, .unset] [(.ref x0)]) _
  obtain ⟨la5, T5, h5, k5, lb5, kk5, X5, e5, E5, hS, hkN, hZ, hown, Ea5, Fc5, Fv5, Vb5, -, -, hC5, -, hsf5, st5⟩ := ldcCH X4 hx hZ hown (hw _ (List.mem_of_getElem? (i := 24) rfl)) wS e4 hS hk hEL (List.mem_of_getElem? (i := 0) rfl) HR.1 (vs := []) (z := 0) ⟨by decide, rfl⟩ (by decide) rfl (g := (mkF m 18 #[.val (.ref x0), .val (.ref x1), .val (.int (0 : Int32)), .val (.int (0 : Int32)), .val .null, .unset] [(.ref x0)])) rfl (hb hby d4_18) (n := 0) (by decide) (by decide) (by decide) (by decide)
  have S_x0 := hC5.safe E_x0.lt S_x0
  have ne_x0_la5 := (hsf5 _ S_x0).1
  have ne_x0_lb5 := (hsf5 _ S_x0).2
  have HR := HR.trans hC5
  have hk := hkN
  have KK := KK.ext E5
  have E_x0 := E_x0.ext E5
  have F_value := F_value.ext E5
  have F_coder := F_coder.ext E5
  have F_hash := F_hash.ext E5
  have F_hashIsZero := F_hashIsZero.ext E5
  have Ea2 := Ea2.ext E5
  have Fc2 := Fc2.ext E5
  have Fv2 := Fv2.ext E5
  have Vb2 := Vb2.ext E5
  refine Go.of (fun _ k => st5 _ k) ?_
  show Go p e below T5 (mkF m 20 #[.val (.ref x0), .val (.ref x1), .val (.int (0 : Int32)), .val (.int (0 : Int32)), .val .null, .unset] [(.ref la5), (.ref x0)]) _
  obtain ⟨T6, X6, e6, st6⟩ := getF X5 hx hZ hown (host := "") (Or.inl (hw _ (List.mem_of_getElem? (i := 31) rfl))) Via.refl e5 Fc5 (g := (mkF m 20 #[.val (.ref x0), .val (.ref x1), .val (.int (0 : Int32)), .val (.int (0 : Int32)), .val .null, .unset] [(.ref la5), (.ref x0)])) rfl rfl (hb hby d4_20)
  refine Go.of (fun _ k => st6 _ k) ?_
  show Go p e below T6 (mkF m 23 #[.val (.ref x0), .val (.ref x1), .val (.int (0 : Int32)), .val (.int (0 : Int32)), .val .null, .unset] [(.int (0 : Int32)), (.ref x0)]) _
  obtain ⟨T7, h7, X7, e7, W7, st7⟩ := putFN X6 hx hZ hown (hw _ (List.mem_of_getElem? (i := 31) rfl)) Via.refl e6 F_coder E_x0 (Or.inr ⟨(hw _ (List.mem_of_getElem? (i := 27) rfl)), rfl, hnm⟩) (hw _ (List.mem_of_getElem? (i := 11) rfl)) (ty := .byte) (v' := (.int (0 : Int32))) (by decide) rfl (by decide) (g := (mkF m 23 #[.val (.ref x0), .val (.ref x1), .val (.int (0 : Int32)), .val (.int (0 : Int32)), .val .null, .unset] [(.int (0 : Int32)), (.ref x0)])) rfl rfl (hb hby d4_23)
  have sf7 := S_x0
  have N7 := Fr.snoc X7 N4 g0
  have F_coder := F_coder.same W7
  have S_x0 := Safe.wr W7 sf7 HR.1 S_x0
  have HR := HR.trans (CHr.wr W7 sf7 HR.1)
  have hk := Nat.le_trans hk (Keep.of_wr W7).1
  have KK := KK.wr W7 (Or.inl (List.mem_of_getElem? (i := 0) rfl))
  have E_x0 := E_x0.wr W7
  have F_value := F_value.other W7 (Or.inr (slot_ne (Or.inr (hw _ (List.mem_of_getElem? (i := 26) rfl))) (Or.inr (hw _ (List.mem_of_getElem? (i := 27) rfl))) (by decide) (t := (.array .byte)) (t' := .byte) (by decide) (by decide)))
  have F_hash := F_hash.other W7 (Or.inr (slot_ne (Or.inl (hw _ (List.mem_of_getElem? (i := 102) rfl))) (Or.inr (hw _ (List.mem_of_getElem? (i := 27) rfl))) (by decide) (t := .int) (t' := .byte) (by decide) (by decide)))
  have F_hashIsZero := F_hashIsZero.other W7 (Or.inr (slot_ne (Or.inl (hw _ (List.mem_of_getElem? (i := 104) rfl))) (Or.inr (hw _ (List.mem_of_getElem? (i := 27) rfl))) (by decide) (t := .boolean) (t' := .byte) (by decide) (by decide)))
  have Ea2 := Ea2.wr W7
  have Fc2 := Fc2.other W7 (Or.inl (Ne.symm ne_x0_la2))
  have Fv2 := Fv2.other W7 (Or.inl (Ne.symm ne_x0_la2))
  have Vb2 := Vb2.other W7 (Ne.symm ne_x0_lb2)
  have Ea5 := Ea5.wr W7
  have Fc5 := Fc5.other W7 (Or.inl (Ne.symm ne_x0_la5))
  have Fv5 := Fv5.other W7 (Or.inl (Ne.symm ne_x0_la5))
  have Vb5 := Vb5.other W7 (Ne.symm ne_x0_lb5)
  refine Go.of (fun _ k => st7 _ k) ?_
  show Go p e below T7 (mkF m 26 #[.val (.ref x0), .val (.ref x1), .val (.int (0 : Int32)), .val (.int (0 : Int32)), .val .null, .unset] []) _
  refine Go.ret0H X7 hx hret hlk (hb hby d4_26) e7 hS hk hZ hEL hs0 HR (by decide) (by decide) ?_
  exact ⟨rfl, N7, KK, E_x0, F_coder, F_hash, F_hashIsZero, _, _, F_value, Vb2⟩
theorem d3_0 : decode jdk_42_method_3_code 0 = .ok (.aload_n 0, 1) := by decide +kernel
theorem d3_1 : decode jdk_42_method_3_code 1 = .ok (.aload_n 1, 1) := by decide +kernel
theorem d3_2 : decode jdk_42_method_3_code 2 = .ok (.iconst 0, 1) := by decide +kernel
theorem d3_3 : decode jdk_42_method_3_code 3 = .ok (.aload_n 1, 1) := by decide +kernel
theorem d3_4 : decode jdk_42_method_3_code 4 = .ok (.arraylength, 1) := by decide +kernel
theorem d3_5 : decode jdk_42_method_3_code 5 = .ok (.aconst_null, 1) := by decide +kernel
theorem d3_6 : decode jdk_42_method_3_code 6 = .ok (.invokespecial 27, 3) := by decide +kernel
theorem own_pd0 : parseMethodDescriptor "([CIILjava/lang/Void;)V" = some ⟨[(.array .char), .int, .int, (.object "java/lang/Void")], none⟩ := by decide +kernel
theorem d3_9 : decode jdk_42_method_3_code 9 = .ok (.return_, 1) := by decide +kernel
theorem own_ef_rm3 (m : MethodId) (x0 : Addr) (x1 : Addr) : entryFrame m #[(.ref x0), (.ref x1)] 2 = mkF m 0 #[.val (.ref x0), .val (.ref x1)] [] := by first | (simp [entryFrame, mkF, argsToLocals, Value.category]; done) | rfl
def Q_rm3 (Z : State) (x0 x1 : Addr) (kC : ClassId) (dC : Value) (h0 : Heap) (n0 : Nat) : Option Value → Heap → List Loc → Prop := fun v h L => v = none ∧ Fr n0 L ∧ Keep h0 h [x0] ∧ Exa Z h x0 "java/lang/String" ∧ Fld Z h x0 "java/lang/String" "coder" "B" (.int 0) ∧ Fld Z h x0 "java/lang/String" "hash" "I" (.int 0) ∧ Fld Z h x0 "java/lang/String" "hashIsZero" "Z" (.int 0) ∧ ∃ (t : Addr) (kb : ClassId), Fld Z h x0 "java/lang/String" "value" "[B" (.ref t) ∧ Arv Z h t kb .byte 0 [] (.int 0)
set_option maxRecDepth 65536 in
set_option maxHeartbeats 40000000 in
theorem rm3 (l : Launch) (Z : State) (a0 : Array Value) (hw : ∀ d ∈ tables_1, d.before a0 Z = true) (ws : List Jvm.Cond) (x0 x1 : Addr) (kC : ClassId) (dC : Value) (h0 : Heap) (n0 : Nat) (Z0 : n0 ≤ h0.size) (hEL : EW Z a0 EL) (wS : ∀ a ∈ Bundle.stringAtoms, a.before a0 Z = true) (g0 : n0 ≤ x0) (E_x0 : Exa Z h0 x0 "java/lang/String") (F_value : Fld Z h0 x0 "java/lang/String" "value" "[B" .null) (F_coder : Fld Z h0 x0 "java/lang/String" "coder" "B" (.int 0)) (F_hash : Fld Z h0 x0 "java/lang/String" "hash" "I" (.int 0)) (F_hashIsZero : Fld Z h0 x0 "java/lang/String" "hashIsZero" "Z" (.int 0)) (V_c : Arv Z h0 x1 kC .char 0 [] dC) :
    CtrH l Z EL (⟨"java/lang/String", "<init>", "([C)V"⟩ : MethodName) jdk_42_method_3_code 2 none ws ({ frames := 2, cells := 4, slots := 8, locals := 29 } : Room) #[(.ref x0), (.ref x1)] h0 (Q_rm3 Z x0 x1 kC dC h0 n0) := by
  refine CtrH.intro (plainFor_of_name own_pn0) ?_
  intro p e s m below meth c s₁ hx hby hml hown hnm hret hlk hZ X0 e0 hs0 hC0
  have hown : (s.setVm s.vm).vm.findClass "java/lang/String" = some m.cls := hown
  have hml : c.maxLocals = 2 := hml
  have N0 := Fr.nil n0
  refine Go.cast (own_ef_rm3 m x0 x1) ?_
  have hS : s.Since s.vm 0 := own_since s
  have hk : 0 ≤ h0.size := Nat.zero_le _
  have HR := CHr.refl hC0
  have KK := Keep.refl h0 [x0]
  show Go p e below s₁ (mkF m 0 #[.val (.ref x0), .val (.ref x1)] []) _
  refine Go.of (fun _ k => XS.aloadN X0.here hx rfl (hb hby d3_0) rfl rfl  k) ?_
  show Go p e below s₁ (mkF m 1 #[.val (.ref x0), .val (.ref x1)] [(.ref x0)]) _
  refine Go.of (fun _ k => XS.aloadN X0.here hx rfl (hb hby d3_1) rfl rfl  k) ?_
  show Go p e below s₁ (mkF m 2 #[.val (.ref x0), .val (.ref x1)] [(.ref x1), (.ref x0)]) _
  refine Go.of (fun _ k => XS.iconst X0.here hx rfl (hb hby d3_2) k) ?_
  show Go p e below s₁ (mkF m 3 #[.val (.ref x0), .val (.ref x1)] [(.int (0 : Int32)), (.ref x1), (.ref x0)]) _
  refine Go.of (fun _ k => XS.aloadN X0.here hx rfl (hb hby d3_3) rfl rfl  k) ?_
  show Go p e below s₁ (mkF m 4 #[.val (.ref x0), .val (.ref x1)] [(.ref x1), (.int (0 : Int32)), (.ref x1), (.ref x0)]) _
  obtain ⟨cl1, Ac1, -, Sc1, -, -, -⟩ := id V_c
  refine Go.of (fun _ k => X0.arraylength hx (by rw [e0]; exact Ac1.1) (State.isArrayOf_alike hZ.alike Ac1.2.1) (g := (mkF m 4 #[.val (.ref x0), .val (.ref x1)] [(.ref x1), (.int (0 : Int32)), (.ref x1), (.ref x0)])) rfl rfl (hb hby d3_4) _ k) ?_
  rw [len_of Sc1 (by decide)]
  show Go p e below s₁ (mkF m 5 #[.val (.ref x0), .val (.ref x1)] [(.int (0 : Int32)), (.int (0 : Int32)), (.ref x1), (.ref x0)]) _
  refine Go.of (fun _ k => XS.aconstNull X0.here hx rfl (hb hby d3_5) k) ?_
  show Go p e below s₁ (mkF m 6 #[.val (.ref x0), .val (.ref x1)] [.null, (.int (0 : Int32)), (.int (0 : Int32)), (.ref x1), (.ref x0)]) _
  obtain ⟨_, _, ⟨T1, L1, kq1, nq1⟩, -, X1, hS1, hg1, ⟨Lc1, hQ1, l1, y1, z1, hC1⟩, st1⟩ := X0.specialBackS hx (y := (⟨"java/lang/String", "<init>", "([CIILjava/lang/Void;)V"⟩ : MethodName)) rfl hown (mvT hZ (hw _ (List.mem_of_getElem? (i := 17) rfl))) (mvT hZ (hw _ (List.mem_of_getElem? (i := 18) rfl))) (mvT hZ (hw _ (List.mem_of_getElem? (i := 20) rfl))) (by decide) (backOfSH (W := 0) (rm4 l Z a0 hw [] x0 x1 h0 n0 Z0 hEL wS g0 E_x0 F_value F_coder F_hash F_hashIsZero) hZ (hw _ (List.mem_of_getElem? (i := 20) rfl)) (hw _ (List.mem_of_getElem? (i := 12) rfl)) (by decide) (by decide) hEL HR.1) (g := (mkF m 6 #[.val (.ref x0), .val (.ref x1)] [.null, (.int (0 : Int32)), (.int (0 : Int32)), (.ref x1), (.ref x0)])) rfl (by rw [hml]; rfl) (Steps.refl _) (a := x0) (argsL := [(.ref x1), (.int (0 : Int32)), (.int (0 : Int32)), .null]) (rest := []) (lenOf own_pd0 rfl) rfl (by show 2 * 0 + _ ≤ _; exact Nat.le_of_eq rfl) (hb hby d3_6) (fun _ _ => ⟨rfl, e0, (by decide : 0 + 4 ≤ _), (by decide : 0 + 8 ≤ _)⟩)
  dsimp only [Pt.U, Pt.locs, Pt.cells, Pt.slots] at X1 l1 y1 z1 st1 hQ1 hS1 hg1 hC1
  subst l1 y1 z1
  obtain ⟨X1, hS, hZ, hown⟩ := rebS hS (by rw [e0]; exact hk) X1 hS1 hg1 hZ hown
  have HR := HR.trans hC1
  have hk : T1.heap.size ≤ T1.heap.size := Nat.le_refl _
  obtain ⟨rfl, Nq1, Kq1, Eq1, Fc, Gx_hash, Gx_hashIsZero, t, kb, Fv, Vt⟩ := hQ1
  have N1 := Fr.app N0 Nq1
  have KK := KK.trans Kq1 (allS (Or.inl (List.mem_of_getElem? (i := 0) rfl)) all0)
  have E_x0 := E_x0.keep Kq1
  have E_x0 := Eq1
  refine Go.of (fun _ k => st1.trans k) ?_
  show Go p e below T1 (mkF m 9 #[.val (.ref x0), .val (.ref x1)] []) _
  refine Go.ret0H X1 hx hret hlk (hb hby d3_9) rfl hS hk hZ hEL hs0 HR (by decide) (by decide) ?_
  exact ⟨rfl, N1, KK, E_x0, Fc, Gx_hash, Gx_hashIsZero, t, kb, Fv, Vt⟩
theorem own_words {Z : State} {a0 : Array Value} (hw : ∀ d ∈ tables_1, d.before a0 Z = true) : ∀ d ∈ StrChars.Road.words, d.before a0 Z = true := fun d hd => hw d ((by decide +kernel : ∀ d ∈ StrChars.Road.words, d ∈ tables_1) d hd)
theorem own_wS {Z : State} {a0 : Array Value} (hw : ∀ d ∈ tables_1, d.before a0 Z = true) : ∀ d ∈ Bundle.stringAtoms, d.before a0 Z = true := fun d hd => hw d ((by decide +kernel : ∀ d ∈ Bundle.stringAtoms, d ∈ tables_1) d hd)
theorem own_EL {Z : State} {a0 : Array Value} (hw : ∀ d ∈ tables_1, d.before a0 Z = true) : EW Z a0 EL := EW.cons (hw _ (List.mem_of_getElem? (i := 24) rfl)) (by decide) EW.nil
abbrev byt (cs : List Int32) : List Value := (cs.map fun c => c.toInt8.toInt32).map Value.int
def QS (Z : State) (x : Addr) (cs : List Int32) (h : Heap) (n0 : Nat) (v : Option Value) (h' : Heap) (L : List Loc) : Prop := v = none ∧ Fr n0 L ∧ Keep h h' [x] ∧ Exa Z h' x "java/lang/String" ∧ Fld Z h' x "java/lang/String" "coder" "B" (.int 0) ∧ Fld Z h' x "java/lang/String" "hash" "I" (.int 0) ∧ Fld Z h' x "java/lang/String" "hashIsZero" "Z" (.int 0) ∧ ∃ (t : Addr) (kb : ClassId), Fld Z h' x "java/lang/String" "value" "[B" (.ref t) ∧ Arv Z h' t kb .byte (Int32.ofNat cs.length) (byt cs) (.int 0) ∧ (cs ≠ [] → Z.vm.findClass "[B" = some kb)
/-- new String(chars), up to three of them, each 0 to 255; an empty one loads the literal -/
theorem own_newS {p : Program} {l : Launch} {e : Env} {R : Room} {s : State} {args : Array Value} {below : List Frame} {W : Nat} {Z : State} {a0 : Array Value} {h : Heap} {v0 : Vm} (hw : ∀ d ∈ tables_1, d.before a0 Z = true) (hZ : Z.Warmed39 (s.setVm v0).vm) (HC : CHv Z EL v0 h)
    {x b : Addr} {kC : ClassId} {cs : List Int32} {d : Value} {z N : Int32} {n0 : Nat} (hx0 : n0 ≤ x) (hh0 : n0 ≤ h.size) (E : Exa Z h x "java/lang/String") (V : Fld Z h x "java/lang/String" "value" "[B" .null) (C : Fld Z h x "java/lang/String" "coder" "B" (.int 0)) (X0 : Fld Z h x "java/lang/String" "hash" "I" (.int 0)) (X1 : Fld Z h x "java/lang/String" "hashIsZero" "Z" (.int 0)) (K : Arv Z h b kC .char N (cs.map Value.int) d) (S : Sta Z h "java/lang/String" "COMPACT_STRINGS" "Z" (.int z)) (hz : ¬ z = 0)
    (hN : N = Int32.ofNat cs.length) (hl : cs.length ≤ 3) (hp : ∀ c ∈ cs, ¬ c < 0 ∧ ¬ (255 : Int32) < c) (hfr : 4 ≤ R.frames) (hlo : W + 65 ≤ R.locals) :
    BackS l R p e below (s.setVm v0) args (⟨"java/lang/String", "<init>", "([C)V"⟩ : MethodName) 3 W (fun A a => a = #[.ref x, .ref b] ∧ A.U.heap = h ∧ A.cells + 4 ≤ R.cells ∧ A.slots + 12 ≤ R.slots)
      (fun A _ v B => ∃ L, QS Z x cs h n0 v B.U.heap L ∧ B.locs = A.locs ++ L ∧ B.cells = A.cells + 4 ∧ B.slots = A.slots + 12 ∧ CHr Z EL v0 h B.U.vm B.U.heap) := by
  by_cases h0 : cs = []
  · subst h0
    have hN0 : N = 0 := hN
    subst hN0
    have hB := backOfSH (s := s) (p := p) (e := e) (below := below) (args := args) (R := R) (len := 3) (W := W) (rm3 l Z a0 hw [] x b kC d h n0 hh0 (own_EL hw) (own_wS hw) hx0 E V C X0 X1 K) hZ (hw _ (List.mem_of_getElem? (i := 16) rfl)) (hw _ (List.mem_of_getElem? (i := 12) rfl)) (by show 2 + 1 ≤ _; omega) (by show W + (2 + 11) + 29 ≤ _; omega) (own_EL hw) HC
    intro m meth c A g ig mk a X hg hsize hdg hW hn hP
    obtain ⟨v, B, X', hS, hgr, ⟨L, ⟨q1, q2, q3, q4, q5, qx0, qx1, t, kb, q6, q7⟩, e1, e2, e3, hC⟩, st⟩ := hB m meth c A g ig mk a X hg hsize hdg hW hn ⟨hP.1, hP.2.1, by show A.cells + 4 ≤ _; have := hP.2.2.1; omega, by show A.slots + 8 ≤ _; have := hP.2.2.2; omega⟩
    have e2' : B.cells = A.cells + 4 := e2
    have e3' : B.slots = A.slots + 8 := e3
    exact ⟨v, ⟨B.U, B.locs, A.cells + 4, A.slots + 12⟩, own_pad X' (c' := A.cells + 4) (n' := A.slots + 12) (by omega) (by omega), hS, hgr, ⟨L, ⟨q1, q2, q3, q4, q5, qx0, qx1, t, kb, q6, q7, fun q => absurd rfl q⟩, e1, rfl, rfl, hC⟩, st⟩
  · have l0 : 0 < cs.length := List.length_pos_iff.mpr h0
    have hlen : N.toNatClampNeg = cs.length := by
      rcases (show cs.length = 1 ∨ cs.length = 2 ∨ cs.length = 3 by omega) with q | q | q <;> rw [hN, q] <;> rfl
    have hB := StrChars.Road.backArv (l := l) (R := R) (p := p) (e := e) (below := below) (s := s.setVm v0) (args := args) (len := 3) (W := W) hZ (own_words hw) (kI := 4) (hw _ (List.mem_of_getElem? (i := 11) rfl)) E V C K S hz hlen l0 (by omega) (fun c hc => (hp c hc).2) hfr hlo
    intro m meth c A g ig mk a X hg hsize hdg hW hn hP
    obtain ⟨v, B, X', ⟨L, ⟨q1, q2, q3, q4, q5, q6, q7, ⟨kb, v1, v2⟩, q11⟩, e1, e2, e3⟩, st⟩ := hB m meth c A g ig mk a X hg hsize hdg hW hn ⟨hP.1, hP.2.1, by have := hP.2.2.1; omega, by have := hP.2.2.2; omega⟩
    have sx : Safe Z EL v0 h x := own_safe hZ.alike E V
    have hC := CHr.keep q3 (sfS sx sf0) HC
    refine ⟨v, ⟨B.U, B.locs, A.cells + 4, A.slots + 12⟩, (own_pad X' (c' := A.cells + 4) (n' := A.slots + 12) (by omega) (by omega)).retabled X'.warmed.wide, X'.warmed.since _, ?_, ⟨L, ⟨q1, fun y hy => by rw [q2 y hy]; exact hx0, q3, q5, q7, q11 _ _ _ _ X0 (slot_ne (Or.inl (hw _ (List.mem_of_getElem? (i := 102) rfl))) (Or.inr (hw _ (List.mem_of_getElem? (i := 26) rfl))) (by decide) (t := .int) (t' := (.array .byte)) (by decide) (by decide)) (slot_ne (Or.inl (hw _ (List.mem_of_getElem? (i := 102) rfl))) (Or.inr (hw _ (List.mem_of_getElem? (i := 27) rfl))) (by decide) (t := .int) (t' := .byte) (by decide) (by decide)), q11 _ _ _ _ X1 (slot_ne (Or.inl (hw _ (List.mem_of_getElem? (i := 104) rfl))) (Or.inr (hw _ (List.mem_of_getElem? (i := 26) rfl))) (by decide) (t := .boolean) (t' := (.array .byte)) (by decide) (by decide)) (slot_ne (Or.inl (hw _ (List.mem_of_getElem? (i := 104) rfl))) (Or.inr (hw _ (List.mem_of_getElem? (i := 27) rfl))) (by decide) (t := .boolean) (t' := .byte) (by decide) (by decide)), _, kb, q6, ?_, fun _ => v1⟩, e1, rfl, rfl, hC.trans (CHv.at X' hZ (own_EL hw) hC.1)⟩, st⟩
    · show A.U.heap.size ≤ B.U.heap.size
      rw [hP.2.1]; exact q3.1
    · rw [← hN]; unfold byt; rw [List.map_map]; exact v2
theorem k0 : (0 : Int32).toInt = 0 := by decide
theorem k1 : (1 : Int32).toInt = 1 := by decide
theorem k2 : (2 : Int32).toInt = 2 := by decide
theorem k3 : (3 : Int32).toInt = 3 := by decide
theorem k4 : (4 : Int32).toInt = 4 := by decide
theorem k255 : (255 : Int32).toInt = 255 := by decide
theorem k65535 : (65535 : Int32).toInt = 65535 := by decide

abbrev chr (c : Int32) : Prop := ¬ c < 0 ∧ ¬ (255 : Int32) < c
theorem own_ch (y : Int32) : chr ((y &&& 255).toUInt32.toUInt16.toUInt32.toInt32) := by
  rw [i2c_mask]
  have e : (y &&& 255).toInt = y.toInt % 2 ^ 8 := Jvm.Kit.i32_mask y 255 (k := 8) (by decide) (by decide)
  constructor
  · rw [own_lt, k0]; omega
  · rw [own_lt, k255]; omega
theorem own_nar {c : Int32} (h : chr c) : nar .char c = c := by
  obtain ⟨h1, h2⟩ := h
  rw [own_lt, k0] at h1; rw [own_lt, k255] at h2
  show c.toUInt32.toUInt16.toUInt32.toInt32 = c
  have e : c &&& 255 = c := by
    have q : (c &&& 255).toInt = c.toInt % 2 ^ 8 := Jvm.Kit.i32_mask c 255 (k := 8) (by decide) (by decide)
    rw [own_eq, q]; omega
  rw [← e]; exact i2c_mask c
theorem own_up {cs : List Int32} (h : ∀ c ∈ cs, chr c) : ∀ c ∈ cs, ¬ c < 0 ∧ ¬ (65535 : Int32) < c := fun c hc => ⟨(h c hc).1, fun q => (h c hc).2 (by rw [own_lt, k255]; rw [own_lt, k65535] at q; omega)⟩
theorem own_weq {Z : State} {a0 : Array Value} (hw : ∀ d ∈ tables_1, d.before a0 Z = true) : ∀ d ∈ StrChars.Road.wordsEq, d.before a0 Z = true := fun d hd => hw d ((by decide +kernel : ∀ d ∈ StrChars.Road.wordsEq, d ∈ tables_1) d hd)


def fCh (x i : Int32) : Int32 := nar .char ((((x.toUInt32 >>> (((2 : Int32) + ((8 : Int32) * i)) &&& 31).toUInt32).toInt32) &&& (255 : Int32)).toUInt32.toUInt16.toUInt32.toInt32)
theorem own_fch (x i : Int32) : chr (fCh x i) := by unfold fCh; rw [own_nar (own_ch _)]; exact own_ch _
def fStr (x : Int32) : List Int32 := if (x &&& 3) = 0 then [] else if (x &&& 3) = 1 then [fCh x 0] else if (x &&& 3) = 2 then [fCh x 0, fCh x 1] else [fCh x 0, fCh x 1, fCh x 2]
theorem own_4 (x : Int32) : (x &&& 3) = 0 ∨ (x &&& 3) = 1 ∨ (x &&& 3) = 2 ∨ (x &&& 3) = 3 := by
  have e : (x &&& 3).toInt = x.toInt % 2 ^ 2 := Jvm.Kit.i32_mask x 3 (k := 2) (by decide) (by decide)
  simp only [own_eq, k0, k1, k2, k3]; omega
theorem own_len3 (x : Int32) : (fStr x).length ≤ 3 ∧ ∀ c ∈ fStr x, chr c := by
  rcases own_4 x with h | h | h | h <;> simp only [fStr, h] <;> refine ⟨by simp, fun c hc => ?_⟩ <;> simp at hc <;> (try rcases hc with rfl | rfl | rfl) <;> (try rcases hc with rfl | rfl) <;> (try subst hc) <;> exact own_fch _ _
theorem own_same (x y : Int32) : (fStr x = fStr y) ↔ ((x &&& 3) = (y &&& 3) ∧ ((x &&& 3) < 1 ∨ fCh x 0 = fCh y 0) ∧ ((x &&& 3) < 2 ∨ fCh x 1 = fCh y 1) ∧ ((x &&& 3) < 3 ∨ fCh x 2 = fCh y 2)) := by
  rcases own_4 x with h | h | h | h <;> rcases own_4 y with q | q | q | q <;> simp [fStr, h, q]
def fSame (x y : Int32) : Int32 := if fStr x = fStr y then 1 else 0
def fEq (a b c d : List Int32) : Int32 := if a = c then (if b = d then 1 else 0) else 0
def bb (c : Int32) : Int32 := c.toInt8.toInt32 &&& 255
def fHs : List Int32 → Int32
  | [a] => bb a
  | [a, b] => 31 * (0 + bb a) + bb b
  | [a, b, c] => 31 * (31 * (0 + bb a) + bb b) + bb c
  | _ => 0
theorem own_no {Z : State} {a0 : Array Value} (hw : ∀ d ∈ tables_1, d.before a0 Z = true) : ∃ c t, Z.vm.findClass "com/example/cascadex/cascadex/Letter$OfTag" = some c ∧ Z.vm.findClass "com/example/cascadex/cascadex/Letter$OfText" = some t ∧ Z.vm.assignable c t = false := by
  obtain ⟨t, kt, g0, g2, g5, g6⟩ : ∃ t kt, Z.vm.findClass "com/example/cascadex/cascadex/Letter$OfText" = some t ∧ Z.vm.classes[t]? = some kt ∧ kt.kind = .ordinary ∧ kt.isInterface = false := by
    have w : (Jvm.Cond.instantiable "com/example/cascadex/cascadex/Letter$OfText" 2).before a0 Z = true := (hw _ (List.mem_of_getElem? (i := 1) rfl))
    cases hc : Z.vm.findClass "com/example/cascadex/cascadex/Letter$OfText" with
    | none => simp [Cond.before, Cond.holds, Cond.value, hc] at w
    | some t =>
      cases hk : Z.vm.classes[t]? with
      | none => simp [Cond.before, Cond.holds, Cond.value, hc, hk] at w
      | some kt =>
        simp [Cond.before, Cond.holds, Cond.value, hc, hk] at w
        exact ⟨t, kt, rfl, hk, w.1.1.1, w.1.1.2.1⟩
  have n0 : NS Z "java/lang/Object" "com/example/cascadex/cascadex/Letter$OfText" := by
    obtain ⟨c, k, h1, h2, h3, -, -⟩ := Cond.noSuperclass_spec (hw _ (List.mem_of_getElem? (i := 90) rfl))
    have ne := ids_ne h1 g0 (by decide)
    refine ⟨c, t, h1, g0, fun fuel => ?_⟩
    cases fuel with
    | zero => rfl
    | succ f => simp [Vm.isSubclassAux, ne, h2, h3]
  have n1 : NS Z "java/lang/Record" "com/example/cascadex/cascadex/Letter$OfText" := NS.step (hw _ (List.mem_of_getElem? (i := 89) rfl)) n0 (by decide)
  have n2 : NS Z "com/example/cascadex/cascadex/Letter$OfTag" "com/example/cascadex/cascadex/Letter$OfText" := NS.step (hw _ (List.mem_of_getElem? (i := 88) rfl)) n1 (by decide)
  obtain ⟨c, t', h0, g0', n3⟩ := n2
  cases g0.symm.trans g0'
  obtain ⟨p, k, kp, h1, h2, h3, h4, h5, -, h7⟩ := Cond.superclass_spec h0 (hw _ (List.mem_of_getElem? (i := 88) rfl))
  have ne := ids_ne h0 g0 (by decide)
  refine ⟨c, t, h0, g0, ?_⟩
  show Z.vm.assignableAux (255 + 1) c t = false
  simp [Vm.assignableAux, ne, h2, g2, h5, g5, g6, Vm.isSubclass, n3]

theorem d2_0 : decode method_2_code 0 = .ok (.iload_n 0, 1) := by decide +kernel
theorem d2_1 : decode method_2_code 1 = .ok (.iconst 3, 1) := by decide +kernel
theorem d2_2 : decode method_2_code 2 = .ok (.iand, 1) := by decide +kernel
theorem d2_3 : decode method_2_code 3 = .ok (.ireturn, 1) := by decide +kernel
theorem own_pn1 : plainName "com/example/cascadex/cascadex/OfTextEqualsPinLaw" = true := by first | (simp [plainName, overriddenIn]; done) | decide +kernel
theorem own_ef_rm2 (m : MethodId) (x0 : Int32) : entryFrame m #[(.int x0)] 1 = mkF m 0 #[.val (.int x0)] [] := by first | (simp [entryFrame, mkF, argsToLocals, Value.category]; done) | rfl
def Q_rm2 (Z : State) (x0 : Int32) (h0 : Heap) (n0 : Nat) : Option Value → Heap → List Loc → Prop := fun v h L => v = some (.int (x0 &&& 3)) ∧ Fr n0 L ∧ h = h0
set_option maxRecDepth 65536 in
set_option maxHeartbeats 40000000 in
theorem rm2 (l : Launch) (Z : State) (a0 : Array Value) (hw : ∀ d ∈ tables_1, d.before a0 Z = true) (ws : List Jvm.Cond) (x0 : Int32) (h0 : Heap) (n0 : Nat) (Z0 : n0 ≤ h0.size)  :
    Ctr l Z (⟨"com/example/cascadex/cascadex/OfTextEqualsPinLaw", "len", "(I)I"⟩ : MethodName) method_2_code 1 (some .int) ws ({ frames := 0, cells := 0, slots := 0, locals := 0 } : Room) #[(.int x0)] h0 (Q_rm2 Z x0 h0 n0) := by
  refine Ctr.intro (plainFor_of_name own_pn1) ?_
  intro p e s m below meth c s₁ hx hby hml hown hnm hret hlk hZ X0 e0
  have hown : s.vm.findClass "com/example/cascadex/cascadex/OfTextEqualsPinLaw" = some m.cls := hown
  have hml : c.maxLocals = 1 := hml
  have N0 := Fr.nil n0
  refine Go.cast (own_ef_rm2 m x0) ?_
  show Go p e below s₁ (mkF m 0 #[.val (.int x0)] []) _
  refine Go.of (fun _ k => XS.iloadN X0.here hx rfl (hb hby d2_0) rfl  k) ?_
  show Go p e below s₁ (mkF m 1 #[.val (.int x0)] [(.int x0)]) _
  refine Go.of (fun _ k => XS.iconst X0.here hx rfl (hb hby d2_1) k) ?_
  show Go p e below s₁ (mkF m 2 #[.val (.int x0)] [(.int (3 : Int32)), (.int x0)]) _
  refine Go.of (fun _ k => XS.iand X0.here hx rfl (hb hby d2_2) rfl k) ?_
  show Go p e below s₁ (mkF m 3 #[.val (.int x0)] [(.int (x0 &&& (3 : Int32)))]) _
  refine Go.retI X0 hx hret hlk (hb hby d2_3) e0 (by decide) (by decide) ?_
  exact ⟨rfl, N0, rfl⟩
theorem d6_0 : decode method_3_code 0 = .ok (.iload_n 0, 1) := by decide +kernel
theorem d6_1 : decode method_3_code 1 = .ok (.iconst 2, 1) := by decide +kernel
theorem d6_2 : decode method_3_code 2 = .ok (.bipush 8, 2) := by decide +kernel
theorem d6_4 : decode method_3_code 4 = .ok (.iload_n 1, 1) := by decide +kernel
theorem d6_5 : decode method_3_code 5 = .ok (.imul, 1) := by decide +kernel
theorem d6_6 : decode method_3_code 6 = .ok (.iadd, 1) := by decide +kernel
theorem d6_7 : decode method_3_code 7 = .ok (.iushr, 1) := by decide +kernel
theorem d6_8 : decode method_3_code 8 = .ok (.sipush 255, 3) := by decide +kernel
theorem d6_11 : decode method_3_code 11 = .ok (.iand, 1) := by decide +kernel
theorem d6_12 : decode method_3_code 12 = .ok (.i2c, 1) := by decide +kernel
theorem d6_13 : decode method_3_code 13 = .ok (.ireturn, 1) := by decide +kernel
theorem own_ef_rm6 (m : MethodId) (x0 : Int32) (x1 : Int32) : entryFrame m #[(.int x0), (.int x1)] 2 = mkF m 0 #[.val (.int x0), .val (.int x1)] [] := by first | (simp [entryFrame, mkF, argsToLocals, Value.category]; done) | rfl
def Q_rm6 (Z : State) (x0 x1 : Int32) (h0 : Heap) (n0 : Nat) : Option Value → Heap → List Loc → Prop := fun v h L => v = some (.int (fCh x0 x1)) ∧ Fr n0 L ∧ h = h0
set_option maxRecDepth 65536 in
set_option maxHeartbeats 40000000 in
theorem rm6 (l : Launch) (Z : State) (a0 : Array Value) (hw : ∀ d ∈ tables_1, d.before a0 Z = true) (ws : List Jvm.Cond) (x0 x1 : Int32) (h0 : Heap) (n0 : Nat) (Z0 : n0 ≤ h0.size)  :
    Ctr l Z (⟨"com/example/cascadex/cascadex/OfTextEqualsPinLaw", "ch", "(II)C"⟩ : MethodName) method_3_code 2 (some .char) ws ({ frames := 0, cells := 0, slots := 0, locals := 0 } : Room) #[(.int x0), (.int x1)] h0 (Q_rm6 Z x0 x1 h0 n0) := by
  refine Ctr.intro (plainFor_of_name own_pn1) ?_
  intro p e s m below meth c s₁ hx hby hml hown hnm hret hlk hZ X0 e0
  have hown : s.vm.findClass "com/example/cascadex/cascadex/OfTextEqualsPinLaw" = some m.cls := hown
  have hml : c.maxLocals = 2 := hml
  have N0 := Fr.nil n0
  refine Go.cast (own_ef_rm6 m x0 x1) ?_
  show Go p e below s₁ (mkF m 0 #[.val (.int x0), .val (.int x1)] []) _
  refine Go.of (fun _ k => XS.iloadN X0.here hx rfl (hb hby d6_0) rfl  k) ?_
  show Go p e below s₁ (mkF m 1 #[.val (.int x0), .val (.int x1)] [(.int x0)]) _
  refine Go.of (fun _ k => XS.iconst X0.here hx rfl (hb hby d6_1) k) ?_
  show Go p e below s₁ (mkF m 2 #[.val (.int x0), .val (.int x1)] [(.int (2 : Int32)), (.int x0)]) _
  refine Go.of (fun _ k => XS.bipush X0.here hx rfl (hb hby d6_2) k) ?_
  show Go p e below s₁ (mkF m 4 #[.val (.int x0), .val (.int x1)] [(.int (8 : Int32)), (.int (2 : Int32)), (.int x0)]) _
  refine Go.of (fun _ k => XS.iloadN X0.here hx rfl (hb hby d6_4) rfl  k) ?_
  show Go p e below s₁ (mkF m 5 #[.val (.int x0), .val (.int x1)] [(.int x1), (.int (8 : Int32)), (.int (2 : Int32)), (.int x0)]) _
  refine Go.of (fun _ k => XS.imul X0.here hx rfl (hb hby d6_5) rfl k) ?_
  show Go p e below s₁ (mkF m 6 #[.val (.int x0), .val (.int x1)] [(.int ((8 : Int32) * x1)), (.int (2 : Int32)), (.int x0)]) _
  refine Go.of (fun _ k => XS.iadd X0.here hx rfl (hb hby d6_6) rfl k) ?_
  show Go p e below s₁ (mkF m 7 #[.val (.int x0), .val (.int x1)] [(.int ((2 : Int32) + ((8 : Int32) * x1))), (.int x0)]) _
  refine Go.of (fun _ k => XS.iushr X0.here hx rfl (hb hby d6_7) rfl k) ?_
  show Go p e below s₁ (mkF m 8 #[.val (.int x0), .val (.int x1)] [(.int ((x0.toUInt32 >>> (((2 : Int32) + ((8 : Int32) * x1)) &&& 31).toUInt32).toInt32))]) _
  refine Go.of (fun _ k => XS.sipush X0.here hx rfl (hb hby d6_8) k) ?_
  show Go p e below s₁ (mkF m 11 #[.val (.int x0), .val (.int x1)] [(.int (255 : Int32)), (.int ((x0.toUInt32 >>> (((2 : Int32) + ((8 : Int32) * x1)) &&& 31).toUInt32).toInt32))]) _
  refine Go.of (fun _ k => XS.iand X0.here hx rfl (hb hby d6_11) rfl k) ?_
  show Go p e below s₁ (mkF m 12 #[.val (.int x0), .val (.int x1)] [(.int (((x0.toUInt32 >>> (((2 : Int32) + ((8 : Int32) * x1)) &&& 31).toUInt32).toInt32) &&& (255 : Int32)))]) _
  refine Go.of (fun _ k => XS.i2c X0.here hx rfl (hb hby d6_12) rfl k) ?_
  show Go p e below s₁ (mkF m 13 #[.val (.int x0), .val (.int x1)] [(.int ((((x0.toUInt32 >>> (((2 : Int32) + ((8 : Int32) * x1)) &&& 31).toUInt32).toInt32) &&& (255 : Int32)).toUInt32.toUInt16.toUInt32.toInt32))]) _
  refine Go.retN X0 hx (t := .char) hret hlk (by simp) (hb hby d6_13) e0 (by decide) (by decide) ?_
  exact ⟨rfl, N0, rfl⟩
theorem d1_0 : decode method_4_code 0 = .ok (.iload_n 0, 1) := by decide +kernel
theorem d1_1 : decode method_4_code 1 = .ok (.invokestatic 7, 3) := by decide +kernel
theorem own_pd1 : parseMethodDescriptor "(I)I" = some ⟨[.int], some .int⟩ := by decide +kernel
theorem d1_4 : decode method_4_code 4 = .ok (.istore_n 1, 1) := by decide +kernel
theorem d1_5 : decode method_4_code 5 = .ok (.iload_n 1, 1) := by decide +kernel
theorem d1_6 : decode method_4_code 6 = .ok (.ifCond .ne 14, 3) := by decide +kernel
theorem d1_9 : decode method_4_code 9 = .ok (.new 13, 3) := by decide +kernel
theorem d1_12 : decode method_4_code 12 = .ok (.dup, 1) := by decide +kernel
theorem d1_13 : decode method_4_code 13 = .ok (.iconst 0, 1) := by decide +kernel
theorem d1_14 : decode method_4_code 14 = .ok (.newarray .char, 2) := by decide +kernel
theorem d1_16 : decode method_4_code 16 = .ok (.invokespecial 15, 3) := by decide +kernel
theorem own_pd2 : parseMethodDescriptor "([C)V" = some ⟨[(.array .char)], none⟩ := by decide +kernel
theorem d1_19 : decode method_4_code 19 = .ok (.areturn, 1) := by decide +kernel
theorem d1_20 : decode method_4_code 20 = .ok (.iload_n 1, 1) := by decide +kernel
theorem d1_21 : decode method_4_code 21 = .ok (.iconst 1, 1) := by decide +kernel
theorem d1_22 : decode method_4_code 22 = .ok (.if_icmp .ne 22, 3) := by decide +kernel
theorem d1_25 : decode method_4_code 25 = .ok (.new 13, 3) := by decide +kernel
theorem d1_28 : decode method_4_code 28 = .ok (.dup, 1) := by decide +kernel
theorem d1_29 : decode method_4_code 29 = .ok (.iconst 1, 1) := by decide +kernel
theorem d1_30 : decode method_4_code 30 = .ok (.newarray .char, 2) := by decide +kernel
theorem d1_32 : decode method_4_code 32 = .ok (.dup, 1) := by decide +kernel
theorem d1_33 : decode method_4_code 33 = .ok (.iconst 0, 1) := by decide +kernel
theorem d1_34 : decode method_4_code 34 = .ok (.iload_n 0, 1) := by decide +kernel
theorem d1_35 : decode method_4_code 35 = .ok (.iconst 0, 1) := by decide +kernel
theorem d1_36 : decode method_4_code 36 = .ok (.invokestatic 18, 3) := by decide +kernel
theorem own_pd3 : parseMethodDescriptor "(II)C" = some ⟨[.int, .int], some .char⟩ := by decide +kernel
theorem d1_39 : decode method_4_code 39 = .ok (.castore, 1) := by decide +kernel
theorem d1_40 : decode method_4_code 40 = .ok (.invokespecial 15, 3) := by decide +kernel
theorem d1_43 : decode method_4_code 43 = .ok (.areturn, 1) := by decide +kernel
theorem d1_44 : decode method_4_code 44 = .ok (.iload_n 1, 1) := by decide +kernel
theorem d1_45 : decode method_4_code 45 = .ok (.iconst 2, 1) := by decide +kernel
theorem d1_46 : decode method_4_code 46 = .ok (.if_icmp .ne 30, 3) := by decide +kernel
theorem d1_49 : decode method_4_code 49 = .ok (.new 13, 3) := by decide +kernel
theorem d1_52 : decode method_4_code 52 = .ok (.dup, 1) := by decide +kernel
theorem d1_53 : decode method_4_code 53 = .ok (.iconst 2, 1) := by decide +kernel
theorem d1_54 : decode method_4_code 54 = .ok (.newarray .char, 2) := by decide +kernel
theorem d1_56 : decode method_4_code 56 = .ok (.dup, 1) := by decide +kernel
theorem d1_57 : decode method_4_code 57 = .ok (.iconst 0, 1) := by decide +kernel
theorem d1_58 : decode method_4_code 58 = .ok (.iload_n 0, 1) := by decide +kernel
theorem d1_59 : decode method_4_code 59 = .ok (.iconst 0, 1) := by decide +kernel
theorem d1_60 : decode method_4_code 60 = .ok (.invokestatic 18, 3) := by decide +kernel
theorem d1_63 : decode method_4_code 63 = .ok (.castore, 1) := by decide +kernel
theorem d1_64 : decode method_4_code 64 = .ok (.dup, 1) := by decide +kernel
theorem d1_65 : decode method_4_code 65 = .ok (.iconst 1, 1) := by decide +kernel
theorem d1_66 : decode method_4_code 66 = .ok (.iload_n 0, 1) := by decide +kernel
theorem d1_67 : decode method_4_code 67 = .ok (.iconst 1, 1) := by decide +kernel
theorem d1_68 : decode method_4_code 68 = .ok (.invokestatic 18, 3) := by decide +kernel
theorem d1_71 : decode method_4_code 71 = .ok (.castore, 1) := by decide +kernel
theorem d1_72 : decode method_4_code 72 = .ok (.invokespecial 15, 3) := by decide +kernel
theorem d1_75 : decode method_4_code 75 = .ok (.areturn, 1) := by decide +kernel
theorem d1_76 : decode method_4_code 76 = .ok (.new 13, 3) := by decide +kernel
theorem d1_79 : decode method_4_code 79 = .ok (.dup, 1) := by decide +kernel
theorem d1_80 : decode method_4_code 80 = .ok (.iconst 3, 1) := by decide +kernel
theorem d1_81 : decode method_4_code 81 = .ok (.newarray .char, 2) := by decide +kernel
theorem d1_83 : decode method_4_code 83 = .ok (.dup, 1) := by decide +kernel
theorem d1_84 : decode method_4_code 84 = .ok (.iconst 0, 1) := by decide +kernel
theorem d1_85 : decode method_4_code 85 = .ok (.iload_n 0, 1) := by decide +kernel
theorem d1_86 : decode method_4_code 86 = .ok (.iconst 0, 1) := by decide +kernel
theorem d1_87 : decode method_4_code 87 = .ok (.invokestatic 18, 3) := by decide +kernel
theorem d1_90 : decode method_4_code 90 = .ok (.castore, 1) := by decide +kernel
theorem d1_91 : decode method_4_code 91 = .ok (.dup, 1) := by decide +kernel
theorem d1_92 : decode method_4_code 92 = .ok (.iconst 1, 1) := by decide +kernel
theorem d1_93 : decode method_4_code 93 = .ok (.iload_n 0, 1) := by decide +kernel
theorem d1_94 : decode method_4_code 94 = .ok (.iconst 1, 1) := by decide +kernel
theorem d1_95 : decode method_4_code 95 = .ok (.invokestatic 18, 3) := by decide +kernel
theorem d1_98 : decode method_4_code 98 = .ok (.castore, 1) := by decide +kernel
theorem d1_99 : decode method_4_code 99 = .ok (.dup, 1) := by decide +kernel
theorem d1_100 : decode method_4_code 100 = .ok (.iconst 2, 1) := by decide +kernel
theorem d1_101 : decode method_4_code 101 = .ok (.iload_n 0, 1) := by decide +kernel
theorem d1_102 : decode method_4_code 102 = .ok (.iconst 2, 1) := by decide +kernel
theorem d1_103 : decode method_4_code 103 = .ok (.invokestatic 18, 3) := by decide +kernel
theorem d1_106 : decode method_4_code 106 = .ok (.castore, 1) := by decide +kernel
theorem d1_107 : decode method_4_code 107 = .ok (.invokespecial 15, 3) := by decide +kernel
theorem d1_110 : decode method_4_code 110 = .ok (.areturn, 1) := by decide +kernel
theorem own_ef_rm1 (m : MethodId) (x0 : Int32) : entryFrame m #[(.int x0)] 2 = mkF m 0 #[.val (.int x0), .unset] [] := by first | (simp [entryFrame, mkF, argsToLocals, Value.category]; done) | rfl
def Q_rm1 (Z : State) (x0 zc : Int32) (h0 : Heap) (n0 : Nat) : Option Value → Heap → List Loc → Prop := fun v h L => ∃ (xs ts : Addr) (kb : ClassId), v = some (.ref xs) ∧ Fr n0 L ∧ Keep h0 h [] ∧ n0 ≤ xs ∧ h0.size ≤ xs ∧ Exa Z h xs "java/lang/String" ∧ Fld Z h xs "java/lang/String" "coder" "B" (.int 0) ∧ Fld Z h xs "java/lang/String" "hash" "I" (.int 0) ∧ Fld Z h xs "java/lang/String" "hashIsZero" "Z" (.int 0) ∧ Fld Z h xs "java/lang/String" "value" "[B" (.ref ts) ∧ Arv Z h ts kb .byte (Int32.ofNat (fStr x0).length) (byt (fStr x0)) (.int 0) ∧ (fStr x0 ≠ [] → Z.vm.findClass "[B" = some kb)
set_option maxRecDepth 65536 in
set_option maxHeartbeats 40000000 in
theorem rm1 (l : Launch) (Z : State) (a0 : Array Value) (hw : ∀ d ∈ tables_1, d.before a0 Z = true) (ws : List Jvm.Cond) (x0 zc : Int32) (h0 : Heap) (n0 : Nat) (Z0 : n0 ≤ h0.size) (OL : Old Z n0 h0) (O2 : Sta Z Z.heap "java/lang/String" "COMPACT_STRINGS" "Z" (.int zc)) (hzc : ¬ zc = 0) :
    CtrH l Z EL (⟨"com/example/cascadex/cascadex/OfTextEqualsPinLaw", "str", "(I)Ljava/lang/String;"⟩ : MethodName) method_4_code 2 (some (.object "java/lang/String")) ws ({ frames := 4, cells := 6, slots := 19, locals := 66 } : Room) #[(.int x0)] h0 (Q_rm1 Z x0 zc h0 n0) := by
  refine CtrH.intro (plainFor_of_name own_pn1) ?_
  intro p e s m below meth c s₁ hx hby hml hown hnm hret hlk hZ X0 e0 hs0 hC0
  have hown : (s.setVm s.vm).vm.findClass "com/example/cascadex/cascadex/OfTextEqualsPinLaw" = some m.cls := hown
  have hml : c.maxLocals = 2 := hml
  have N0 := Fr.nil n0
  refine Go.cast (own_ef_rm1 m x0) ?_
  have hS : s.Since s.vm 0 := own_since s
  have hk : 0 ≤ h0.size := Nat.zero_le _
  have HR := CHr.refl hC0
  have KK := Keep.refl h0 []
  have hEL := own_EL hw
  have wS := own_wS hw
  show Go p e below s₁ (mkF m 0 #[.val (.int x0), .unset] []) _
  refine Go.of (fun _ k => XS.iloadN X0.here hx rfl (hb hby d1_0) rfl  k) ?_
  show Go p e below s₁ (mkF m 1 #[.val (.int x0), .unset] [(.int x0)]) _
  obtain ⟨_, _, ⟨T1, L1, kq1, nq1⟩, -, X1, ⟨Lc1, hQ1, l1, y1, z1⟩, st1⟩ := Jvm.LawKit.callS X0 hx (y := (⟨"com/example/cascadex/cascadex/OfTextEqualsPinLaw", "len", "(I)I"⟩ : MethodName)) hown (mvT hZ (hw _ (List.mem_of_getElem? (i := 7) rfl))) (mvT hZ (hw _ (List.mem_of_getElem? (i := 8) rfl))) (mvT hZ (hw _ (List.mem_of_getElem? (i := 5) rfl))) (mvT hZ (hw _ (List.mem_of_getElem? (i := 9) rfl))) (by decide) (backOf (W := 0) (rm2 l Z a0 hw [] x0 h0 n0 Z0 ) hZ (hw _ (List.mem_of_getElem? (i := 9) rfl)) (hw _ (List.mem_of_getElem? (i := 5) rfl)) (by decide) (by decide)) (g := (mkF m 1 #[.val (.int x0), .unset] [(.int x0)])) rfl (by rw [hml]; rfl) (argsL := [(.int x0)]) (rest := []) (lenOf own_pd1 rfl) rfl (by show 2 * 0 + _ ≤ _; exact Nat.le_of_eq rfl) (hb hby d1_1) (fun _ _ => ⟨rfl, e0, (by decide : 0 + 0 ≤ _), (by decide : 0 + 0 ≤ _)⟩)
  dsimp only [Pt.U, Pt.locs, Pt.cells, Pt.slots] at X1 l1 y1 z1 st1 hQ1
  subst l1 y1 z1
  obtain ⟨rfl, Nq1, e1⟩ := hQ1
  have e1 := e1.trans rfl
  have N1 := Fr.app N0 Nq1
  refine Go.of (fun _ k => st1 _ k) ?_
  show Go p e below T1 (mkF m 4 #[.val (.int x0), .unset] [(.int (x0 &&& (3 : Int32)))]) _
  refine Go.of (fun _ k => XS.istoreN X1.here hx rfl (hb hby d1_4) rfl (l' := #[.val (.int x0), .val (.int (x0 &&& (3 : Int32)))]) rfl k) ?_
  show Go p e below T1 (mkF m 5 #[.val (.int x0), .val (.int (x0 &&& (3 : Int32)))] []) _
  refine Go.of (fun _ k => XS.iloadN X1.here hx rfl (hb hby d1_5) rfl  k) ?_
  show Go p e below T1 (mkF m 6 #[.val (.int x0), .val (.int (x0 &&& (3 : Int32)))] [(.int (x0 &&& (3 : Int32)))]) _
  by_cases hc6_0 : (x0 &&& (3 : Int32)) = (0 : Int32)
  · refine Go.of (fun _ k => XS.ifNo X1.here hx rfl (hb hby d1_6) rfl ((if0 _ _).trans (teq hc6_0).2) k) ?_
    show Go p e below T1 (mkF m 9 #[.val (.int x0), .val (.int (x0 &&& (3 : Int32)))] []) _
    obtain ⟨T2, h2, X2, e2, E2, A2, D2, -, st2⟩ := newO X1 hx hZ hown (hw _ (List.mem_of_getElem? (i := 10) rfl)) (hw _ (List.mem_of_getElem? (i := 11) rfl)) (hw _ (List.mem_of_getElem? (i := 12) rfl)) e1 (g := (mkF m 9 #[.val (.int x0), .val (.int (x0 &&& (3 : Int32)))] [])) rfl (hb hby d1_9) (by decide) (by decide)
    obtain ⟨ad2, g2⟩ : ∃ z, z = h0.size := ⟨_, rfl⟩
    rw [← g2] at A2 D2 st2
    have ge_ad2 : n0 ≤ ad2 := Nat.le_trans Z0 (Nat.le_of_eq g2.symm)
    have sz_ad2 : h0.size ≤ ad2 := Nat.le_trans KK.1 (Nat.le_of_eq g2.symm)
    have HR := HR.trans (CHr.ext E2 HR.1)
    have hk := Nat.le_trans hk E2.1
    have Z0 := Nat.le_trans Z0 E2.1
    have OL := OL.ext E2
    have KK := KK.ext E2
    have E_ad2 := A2
    have F_value_ad2 : Fld Z h2 ad2 "java/lang/String" "value" "[B" .null := D2 (Or.inr (hw _ (List.mem_of_getElem? (i := 26) rfl))) (ty := (.array .byte)) (by decide)
    have F_coder_ad2 : Fld Z h2 ad2 "java/lang/String" "coder" "B" (.int (0 : Int32)) := D2 (Or.inr (hw _ (List.mem_of_getElem? (i := 27) rfl))) (ty := .byte) (by decide)
    have F_hash_ad2 : Fld Z h2 ad2 "java/lang/String" "hash" "I" (.int (0 : Int32)) := D2 (Or.inl (hw _ (List.mem_of_getElem? (i := 102) rfl))) (ty := .int) (by decide)
    have F_hashIsZero_ad2 : Fld Z h2 ad2 "java/lang/String" "hashIsZero" "Z" (.int (0 : Int32)) := D2 (Or.inl (hw _ (List.mem_of_getElem? (i := 104) rfl))) (ty := .boolean) (by decide)
    refine Go.of (fun _ k => st2 _ k) ?_
    show Go p e below T2 (mkF m 12 #[.val (.int x0), .val (.int (x0 &&& (3 : Int32)))] [(.ref ad2)]) _
    refine Go.of (fun _ k => XS.dup X2.here hx rfl (hb hby d1_12) rfl rfl k) ?_
    show Go p e below T2 (mkF m 13 #[.val (.int x0), .val (.int (x0 &&& (3 : Int32)))] [(.ref ad2), (.ref ad2)]) _
    refine Go.of (fun _ k => XS.iconst X2.here hx rfl (hb hby d1_13) k) ?_
    show Go p e below T2 (mkF m 14 #[.val (.int x0), .val (.int (x0 &&& (3 : Int32)))] [(.int (0 : Int32)), (.ref ad2), (.ref ad2)]) _
    obtain ⟨T3, h3, kc3, X3, e3, E3, A3, st3⟩ := newP X2 hx hZ (hw _ (List.mem_of_getElem? (i := 13) rfl)) e2 (g := (mkF m 14 #[.val (.int x0), .val (.int (x0 &&& (3 : Int32)))] [(.int (0 : Int32)), (.ref ad2), (.ref ad2)])) rfl (hb hby d1_14) rfl (by decide) (cap := 0) (by decide) (by decide) (by decide) (by decide)
    obtain ⟨ad3, g3⟩ : ∃ z, z = h2.size := ⟨_, rfl⟩
    rw [← g3] at A3 st3
    have ne_ad2_ad3 : ad2 ≠ ad3 := Nat.ne_of_lt (Nat.lt_of_lt_of_le E_ad2.lt (Nat.le_of_eq g3.symm))
    have ge_ad3 : n0 ≤ ad3 := Nat.le_trans Z0 (Nat.le_of_eq g3.symm)
    have sz_ad3 : h0.size ≤ ad3 := Nat.le_trans KK.1 (Nat.le_of_eq g3.symm)
    have HR := HR.trans (CHr.ext E3 HR.1)
    have hk := Nat.le_trans hk E3.1
    have Z0 := Nat.le_trans Z0 E3.1
    have OL := OL.ext E3
    have KK := KK.ext E3
    have E_ad2 := E_ad2.ext E3
    have F_value_ad2 := F_value_ad2.ext E3
    have F_coder_ad2 := F_coder_ad2.ext E3
    have F_hash_ad2 := F_hash_ad2.ext E3
    have F_hashIsZero_ad2 := F_hashIsZero_ad2.ext E3
    have V_ad3 : Arv Z h3 ad3 kc3 .char (0 : Int32) [] (.int (0 : Int32)) := (Arv.new A3 (by decide)).pad (pad_rep [] (.int (0 : Int32)) 0)
    refine Go.of (fun _ k => st3 _ k) ?_
    show Go p e below T3 (mkF m 16 #[.val (.int x0), .val (.int (x0 &&& (3 : Int32)))] [(.ref ad3), (.ref ad2), (.ref ad2)]) _
    have hcs : fStr x0 = [] := by simp [fStr, hc6_0]
    have l3 := own_len3 x0
    rw [hcs] at l3
    obtain ⟨_, _, ⟨T4, L4, kq4, nq4⟩, -, X4, hS4, hg4, ⟨Lc4, hQ4, l4, y4, z4, hC4⟩, st4⟩ := X3.specialBackS hx (y := (⟨"java/lang/String", "<init>", "([C)V"⟩ : MethodName)) rfl hown (mvT hZ (hw _ (List.mem_of_getElem? (i := 14) rfl))) (mvT hZ (hw _ (List.mem_of_getElem? (i := 15) rfl))) (mvT hZ (hw _ (List.mem_of_getElem? (i := 16) rfl))) (by decide) (own_newS (W := 1) (cs := ([] : List Int32)) hw hZ HR.1 ge_ad2 Z0 E_ad2 F_value_ad2 F_coder_ad2 F_hash_ad2 F_hashIsZero_ad2 V_ad3 (O2.ext OL.2) hzc rfl l3.1 l3.2 (by decide) (by decide)) (g := (mkF m 16 #[.val (.int x0), .val (.int (x0 &&& (3 : Int32)))] [(.ref ad3), (.ref ad2), (.ref ad2)])) rfl (by rw [hml]; rfl) (Steps.refl _) (a := ad2) (argsL := [(.ref ad3)]) (rest := [(.ref ad2)]) (lenOf own_pd2 rfl) rfl (by show 2 * 0 + _ ≤ _; exact Nat.le_of_eq rfl) (hb hby d1_16) (fun _ _ => ⟨rfl, e3, (by decide : 2 + 4 ≤ _), (by decide : 4 + 12 ≤ _)⟩)
    dsimp only [Pt.U, Pt.locs, Pt.cells, Pt.slots] at X4 l4 y4 z4 st4 hQ4 hS4 hg4 hC4
    subst l4 y4 z4
    obtain ⟨X4, hS, hZ, hown⟩ := rebS hS (by rw [e3]; exact hk) X4 hS4 hg4 hZ hown
    have HR := HR.trans hC4
    have hk : T4.heap.size ≤ T4.heap.size := Nat.le_refl _
    obtain ⟨rfl, Nq4, Kq4, Eq4, Fc4, Fh4, Fz4, ts4, ks4, Fv4, Vs4, fk4⟩ := hQ4
    have N4 := Fr.app N1 Nq4
    have Z0 := Nat.le_trans Z0 Kq4.1
    have OL := OL.keep Kq4 (allS ge_ad2 all0)
    have KK := KK.trans Kq4 (allS (Or.inr sz_ad2) all0)
    have E_ad2 := E_ad2.keep Kq4
    have V_ad3 := V_ad3.keep Kq4 (ninS (Ne.symm ne_ad2_ad3) nin0)
    refine Go.of (fun _ k => st4.trans k) ?_
    show Go p e below T4 (mkF m 19 #[.val (.int x0), .val (.int (x0 &&& (3 : Int32)))] [(.ref ad2)]) _
    refine Go.retAH X4 hx hret hlk rfl rfl (hb hby d1_19) rfl hS hk hZ hEL hs0 HR (by decide) (by decide) ?_
    rw [← hcs] at Vs4
    have fk4 : fStr x0 ≠ [] → Z.vm.findClass "[B" = some ks4 := fun q => fk4 (fun z => q (hcs.trans z))
    exact ⟨_, _, _, rfl, N4, KK, ge_ad2, sz_ad2, E_ad2, Fc4, Fh4, Fz4, Fv4, Vs4, fk4⟩
  · refine Go.of (fun _ k => XS.ifYes X1.here hx rfl (pc0 := 6) (pc' := 20) rfl (hb hby d1_6) rfl ((if0 _ _).trans (feq hc6_0).2) (by decide) (by decide) k) ?_
    show Go p e below T1 (mkF m 20 #[.val (.int x0), .val (.int (x0 &&& (3 : Int32)))] []) _
    refine Go.of (fun _ k => XS.iloadN X1.here hx rfl (hb hby d1_20) rfl  k) ?_
    show Go p e below T1 (mkF m 21 #[.val (.int x0), .val (.int (x0 &&& (3 : Int32)))] [(.int (x0 &&& (3 : Int32)))]) _
    refine Go.of (fun _ k => XS.iconst X1.here hx rfl (hb hby d1_21) k) ?_
    show Go p e below T1 (mkF m 22 #[.val (.int x0), .val (.int (x0 &&& (3 : Int32)))] [(.int (1 : Int32)), (.int (x0 &&& (3 : Int32)))]) _
    by_cases hc22_1 : (x0 &&& (3 : Int32)) = (1 : Int32)
    · refine Go.of (fun _ k => XS.icmpNo X1.here hx rfl (hb hby d1_22) rfl (teq hc22_1).2 k) ?_
      show Go p e below T1 (mkF m 25 #[.val (.int x0), .val (.int (x0 &&& (3 : Int32)))] []) _
      obtain ⟨T5, h5, X5, e5, E5, A5, D5, -, st5⟩ := newO X1 hx hZ hown (hw _ (List.mem_of_getElem? (i := 10) rfl)) (hw _ (List.mem_of_getElem? (i := 11) rfl)) (hw _ (List.mem_of_getElem? (i := 12) rfl)) e1 (g := (mkF m 25 #[.val (.int x0), .val (.int (x0 &&& (3 : Int32)))] [])) rfl (hb hby d1_25) (by decide) (by decide)
      obtain ⟨ad5, g5⟩ : ∃ z, z = h0.size := ⟨_, rfl⟩
      rw [← g5] at A5 D5 st5
      have ge_ad5 : n0 ≤ ad5 := Nat.le_trans Z0 (Nat.le_of_eq g5.symm)
      have sz_ad5 : h0.size ≤ ad5 := Nat.le_trans KK.1 (Nat.le_of_eq g5.symm)
      have HR := HR.trans (CHr.ext E5 HR.1)
      have hk := Nat.le_trans hk E5.1
      have Z0 := Nat.le_trans Z0 E5.1
      have OL := OL.ext E5
      have KK := KK.ext E5
      have E_ad5 := A5
      have F_value_ad5 : Fld Z h5 ad5 "java/lang/String" "value" "[B" .null := D5 (Or.inr (hw _ (List.mem_of_getElem? (i := 26) rfl))) (ty := (.array .byte)) (by decide)
      have F_coder_ad5 : Fld Z h5 ad5 "java/lang/String" "coder" "B" (.int (0 : Int32)) := D5 (Or.inr (hw _ (List.mem_of_getElem? (i := 27) rfl))) (ty := .byte) (by decide)
      have F_hash_ad5 : Fld Z h5 ad5 "java/lang/String" "hash" "I" (.int (0 : Int32)) := D5 (Or.inl (hw _ (List.mem_of_getElem? (i := 102) rfl))) (ty := .int) (by decide)
      have F_hashIsZero_ad5 : Fld Z h5 ad5 "java/lang/String" "hashIsZero" "Z" (.int (0 : Int32)) := D5 (Or.inl (hw _ (List.mem_of_getElem? (i := 104) rfl))) (ty := .boolean) (by decide)
      refine Go.of (fun _ k => st5 _ k) ?_
      show Go p e below T5 (mkF m 28 #[.val (.int x0), .val (.int (x0 &&& (3 : Int32)))] [(.ref ad5)]) _
      refine Go.of (fun _ k => XS.dup X5.here hx rfl (hb hby d1_28) rfl rfl k) ?_
      show Go p e below T5 (mkF m 29 #[.val (.int x0), .val (.int (x0 &&& (3 : Int32)))] [(.ref ad5), (.ref ad5)]) _
      refine Go.of (fun _ k => XS.iconst X5.here hx rfl (hb hby d1_29) k) ?_
      show Go p e below T5 (mkF m 30 #[.val (.int x0), .val (.int (x0 &&& (3 : Int32)))] [(.int (1 : Int32)), (.ref ad5), (.ref ad5)]) _
      obtain ⟨T6, h6, kc6, X6, e6, E6, A6, st6⟩ := newP X5 hx hZ (hw _ (List.mem_of_getElem? (i := 13) rfl)) e5 (g := (mkF m 30 #[.val (.int x0), .val (.int (x0 &&& (3 : Int32)))] [(.int (1 : Int32)), (.ref ad5), (.ref ad5)])) rfl (hb hby d1_30) rfl (by decide) (cap := 1) (by decide) (by decide) (by decide) (by decide)
      obtain ⟨ad6, g6⟩ : ∃ z, z = h5.size := ⟨_, rfl⟩
      rw [← g6] at A6 st6
      have ne_ad5_ad6 : ad5 ≠ ad6 := Nat.ne_of_lt (Nat.lt_of_lt_of_le E_ad5.lt (Nat.le_of_eq g6.symm))
      have ge_ad6 : n0 ≤ ad6 := Nat.le_trans Z0 (Nat.le_of_eq g6.symm)
      have sz_ad6 : h0.size ≤ ad6 := Nat.le_trans KK.1 (Nat.le_of_eq g6.symm)
      have HR := HR.trans (CHr.ext E6 HR.1)
      have hk := Nat.le_trans hk E6.1
      have Z0 := Nat.le_trans Z0 E6.1
      have OL := OL.ext E6
      have KK := KK.ext E6
      have E_ad5 := E_ad5.ext E6
      have F_value_ad5 := F_value_ad5.ext E6
      have F_coder_ad5 := F_coder_ad5.ext E6
      have F_hash_ad5 := F_hash_ad5.ext E6
      have F_hashIsZero_ad5 := F_hashIsZero_ad5.ext E6
      have V_ad6 : Arv Z h6 ad6 kc6 .char (1 : Int32) [(.int (0 : Int32))] (.int (0 : Int32)) := (Arv.new A6 (by decide)).pad (pad_rep [] (.int (0 : Int32)) 1)
      refine Go.of (fun _ k => st6 _ k) ?_
      show Go p e below T6 (mkF m 32 #[.val (.int x0), .val (.int (x0 &&& (3 : Int32)))] [(.ref ad6), (.ref ad5), (.ref ad5)]) _
      refine Go.of (fun _ k => XS.dup X6.here hx rfl (hb hby d1_32) rfl rfl k) ?_
      show Go p e below T6 (mkF m 33 #[.val (.int x0), .val (.int (x0 &&& (3 : Int32)))] [(.ref ad6), (.ref ad6), (.ref ad5), (.ref ad5)]) _
      refine Go.of (fun _ k => XS.iconst X6.here hx rfl (hb hby d1_33) k) ?_
      show Go p e below T6 (mkF m 34 #[.val (.int x0), .val (.int (x0 &&& (3 : Int32)))] [(.int (0 : Int32)), (.ref ad6), (.ref ad6), (.ref ad5), (.ref ad5)]) _
      refine Go.of (fun _ k => XS.iloadN X6.here hx rfl (hb hby d1_34) rfl  k) ?_
      show Go p e below T6 (mkF m 35 #[.val (.int x0), .val (.int (x0 &&& (3 : Int32)))] [(.int x0), (.int (0 : Int32)), (.ref ad6), (.ref ad6), (.ref ad5), (.ref ad5)]) _
      refine Go.of (fun _ k => XS.iconst X6.here hx rfl (hb hby d1_35) k) ?_
      show Go p e below T6 (mkF m 36 #[.val (.int x0), .val (.int (x0 &&& (3 : Int32)))] [(.int (0 : Int32)), (.int x0), (.int (0 : Int32)), (.ref ad6), (.ref ad6), (.ref ad5), (.ref ad5)]) _
      obtain ⟨_, _, ⟨T7, L7, kq7, nq7⟩, -, X7, ⟨Lc7, hQ7, l7, y7, z7⟩, st7⟩ := Jvm.LawKit.callS X6 hx (y := (⟨"com/example/cascadex/cascadex/OfTextEqualsPinLaw", "ch", "(II)C"⟩ : MethodName)) hown (mvT hZ (hw _ (List.mem_of_getElem? (i := 32) rfl))) (mvT hZ (hw _ (List.mem_of_getElem? (i := 33) rfl))) (mvT hZ (hw _ (List.mem_of_getElem? (i := 5) rfl))) (mvT hZ (hw _ (List.mem_of_getElem? (i := 34) rfl))) (by decide) (backOf (W := 5) (rm6 l Z a0 hw [] x0 (0 : Int32) h6 n0 Z0 ) hZ (hw _ (List.mem_of_getElem? (i := 34) rfl)) (hw _ (List.mem_of_getElem? (i := 5) rfl)) (by decide) (by decide)) (g := (mkF m 36 #[.val (.int x0), .val (.int (x0 &&& (3 : Int32)))] [(.int (0 : Int32)), (.int x0), (.int (0 : Int32)), (.ref ad6), (.ref ad6), (.ref ad5), (.ref ad5)])) rfl (by rw [hml]; rfl) (argsL := [(.int x0), (.int (0 : Int32))]) (rest := [(.int (0 : Int32)), (.ref ad6), (.ref ad6), (.ref ad5), (.ref ad5)]) (lenOf own_pd3 rfl) rfl (by show 2 * 0 + _ ≤ _; exact Nat.le_of_eq rfl) (hb hby d1_36) (fun _ _ => ⟨rfl, e6, (by decide : 2 + 0 ≤ _), (by decide : 5 + 0 ≤ _)⟩)
      dsimp only [Pt.U, Pt.locs, Pt.cells, Pt.slots] at X7 l7 y7 z7 st7 hQ7
      subst l7 y7 z7
      obtain ⟨rfl, Nq7, e7⟩ := hQ7
      have e7 := e7.trans rfl
      have N7 := Fr.app N1 Nq7
      refine Go.of (fun _ k => st7 _ k) ?_
      show Go p e below T7 (mkF m 39 #[.val (.int x0), .val (.int (x0 &&& (3 : Int32)))] [(.int (fCh x0 (0 : Int32))), (.int (0 : Int32)), (.ref ad6), (.ref ad6), (.ref ad5), (.ref ad5)]) _
      have sf8 := Safe.arv (EL := EL) hZ.alike V_ad6 (by decide)
      obtain ⟨clq8, Arq8, qq8, Sq8, Nnq8, Hq8, Gq8⟩ := V_ad6
      have hin8 : ¬ ((0 : Int32) < 0 ∨ clq8.slots.size ≤ ((0 : Int32)).toNatClampNeg) := inb_of Sq8 ⟨by decide, by decide⟩
      obtain ⟨T8, h8, X8, e8, W8, st8⟩ := stC X7 hx hZ e7 Arq8 (j := (0 : Int32)) hin8 (g := (mkF m 39 #[.val (.int x0), .val (.int (x0 &&& (3 : Int32)))] [(.int (fCh x0 (0 : Int32))), (.int (0 : Int32)), (.ref ad6), (.ref ad6), (.ref ad5), (.ref ad5)])) rfl rfl (hb hby d1_39)
      have V_ad6 : Arv Z h8 ad6 kc6 .char (1 : Int32) [(.int (nar .char (fCh x0 (0 : Int32))))] (.int (0 : Int32)) := Arv.set Arq8 qq8 Sq8 Nnq8 Hq8 Gq8 (fits_nar_char _) W8 0 rfl (Nat.le_of_ble_eq_true rfl)
      have N8 := Fr.snoc X8 N7 ge_ad6
      have HR := HR.trans (CHr.wr W8 sf8 HR.1)
      have hk := Nat.le_trans hk (Keep.of_wr W8).1
      have Z0 := Nat.le_trans Z0 (Keep.of_wr W8).1
      have OL := OL.wr W8 ge_ad6
      have KK := KK.wr W8 (Or.inr sz_ad6)
      have E_ad5 := E_ad5.wr W8
      have F_value_ad5 := F_value_ad5.other W8 (Or.inl ne_ad5_ad6)
      have F_coder_ad5 := F_coder_ad5.other W8 (Or.inl ne_ad5_ad6)
      have F_hash_ad5 := F_hash_ad5.other W8 (Or.inl ne_ad5_ad6)
      have F_hashIsZero_ad5 := F_hashIsZero_ad5.other W8 (Or.inl ne_ad5_ad6)
      refine Go.of (fun _ k => st8 _ k) ?_
      show Go p e below T8 (mkF m 40 #[.val (.int x0), .val (.int (x0 &&& (3 : Int32)))] [(.ref ad6), (.ref ad5), (.ref ad5)]) _
      rw [own_nar (c := (fCh x0 (0 : Int32))) (own_fch _ _)] at V_ad6
      have hcs : fStr x0 = [(fCh x0 (0 : Int32))] := by simp [fStr, hc6_0, hc22_1]
      have l3 := own_len3 x0
      rw [hcs] at l3
      obtain ⟨_, _, ⟨T9, L9, kq9, nq9⟩, -, X9, hS9, hg9, ⟨Lc9, hQ9, l9, y9, z9, hC9⟩, st9⟩ := X8.specialBackS hx (y := (⟨"java/lang/String", "<init>", "([C)V"⟩ : MethodName)) rfl hown (mvT hZ (hw _ (List.mem_of_getElem? (i := 14) rfl))) (mvT hZ (hw _ (List.mem_of_getElem? (i := 15) rfl))) (mvT hZ (hw _ (List.mem_of_getElem? (i := 16) rfl))) (by decide) (own_newS (W := 1) (cs := ([(fCh x0 (0 : Int32))] : List Int32)) hw hZ HR.1 ge_ad5 Z0 E_ad5 F_value_ad5 F_coder_ad5 F_hash_ad5 F_hashIsZero_ad5 V_ad6 (O2.ext OL.2) hzc rfl l3.1 l3.2 (by decide) (by decide)) (g := (mkF m 40 #[.val (.int x0), .val (.int (x0 &&& (3 : Int32)))] [(.ref ad6), (.ref ad5), (.ref ad5)])) rfl (by rw [hml]; rfl) (Steps.refl _) (a := ad5) (argsL := [(.ref ad6)]) (rest := [(.ref ad5)]) (lenOf own_pd2 rfl) rfl (by show 2 * 0 + _ ≤ _; exact Nat.le_of_eq rfl) (hb hby d1_40) (fun _ _ => ⟨rfl, e8, (by decide : 2 + 4 ≤ _), (by decide : 5 + 12 ≤ _)⟩)
      dsimp only [Pt.U, Pt.locs, Pt.cells, Pt.slots] at X9 l9 y9 z9 st9 hQ9 hS9 hg9 hC9
      subst l9 y9 z9
      obtain ⟨X9, hS, hZ, hown⟩ := rebS hS (by rw [e8]; exact hk) X9 hS9 hg9 hZ hown
      have HR := HR.trans hC9
      have hk : T9.heap.size ≤ T9.heap.size := Nat.le_refl _
      obtain ⟨rfl, Nq9, Kq9, Eq9, Fc9, Fh9, Fz9, ts9, ks9, Fv9, Vs9, fk9⟩ := hQ9
      have N9 := Fr.app N8 Nq9
      have Z0 := Nat.le_trans Z0 Kq9.1
      have OL := OL.keep Kq9 (allS ge_ad5 all0)
      have KK := KK.trans Kq9 (allS (Or.inr sz_ad5) all0)
      have E_ad5 := E_ad5.keep Kq9
      have V_ad6 := V_ad6.keep Kq9 (ninS (Ne.symm ne_ad5_ad6) nin0)
      refine Go.of (fun _ k => st9.trans k) ?_
      show Go p e below T9 (mkF m 43 #[.val (.int x0), .val (.int (x0 &&& (3 : Int32)))] [(.ref ad5)]) _
      refine Go.retAH X9 hx hret hlk rfl rfl (hb hby d1_43) rfl hS hk hZ hEL hs0 HR (by decide) (by decide) ?_
      rw [← hcs] at Vs9
      have fk9 : fStr x0 ≠ [] → Z.vm.findClass "[B" = some ks9 := fun q => fk9 (fun z => q (hcs.trans z))
      exact ⟨_, _, _, rfl, N9, KK, ge_ad5, sz_ad5, E_ad5, Fc9, Fh9, Fz9, Fv9, Vs9, fk9⟩
    · refine Go.of (fun _ k => XS.icmpYes X1.here hx rfl (pc0 := 22) (pc' := 44) rfl (hb hby d1_22) rfl (feq hc22_1).2 (by decide) (by decide) k) ?_
      show Go p e below T1 (mkF m 44 #[.val (.int x0), .val (.int (x0 &&& (3 : Int32)))] []) _
      refine Go.of (fun _ k => XS.iloadN X1.here hx rfl (hb hby d1_44) rfl  k) ?_
      show Go p e below T1 (mkF m 45 #[.val (.int x0), .val (.int (x0 &&& (3 : Int32)))] [(.int (x0 &&& (3 : Int32)))]) _
      refine Go.of (fun _ k => XS.iconst X1.here hx rfl (hb hby d1_45) k) ?_
      show Go p e below T1 (mkF m 46 #[.val (.int x0), .val (.int (x0 &&& (3 : Int32)))] [(.int (2 : Int32)), (.int (x0 &&& (3 : Int32)))]) _
      by_cases hc46_2 : (x0 &&& (3 : Int32)) = (2 : Int32)
      · refine Go.of (fun _ k => XS.icmpNo X1.here hx rfl (hb hby d1_46) rfl (teq hc46_2).2 k) ?_
        show Go p e below T1 (mkF m 49 #[.val (.int x0), .val (.int (x0 &&& (3 : Int32)))] []) _
        obtain ⟨T10, h10, X10, e10, E10, A10, D10, -, st10⟩ := newO X1 hx hZ hown (hw _ (List.mem_of_getElem? (i := 10) rfl)) (hw _ (List.mem_of_getElem? (i := 11) rfl)) (hw _ (List.mem_of_getElem? (i := 12) rfl)) e1 (g := (mkF m 49 #[.val (.int x0), .val (.int (x0 &&& (3 : Int32)))] [])) rfl (hb hby d1_49) (by decide) (by decide)
        obtain ⟨ad10, g10⟩ : ∃ z, z = h0.size := ⟨_, rfl⟩
        rw [← g10] at A10 D10 st10
        have ge_ad10 : n0 ≤ ad10 := Nat.le_trans Z0 (Nat.le_of_eq g10.symm)
        have sz_ad10 : h0.size ≤ ad10 := Nat.le_trans KK.1 (Nat.le_of_eq g10.symm)
        have HR := HR.trans (CHr.ext E10 HR.1)
        have hk := Nat.le_trans hk E10.1
        have Z0 := Nat.le_trans Z0 E10.1
        have OL := OL.ext E10
        have KK := KK.ext E10
        have E_ad10 := A10
        have F_value_ad10 : Fld Z h10 ad10 "java/lang/String" "value" "[B" .null := D10 (Or.inr (hw _ (List.mem_of_getElem? (i := 26) rfl))) (ty := (.array .byte)) (by decide)
        have F_coder_ad10 : Fld Z h10 ad10 "java/lang/String" "coder" "B" (.int (0 : Int32)) := D10 (Or.inr (hw _ (List.mem_of_getElem? (i := 27) rfl))) (ty := .byte) (by decide)
        have F_hash_ad10 : Fld Z h10 ad10 "java/lang/String" "hash" "I" (.int (0 : Int32)) := D10 (Or.inl (hw _ (List.mem_of_getElem? (i := 102) rfl))) (ty := .int) (by decide)
        have F_hashIsZero_ad10 : Fld Z h10 ad10 "java/lang/String" "hashIsZero" "Z" (.int (0 : Int32)) := D10 (Or.inl (hw _ (List.mem_of_getElem? (i := 104) rfl))) (ty := .boolean) (by decide)
        refine Go.of (fun _ k => st10 _ k) ?_
        show Go p e below T10 (mkF m 52 #[.val (.int x0), .val (.int (x0 &&& (3 : Int32)))] [(.ref ad10)]) _
        refine Go.of (fun _ k => XS.dup X10.here hx rfl (hb hby d1_52) rfl rfl k) ?_
        show Go p e below T10 (mkF m 53 #[.val (.int x0), .val (.int (x0 &&& (3 : Int32)))] [(.ref ad10), (.ref ad10)]) _
        refine Go.of (fun _ k => XS.iconst X10.here hx rfl (hb hby d1_53) k) ?_
        show Go p e below T10 (mkF m 54 #[.val (.int x0), .val (.int (x0 &&& (3 : Int32)))] [(.int (2 : Int32)), (.ref ad10), (.ref ad10)]) _
        obtain ⟨T11, h11, kc11, X11, e11, E11, A11, st11⟩ := newP X10 hx hZ (hw _ (List.mem_of_getElem? (i := 13) rfl)) e10 (g := (mkF m 54 #[.val (.int x0), .val (.int (x0 &&& (3 : Int32)))] [(.int (2 : Int32)), (.ref ad10), (.ref ad10)])) rfl (hb hby d1_54) rfl (by decide) (cap := 2) (by decide) (by decide) (by decide) (by decide)
        obtain ⟨ad11, g11⟩ : ∃ z, z = h10.size := ⟨_, rfl⟩
        rw [← g11] at A11 st11
        have ne_ad10_ad11 : ad10 ≠ ad11 := Nat.ne_of_lt (Nat.lt_of_lt_of_le E_ad10.lt (Nat.le_of_eq g11.symm))
        have ge_ad11 : n0 ≤ ad11 := Nat.le_trans Z0 (Nat.le_of_eq g11.symm)
        have sz_ad11 : h0.size ≤ ad11 := Nat.le_trans KK.1 (Nat.le_of_eq g11.symm)
        have HR := HR.trans (CHr.ext E11 HR.1)
        have hk := Nat.le_trans hk E11.1
        have Z0 := Nat.le_trans Z0 E11.1
        have OL := OL.ext E11
        have KK := KK.ext E11
        have E_ad10 := E_ad10.ext E11
        have F_value_ad10 := F_value_ad10.ext E11
        have F_coder_ad10 := F_coder_ad10.ext E11
        have F_hash_ad10 := F_hash_ad10.ext E11
        have F_hashIsZero_ad10 := F_hashIsZero_ad10.ext E11
        have V_ad11 : Arv Z h11 ad11 kc11 .char (2 : Int32) [(.int (0 : Int32)), (.int (0 : Int32))] (.int (0 : Int32)) := (Arv.new A11 (by decide)).pad (pad_rep [] (.int (0 : Int32)) 2)
        refine Go.of (fun _ k => st11 _ k) ?_
        show Go p e below T11 (mkF m 56 #[.val (.int x0), .val (.int (x0 &&& (3 : Int32)))] [(.ref ad11), (.ref ad10), (.ref ad10)]) _
        refine Go.of (fun _ k => XS.dup X11.here hx rfl (hb hby d1_56) rfl rfl k) ?_
        show Go p e below T11 (mkF m 57 #[.val (.int x0), .val (.int (x0 &&& (3 : Int32)))] [(.ref ad11), (.ref ad11), (.ref ad10), (.ref ad10)]) _
        refine Go.of (fun _ k => XS.iconst X11.here hx rfl (hb hby d1_57) k) ?_
        show Go p e below T11 (mkF m 58 #[.val (.int x0), .val (.int (x0 &&& (3 : Int32)))] [(.int (0 : Int32)), (.ref ad11), (.ref ad11), (.ref ad10), (.ref ad10)]) _
        refine Go.of (fun _ k => XS.iloadN X11.here hx rfl (hb hby d1_58) rfl  k) ?_
        show Go p e below T11 (mkF m 59 #[.val (.int x0), .val (.int (x0 &&& (3 : Int32)))] [(.int x0), (.int (0 : Int32)), (.ref ad11), (.ref ad11), (.ref ad10), (.ref ad10)]) _
        refine Go.of (fun _ k => XS.iconst X11.here hx rfl (hb hby d1_59) k) ?_
        show Go p e below T11 (mkF m 60 #[.val (.int x0), .val (.int (x0 &&& (3 : Int32)))] [(.int (0 : Int32)), (.int x0), (.int (0 : Int32)), (.ref ad11), (.ref ad11), (.ref ad10), (.ref ad10)]) _
        obtain ⟨_, _, ⟨T12, L12, kq12, nq12⟩, -, X12, ⟨Lc12, hQ12, l12, y12, z12⟩, st12⟩ := Jvm.LawKit.callS X11 hx (y := (⟨"com/example/cascadex/cascadex/OfTextEqualsPinLaw", "ch", "(II)C"⟩ : MethodName)) hown (mvT hZ (hw _ (List.mem_of_getElem? (i := 32) rfl))) (mvT hZ (hw _ (List.mem_of_getElem? (i := 33) rfl))) (mvT hZ (hw _ (List.mem_of_getElem? (i := 5) rfl))) (mvT hZ (hw _ (List.mem_of_getElem? (i := 34) rfl))) (by decide) (backOf (W := 5) (rm6 l Z a0 hw [] x0 (0 : Int32) h11 n0 Z0 ) hZ (hw _ (List.mem_of_getElem? (i := 34) rfl)) (hw _ (List.mem_of_getElem? (i := 5) rfl)) (by decide) (by decide)) (g := (mkF m 60 #[.val (.int x0), .val (.int (x0 &&& (3 : Int32)))] [(.int (0 : Int32)), (.int x0), (.int (0 : Int32)), (.ref ad11), (.ref ad11), (.ref ad10), (.ref ad10)])) rfl (by rw [hml]; rfl) (argsL := [(.int x0), (.int (0 : Int32))]) (rest := [(.int (0 : Int32)), (.ref ad11), (.ref ad11), (.ref ad10), (.ref ad10)]) (lenOf own_pd3 rfl) rfl (by show 2 * 0 + _ ≤ _; exact Nat.le_of_eq rfl) (hb hby d1_60) (fun _ _ => ⟨rfl, e11, (by decide : 2 + 0 ≤ _), (by decide : 6 + 0 ≤ _)⟩)
        dsimp only [Pt.U, Pt.locs, Pt.cells, Pt.slots] at X12 l12 y12 z12 st12 hQ12
        subst l12 y12 z12
        obtain ⟨rfl, Nq12, e12⟩ := hQ12
        have e12 := e12.trans rfl
        have N12 := Fr.app N1 Nq12
        refine Go.of (fun _ k => st12 _ k) ?_
        show Go p e below T12 (mkF m 63 #[.val (.int x0), .val (.int (x0 &&& (3 : Int32)))] [(.int (fCh x0 (0 : Int32))), (.int (0 : Int32)), (.ref ad11), (.ref ad11), (.ref ad10), (.ref ad10)]) _
        have sf13 := Safe.arv (EL := EL) hZ.alike V_ad11 (by decide)
        obtain ⟨clq13, Arq13, qq13, Sq13, Nnq13, Hq13, Gq13⟩ := V_ad11
        have hin13 : ¬ ((0 : Int32) < 0 ∨ clq13.slots.size ≤ ((0 : Int32)).toNatClampNeg) := inb_of Sq13 ⟨by decide, by decide⟩
        obtain ⟨T13, h13, X13, e13, W13, st13⟩ := stC X12 hx hZ e12 Arq13 (j := (0 : Int32)) hin13 (g := (mkF m 63 #[.val (.int x0), .val (.int (x0 &&& (3 : Int32)))] [(.int (fCh x0 (0 : Int32))), (.int (0 : Int32)), (.ref ad11), (.ref ad11), (.ref ad10), (.ref ad10)])) rfl rfl (hb hby d1_63)
        have V_ad11 : Arv Z h13 ad11 kc11 .char (2 : Int32) [(.int (nar .char (fCh x0 (0 : Int32)))), (.int (0 : Int32))] (.int (0 : Int32)) := Arv.set Arq13 qq13 Sq13 Nnq13 Hq13 Gq13 (fits_nar_char _) W13 0 rfl (Nat.le_of_ble_eq_true rfl)
        have N13 := Fr.snoc X13 N12 ge_ad11
        have HR := HR.trans (CHr.wr W13 sf13 HR.1)
        have hk := Nat.le_trans hk (Keep.of_wr W13).1
        have Z0 := Nat.le_trans Z0 (Keep.of_wr W13).1
        have OL := OL.wr W13 ge_ad11
        have KK := KK.wr W13 (Or.inr sz_ad11)
        have E_ad10 := E_ad10.wr W13
        have F_value_ad10 := F_value_ad10.other W13 (Or.inl ne_ad10_ad11)
        have F_coder_ad10 := F_coder_ad10.other W13 (Or.inl ne_ad10_ad11)
        have F_hash_ad10 := F_hash_ad10.other W13 (Or.inl ne_ad10_ad11)
        have F_hashIsZero_ad10 := F_hashIsZero_ad10.other W13 (Or.inl ne_ad10_ad11)
        refine Go.of (fun _ k => st13 _ k) ?_
        show Go p e below T13 (mkF m 64 #[.val (.int x0), .val (.int (x0 &&& (3 : Int32)))] [(.ref ad11), (.ref ad10), (.ref ad10)]) _
        rw [own_nar (c := (fCh x0 (0 : Int32))) (own_fch _ _)] at V_ad11
        refine Go.of (fun _ k => XS.dup X13.here hx rfl (hb hby d1_64) rfl rfl k) ?_
        show Go p e below T13 (mkF m 65 #[.val (.int x0), .val (.int (x0 &&& (3 : Int32)))] [(.ref ad11), (.ref ad11), (.ref ad10), (.ref ad10)]) _
        refine Go.of (fun _ k => XS.iconst X13.here hx rfl (hb hby d1_65) k) ?_
        show Go p e below T13 (mkF m 66 #[.val (.int x0), .val (.int (x0 &&& (3 : Int32)))] [(.int (1 : Int32)), (.ref ad11), (.ref ad11), (.ref ad10), (.ref ad10)]) _
        refine Go.of (fun _ k => XS.iloadN X13.here hx rfl (hb hby d1_66) rfl  k) ?_
        show Go p e below T13 (mkF m 67 #[.val (.int x0), .val (.int (x0 &&& (3 : Int32)))] [(.int x0), (.int (1 : Int32)), (.ref ad11), (.ref ad11), (.ref ad10), (.ref ad10)]) _
        refine Go.of (fun _ k => XS.iconst X13.here hx rfl (hb hby d1_67) k) ?_
        show Go p e below T13 (mkF m 68 #[.val (.int x0), .val (.int (x0 &&& (3 : Int32)))] [(.int (1 : Int32)), (.int x0), (.int (1 : Int32)), (.ref ad11), (.ref ad11), (.ref ad10), (.ref ad10)]) _
        obtain ⟨_, _, ⟨T14, L14, kq14, nq14⟩, -, X14, ⟨Lc14, hQ14, l14, y14, z14⟩, st14⟩ := Jvm.LawKit.callS X13 hx (y := (⟨"com/example/cascadex/cascadex/OfTextEqualsPinLaw", "ch", "(II)C"⟩ : MethodName)) hown (mvT hZ (hw _ (List.mem_of_getElem? (i := 32) rfl))) (mvT hZ (hw _ (List.mem_of_getElem? (i := 33) rfl))) (mvT hZ (hw _ (List.mem_of_getElem? (i := 5) rfl))) (mvT hZ (hw _ (List.mem_of_getElem? (i := 34) rfl))) (by decide) (backOf (W := 5) (rm6 l Z a0 hw [] x0 (1 : Int32) h13 n0 Z0 ) hZ (hw _ (List.mem_of_getElem? (i := 34) rfl)) (hw _ (List.mem_of_getElem? (i := 5) rfl)) (by decide) (by decide)) (g := (mkF m 68 #[.val (.int x0), .val (.int (x0 &&& (3 : Int32)))] [(.int (1 : Int32)), (.int x0), (.int (1 : Int32)), (.ref ad11), (.ref ad11), (.ref ad10), (.ref ad10)])) rfl (by rw [hml]; rfl) (argsL := [(.int x0), (.int (1 : Int32))]) (rest := [(.int (1 : Int32)), (.ref ad11), (.ref ad11), (.ref ad10), (.ref ad10)]) (lenOf own_pd3 rfl) rfl (by show 2 * 0 + _ ≤ _; exact Nat.le_of_eq rfl) (hb hby d1_68) (fun _ _ => ⟨rfl, e13, (by decide : 2 + 0 ≤ _), (by decide : 6 + 0 ≤ _)⟩)
        dsimp only [Pt.U, Pt.locs, Pt.cells, Pt.slots] at X14 l14 y14 z14 st14 hQ14
        subst l14 y14 z14
        obtain ⟨rfl, Nq14, e14⟩ := hQ14
        have e14 := e14.trans rfl
        have N14 := Fr.app N13 Nq14
        refine Go.of (fun _ k => st14 _ k) ?_
        show Go p e below T14 (mkF m 71 #[.val (.int x0), .val (.int (x0 &&& (3 : Int32)))] [(.int (fCh x0 (1 : Int32))), (.int (1 : Int32)), (.ref ad11), (.ref ad11), (.ref ad10), (.ref ad10)]) _
        have sf15 := Safe.arv (EL := EL) hZ.alike V_ad11 (by decide)
        obtain ⟨clq15, Arq15, qq15, Sq15, Nnq15, Hq15, Gq15⟩ := V_ad11
        have hin15 : ¬ ((1 : Int32) < 0 ∨ clq15.slots.size ≤ ((1 : Int32)).toNatClampNeg) := inb_of Sq15 ⟨by decide, by decide⟩
        obtain ⟨T15, h15, X15, e15, W15, st15⟩ := stC X14 hx hZ e14 Arq15 (j := (1 : Int32)) hin15 (g := (mkF m 71 #[.val (.int x0), .val (.int (x0 &&& (3 : Int32)))] [(.int (fCh x0 (1 : Int32))), (.int (1 : Int32)), (.ref ad11), (.ref ad11), (.ref ad10), (.ref ad10)])) rfl rfl (hb hby d1_71)
        have V_ad11 : Arv Z h15 ad11 kc11 .char (2 : Int32) [(.int (fCh x0 (0 : Int32))), (.int (nar .char (fCh x0 (1 : Int32))))] (.int (0 : Int32)) := Arv.set Arq15 qq15 Sq15 Nnq15 Hq15 Gq15 (fits_nar_char _) W15 1 rfl (Nat.le_of_ble_eq_true rfl)
        have N15 := Fr.snoc X15 N14 ge_ad11
        have HR := HR.trans (CHr.wr W15 sf15 HR.1)
        have hk := Nat.le_trans hk (Keep.of_wr W15).1
        have Z0 := Nat.le_trans Z0 (Keep.of_wr W15).1
        have OL := OL.wr W15 ge_ad11
        have KK := KK.wr W15 (Or.inr sz_ad11)
        have E_ad10 := E_ad10.wr W15
        have F_value_ad10 := F_value_ad10.other W15 (Or.inl ne_ad10_ad11)
        have F_coder_ad10 := F_coder_ad10.other W15 (Or.inl ne_ad10_ad11)
        have F_hash_ad10 := F_hash_ad10.other W15 (Or.inl ne_ad10_ad11)
        have F_hashIsZero_ad10 := F_hashIsZero_ad10.other W15 (Or.inl ne_ad10_ad11)
        refine Go.of (fun _ k => st15 _ k) ?_
        show Go p e below T15 (mkF m 72 #[.val (.int x0), .val (.int (x0 &&& (3 : Int32)))] [(.ref ad11), (.ref ad10), (.ref ad10)]) _
        rw [own_nar (c := (fCh x0 (1 : Int32))) (own_fch _ _)] at V_ad11
        have hcs : fStr x0 = [(fCh x0 (0 : Int32)), (fCh x0 (1 : Int32))] := by simp [fStr, hc6_0, hc22_1, hc46_2]
        have l3 := own_len3 x0
        rw [hcs] at l3
        obtain ⟨_, _, ⟨T16, L16, kq16, nq16⟩, -, X16, hS16, hg16, ⟨Lc16, hQ16, l16, y16, z16, hC16⟩, st16⟩ := X15.specialBackS hx (y := (⟨"java/lang/String", "<init>", "([C)V"⟩ : MethodName)) rfl hown (mvT hZ (hw _ (List.mem_of_getElem? (i := 14) rfl))) (mvT hZ (hw _ (List.mem_of_getElem? (i := 15) rfl))) (mvT hZ (hw _ (List.mem_of_getElem? (i := 16) rfl))) (by decide) (own_newS (W := 1) (cs := ([(fCh x0 (0 : Int32)), (fCh x0 (1 : Int32))] : List Int32)) hw hZ HR.1 ge_ad10 Z0 E_ad10 F_value_ad10 F_coder_ad10 F_hash_ad10 F_hashIsZero_ad10 V_ad11 (O2.ext OL.2) hzc rfl l3.1 l3.2 (by decide) (by decide)) (g := (mkF m 72 #[.val (.int x0), .val (.int (x0 &&& (3 : Int32)))] [(.ref ad11), (.ref ad10), (.ref ad10)])) rfl (by rw [hml]; rfl) (Steps.refl _) (a := ad10) (argsL := [(.ref ad11)]) (rest := [(.ref ad10)]) (lenOf own_pd2 rfl) rfl (by show 2 * 0 + _ ≤ _; exact Nat.le_of_eq rfl) (hb hby d1_72) (fun _ _ => ⟨rfl, e15, (by decide : 2 + 4 ≤ _), (by decide : 6 + 12 ≤ _)⟩)
        dsimp only [Pt.U, Pt.locs, Pt.cells, Pt.slots] at X16 l16 y16 z16 st16 hQ16 hS16 hg16 hC16
        subst l16 y16 z16
        obtain ⟨X16, hS, hZ, hown⟩ := rebS hS (by rw [e15]; exact hk) X16 hS16 hg16 hZ hown
        have HR := HR.trans hC16
        have hk : T16.heap.size ≤ T16.heap.size := Nat.le_refl _
        obtain ⟨rfl, Nq16, Kq16, Eq16, Fc16, Fh16, Fz16, ts16, ks16, Fv16, Vs16, fk16⟩ := hQ16
        have N16 := Fr.app N15 Nq16
        have Z0 := Nat.le_trans Z0 Kq16.1
        have OL := OL.keep Kq16 (allS ge_ad10 all0)
        have KK := KK.trans Kq16 (allS (Or.inr sz_ad10) all0)
        have E_ad10 := E_ad10.keep Kq16
        have V_ad11 := V_ad11.keep Kq16 (ninS (Ne.symm ne_ad10_ad11) nin0)
        refine Go.of (fun _ k => st16.trans k) ?_
        show Go p e below T16 (mkF m 75 #[.val (.int x0), .val (.int (x0 &&& (3 : Int32)))] [(.ref ad10)]) _
        refine Go.retAH X16 hx hret hlk rfl rfl (hb hby d1_75) rfl hS hk hZ hEL hs0 HR (by decide) (by decide) ?_
        rw [← hcs] at Vs16
        have fk16 : fStr x0 ≠ [] → Z.vm.findClass "[B" = some ks16 := fun q => fk16 (fun z => q (hcs.trans z))
        exact ⟨_, _, _, rfl, N16, KK, ge_ad10, sz_ad10, E_ad10, Fc16, Fh16, Fz16, Fv16, Vs16, fk16⟩
      · refine Go.of (fun _ k => XS.icmpYes X1.here hx rfl (pc0 := 46) (pc' := 76) rfl (hb hby d1_46) rfl (feq hc46_2).2 (by decide) (by decide) k) ?_
        show Go p e below T1 (mkF m 76 #[.val (.int x0), .val (.int (x0 &&& (3 : Int32)))] []) _
        obtain ⟨T17, h17, X17, e17, E17, A17, D17, -, st17⟩ := newO X1 hx hZ hown (hw _ (List.mem_of_getElem? (i := 10) rfl)) (hw _ (List.mem_of_getElem? (i := 11) rfl)) (hw _ (List.mem_of_getElem? (i := 12) rfl)) e1 (g := (mkF m 76 #[.val (.int x0), .val (.int (x0 &&& (3 : Int32)))] [])) rfl (hb hby d1_76) (by decide) (by decide)
        obtain ⟨ad17, g17⟩ : ∃ z, z = h0.size := ⟨_, rfl⟩
        rw [← g17] at A17 D17 st17
        have ge_ad17 : n0 ≤ ad17 := Nat.le_trans Z0 (Nat.le_of_eq g17.symm)
        have sz_ad17 : h0.size ≤ ad17 := Nat.le_trans KK.1 (Nat.le_of_eq g17.symm)
        have HR := HR.trans (CHr.ext E17 HR.1)
        have hk := Nat.le_trans hk E17.1
        have Z0 := Nat.le_trans Z0 E17.1
        have OL := OL.ext E17
        have KK := KK.ext E17
        have E_ad17 := A17
        have F_value_ad17 : Fld Z h17 ad17 "java/lang/String" "value" "[B" .null := D17 (Or.inr (hw _ (List.mem_of_getElem? (i := 26) rfl))) (ty := (.array .byte)) (by decide)
        have F_coder_ad17 : Fld Z h17 ad17 "java/lang/String" "coder" "B" (.int (0 : Int32)) := D17 (Or.inr (hw _ (List.mem_of_getElem? (i := 27) rfl))) (ty := .byte) (by decide)
        have F_hash_ad17 : Fld Z h17 ad17 "java/lang/String" "hash" "I" (.int (0 : Int32)) := D17 (Or.inl (hw _ (List.mem_of_getElem? (i := 102) rfl))) (ty := .int) (by decide)
        have F_hashIsZero_ad17 : Fld Z h17 ad17 "java/lang/String" "hashIsZero" "Z" (.int (0 : Int32)) := D17 (Or.inl (hw _ (List.mem_of_getElem? (i := 104) rfl))) (ty := .boolean) (by decide)
        refine Go.of (fun _ k => st17 _ k) ?_
        show Go p e below T17 (mkF m 79 #[.val (.int x0), .val (.int (x0 &&& (3 : Int32)))] [(.ref ad17)]) _
        refine Go.of (fun _ k => XS.dup X17.here hx rfl (hb hby d1_79) rfl rfl k) ?_
        show Go p e below T17 (mkF m 80 #[.val (.int x0), .val (.int (x0 &&& (3 : Int32)))] [(.ref ad17), (.ref ad17)]) _
        refine Go.of (fun _ k => XS.iconst X17.here hx rfl (hb hby d1_80) k) ?_
        show Go p e below T17 (mkF m 81 #[.val (.int x0), .val (.int (x0 &&& (3 : Int32)))] [(.int (3 : Int32)), (.ref ad17), (.ref ad17)]) _
        obtain ⟨T18, h18, kc18, X18, e18, E18, A18, st18⟩ := newP X17 hx hZ (hw _ (List.mem_of_getElem? (i := 13) rfl)) e17 (g := (mkF m 81 #[.val (.int x0), .val (.int (x0 &&& (3 : Int32)))] [(.int (3 : Int32)), (.ref ad17), (.ref ad17)])) rfl (hb hby d1_81) rfl (by decide) (cap := 3) (by decide) (by decide) (by decide) (by decide)
        obtain ⟨ad18, g18⟩ : ∃ z, z = h17.size := ⟨_, rfl⟩
        rw [← g18] at A18 st18
        have ne_ad17_ad18 : ad17 ≠ ad18 := Nat.ne_of_lt (Nat.lt_of_lt_of_le E_ad17.lt (Nat.le_of_eq g18.symm))
        have ge_ad18 : n0 ≤ ad18 := Nat.le_trans Z0 (Nat.le_of_eq g18.symm)
        have sz_ad18 : h0.size ≤ ad18 := Nat.le_trans KK.1 (Nat.le_of_eq g18.symm)
        have HR := HR.trans (CHr.ext E18 HR.1)
        have hk := Nat.le_trans hk E18.1
        have Z0 := Nat.le_trans Z0 E18.1
        have OL := OL.ext E18
        have KK := KK.ext E18
        have E_ad17 := E_ad17.ext E18
        have F_value_ad17 := F_value_ad17.ext E18
        have F_coder_ad17 := F_coder_ad17.ext E18
        have F_hash_ad17 := F_hash_ad17.ext E18
        have F_hashIsZero_ad17 := F_hashIsZero_ad17.ext E18
        have V_ad18 : Arv Z h18 ad18 kc18 .char (3 : Int32) [(.int (0 : Int32)), (.int (0 : Int32)), (.int (0 : Int32))] (.int (0 : Int32)) := (Arv.new A18 (by decide)).pad (pad_rep [] (.int (0 : Int32)) 3)
        refine Go.of (fun _ k => st18 _ k) ?_
        show Go p e below T18 (mkF m 83 #[.val (.int x0), .val (.int (x0 &&& (3 : Int32)))] [(.ref ad18), (.ref ad17), (.ref ad17)]) _
        refine Go.of (fun _ k => XS.dup X18.here hx rfl (hb hby d1_83) rfl rfl k) ?_
        show Go p e below T18 (mkF m 84 #[.val (.int x0), .val (.int (x0 &&& (3 : Int32)))] [(.ref ad18), (.ref ad18), (.ref ad17), (.ref ad17)]) _
        refine Go.of (fun _ k => XS.iconst X18.here hx rfl (hb hby d1_84) k) ?_
        show Go p e below T18 (mkF m 85 #[.val (.int x0), .val (.int (x0 &&& (3 : Int32)))] [(.int (0 : Int32)), (.ref ad18), (.ref ad18), (.ref ad17), (.ref ad17)]) _
        refine Go.of (fun _ k => XS.iloadN X18.here hx rfl (hb hby d1_85) rfl  k) ?_
        show Go p e below T18 (mkF m 86 #[.val (.int x0), .val (.int (x0 &&& (3 : Int32)))] [(.int x0), (.int (0 : Int32)), (.ref ad18), (.ref ad18), (.ref ad17), (.ref ad17)]) _
        refine Go.of (fun _ k => XS.iconst X18.here hx rfl (hb hby d1_86) k) ?_
        show Go p e below T18 (mkF m 87 #[.val (.int x0), .val (.int (x0 &&& (3 : Int32)))] [(.int (0 : Int32)), (.int x0), (.int (0 : Int32)), (.ref ad18), (.ref ad18), (.ref ad17), (.ref ad17)]) _
        obtain ⟨_, _, ⟨T19, L19, kq19, nq19⟩, -, X19, ⟨Lc19, hQ19, l19, y19, z19⟩, st19⟩ := Jvm.LawKit.callS X18 hx (y := (⟨"com/example/cascadex/cascadex/OfTextEqualsPinLaw", "ch", "(II)C"⟩ : MethodName)) hown (mvT hZ (hw _ (List.mem_of_getElem? (i := 32) rfl))) (mvT hZ (hw _ (List.mem_of_getElem? (i := 33) rfl))) (mvT hZ (hw _ (List.mem_of_getElem? (i := 5) rfl))) (mvT hZ (hw _ (List.mem_of_getElem? (i := 34) rfl))) (by decide) (backOf (W := 5) (rm6 l Z a0 hw [] x0 (0 : Int32) h18 n0 Z0 ) hZ (hw _ (List.mem_of_getElem? (i := 34) rfl)) (hw _ (List.mem_of_getElem? (i := 5) rfl)) (by decide) (by decide)) (g := (mkF m 87 #[.val (.int x0), .val (.int (x0 &&& (3 : Int32)))] [(.int (0 : Int32)), (.int x0), (.int (0 : Int32)), (.ref ad18), (.ref ad18), (.ref ad17), (.ref ad17)])) rfl (by rw [hml]; rfl) (argsL := [(.int x0), (.int (0 : Int32))]) (rest := [(.int (0 : Int32)), (.ref ad18), (.ref ad18), (.ref ad17), (.ref ad17)]) (lenOf own_pd3 rfl) rfl (by show 2 * 0 + _ ≤ _; exact Nat.le_of_eq rfl) (hb hby d1_87) (fun _ _ => ⟨rfl, e18, (by decide : 2 + 0 ≤ _), (by decide : 7 + 0 ≤ _)⟩)
        dsimp only [Pt.U, Pt.locs, Pt.cells, Pt.slots] at X19 l19 y19 z19 st19 hQ19
        subst l19 y19 z19
        obtain ⟨rfl, Nq19, e19⟩ := hQ19
        have e19 := e19.trans rfl
        have N19 := Fr.app N1 Nq19
        refine Go.of (fun _ k => st19 _ k) ?_
        show Go p e below T19 (mkF m 90 #[.val (.int x0), .val (.int (x0 &&& (3 : Int32)))] [(.int (fCh x0 (0 : Int32))), (.int (0 : Int32)), (.ref ad18), (.ref ad18), (.ref ad17), (.ref ad17)]) _
        have sf20 := Safe.arv (EL := EL) hZ.alike V_ad18 (by decide)
        obtain ⟨clq20, Arq20, qq20, Sq20, Nnq20, Hq20, Gq20⟩ := V_ad18
        have hin20 : ¬ ((0 : Int32) < 0 ∨ clq20.slots.size ≤ ((0 : Int32)).toNatClampNeg) := inb_of Sq20 ⟨by decide, by decide⟩
        obtain ⟨T20, h20, X20, e20, W20, st20⟩ := stC X19 hx hZ e19 Arq20 (j := (0 : Int32)) hin20 (g := (mkF m 90 #[.val (.int x0), .val (.int (x0 &&& (3 : Int32)))] [(.int (fCh x0 (0 : Int32))), (.int (0 : Int32)), (.ref ad18), (.ref ad18), (.ref ad17), (.ref ad17)])) rfl rfl (hb hby d1_90)
        have V_ad18 : Arv Z h20 ad18 kc18 .char (3 : Int32) [(.int (nar .char (fCh x0 (0 : Int32)))), (.int (0 : Int32)), (.int (0 : Int32))] (.int (0 : Int32)) := Arv.set Arq20 qq20 Sq20 Nnq20 Hq20 Gq20 (fits_nar_char _) W20 0 rfl (Nat.le_of_ble_eq_true rfl)
        have N20 := Fr.snoc X20 N19 ge_ad18
        have HR := HR.trans (CHr.wr W20 sf20 HR.1)
        have hk := Nat.le_trans hk (Keep.of_wr W20).1
        have Z0 := Nat.le_trans Z0 (Keep.of_wr W20).1
        have OL := OL.wr W20 ge_ad18
        have KK := KK.wr W20 (Or.inr sz_ad18)
        have E_ad17 := E_ad17.wr W20
        have F_value_ad17 := F_value_ad17.other W20 (Or.inl ne_ad17_ad18)
        have F_coder_ad17 := F_coder_ad17.other W20 (Or.inl ne_ad17_ad18)
        have F_hash_ad17 := F_hash_ad17.other W20 (Or.inl ne_ad17_ad18)
        have F_hashIsZero_ad17 := F_hashIsZero_ad17.other W20 (Or.inl ne_ad17_ad18)
        refine Go.of (fun _ k => st20 _ k) ?_
        show Go p e below T20 (mkF m 91 #[.val (.int x0), .val (.int (x0 &&& (3 : Int32)))] [(.ref ad18), (.ref ad17), (.ref ad17)]) _
        rw [own_nar (c := (fCh x0 (0 : Int32))) (own_fch _ _)] at V_ad18
        refine Go.of (fun _ k => XS.dup X20.here hx rfl (hb hby d1_91) rfl rfl k) ?_
        show Go p e below T20 (mkF m 92 #[.val (.int x0), .val (.int (x0 &&& (3 : Int32)))] [(.ref ad18), (.ref ad18), (.ref ad17), (.ref ad17)]) _
        refine Go.of (fun _ k => XS.iconst X20.here hx rfl (hb hby d1_92) k) ?_
        show Go p e below T20 (mkF m 93 #[.val (.int x0), .val (.int (x0 &&& (3 : Int32)))] [(.int (1 : Int32)), (.ref ad18), (.ref ad18), (.ref ad17), (.ref ad17)]) _
        refine Go.of (fun _ k => XS.iloadN X20.here hx rfl (hb hby d1_93) rfl  k) ?_
        show Go p e below T20 (mkF m 94 #[.val (.int x0), .val (.int (x0 &&& (3 : Int32)))] [(.int x0), (.int (1 : Int32)), (.ref ad18), (.ref ad18), (.ref ad17), (.ref ad17)]) _
        refine Go.of (fun _ k => XS.iconst X20.here hx rfl (hb hby d1_94) k) ?_
        show Go p e below T20 (mkF m 95 #[.val (.int x0), .val (.int (x0 &&& (3 : Int32)))] [(.int (1 : Int32)), (.int x0), (.int (1 : Int32)), (.ref ad18), (.ref ad18), (.ref ad17), (.ref ad17)]) _
        obtain ⟨_, _, ⟨T21, L21, kq21, nq21⟩, -, X21, ⟨Lc21, hQ21, l21, y21, z21⟩, st21⟩ := Jvm.LawKit.callS X20 hx (y := (⟨"com/example/cascadex/cascadex/OfTextEqualsPinLaw", "ch", "(II)C"⟩ : MethodName)) hown (mvT hZ (hw _ (List.mem_of_getElem? (i := 32) rfl))) (mvT hZ (hw _ (List.mem_of_getElem? (i := 33) rfl))) (mvT hZ (hw _ (List.mem_of_getElem? (i := 5) rfl))) (mvT hZ (hw _ (List.mem_of_getElem? (i := 34) rfl))) (by decide) (backOf (W := 5) (rm6 l Z a0 hw [] x0 (1 : Int32) h20 n0 Z0 ) hZ (hw _ (List.mem_of_getElem? (i := 34) rfl)) (hw _ (List.mem_of_getElem? (i := 5) rfl)) (by decide) (by decide)) (g := (mkF m 95 #[.val (.int x0), .val (.int (x0 &&& (3 : Int32)))] [(.int (1 : Int32)), (.int x0), (.int (1 : Int32)), (.ref ad18), (.ref ad18), (.ref ad17), (.ref ad17)])) rfl (by rw [hml]; rfl) (argsL := [(.int x0), (.int (1 : Int32))]) (rest := [(.int (1 : Int32)), (.ref ad18), (.ref ad18), (.ref ad17), (.ref ad17)]) (lenOf own_pd3 rfl) rfl (by show 2 * 0 + _ ≤ _; exact Nat.le_of_eq rfl) (hb hby d1_95) (fun _ _ => ⟨rfl, e20, (by decide : 2 + 0 ≤ _), (by decide : 7 + 0 ≤ _)⟩)
        dsimp only [Pt.U, Pt.locs, Pt.cells, Pt.slots] at X21 l21 y21 z21 st21 hQ21
        subst l21 y21 z21
        obtain ⟨rfl, Nq21, e21⟩ := hQ21
        have e21 := e21.trans rfl
        have N21 := Fr.app N20 Nq21
        refine Go.of (fun _ k => st21 _ k) ?_
        show Go p e below T21 (mkF m 98 #[.val (.int x0), .val (.int (x0 &&& (3 : Int32)))] [(.int (fCh x0 (1 : Int32))), (.int (1 : Int32)), (.ref ad18), (.ref ad18), (.ref ad17), (.ref ad17)]) _
        have sf22 := Safe.arv (EL := EL) hZ.alike V_ad18 (by decide)
        obtain ⟨clq22, Arq22, qq22, Sq22, Nnq22, Hq22, Gq22⟩ := V_ad18
        have hin22 : ¬ ((1 : Int32) < 0 ∨ clq22.slots.size ≤ ((1 : Int32)).toNatClampNeg) := inb_of Sq22 ⟨by decide, by decide⟩
        obtain ⟨T22, h22, X22, e22, W22, st22⟩ := stC X21 hx hZ e21 Arq22 (j := (1 : Int32)) hin22 (g := (mkF m 98 #[.val (.int x0), .val (.int (x0 &&& (3 : Int32)))] [(.int (fCh x0 (1 : Int32))), (.int (1 : Int32)), (.ref ad18), (.ref ad18), (.ref ad17), (.ref ad17)])) rfl rfl (hb hby d1_98)
        have V_ad18 : Arv Z h22 ad18 kc18 .char (3 : Int32) [(.int (fCh x0 (0 : Int32))), (.int (nar .char (fCh x0 (1 : Int32)))), (.int (0 : Int32))] (.int (0 : Int32)) := Arv.set Arq22 qq22 Sq22 Nnq22 Hq22 Gq22 (fits_nar_char _) W22 1 rfl (Nat.le_of_ble_eq_true rfl)
        have N22 := Fr.snoc X22 N21 ge_ad18
        have HR := HR.trans (CHr.wr W22 sf22 HR.1)
        have hk := Nat.le_trans hk (Keep.of_wr W22).1
        have Z0 := Nat.le_trans Z0 (Keep.of_wr W22).1
        have OL := OL.wr W22 ge_ad18
        have KK := KK.wr W22 (Or.inr sz_ad18)
        have E_ad17 := E_ad17.wr W22
        have F_value_ad17 := F_value_ad17.other W22 (Or.inl ne_ad17_ad18)
        have F_coder_ad17 := F_coder_ad17.other W22 (Or.inl ne_ad17_ad18)
        have F_hash_ad17 := F_hash_ad17.other W22 (Or.inl ne_ad17_ad18)
        have F_hashIsZero_ad17 := F_hashIsZero_ad17.other W22 (Or.inl ne_ad17_ad18)
        refine Go.of (fun _ k => st22 _ k) ?_
        show Go p e below T22 (mkF m 99 #[.val (.int x0), .val (.int (x0 &&& (3 : Int32)))] [(.ref ad18), (.ref ad17), (.ref ad17)]) _
        rw [own_nar (c := (fCh x0 (1 : Int32))) (own_fch _ _)] at V_ad18
        refine Go.of (fun _ k => XS.dup X22.here hx rfl (hb hby d1_99) rfl rfl k) ?_
        show Go p e below T22 (mkF m 100 #[.val (.int x0), .val (.int (x0 &&& (3 : Int32)))] [(.ref ad18), (.ref ad18), (.ref ad17), (.ref ad17)]) _
        refine Go.of (fun _ k => XS.iconst X22.here hx rfl (hb hby d1_100) k) ?_
        show Go p e below T22 (mkF m 101 #[.val (.int x0), .val (.int (x0 &&& (3 : Int32)))] [(.int (2 : Int32)), (.ref ad18), (.ref ad18), (.ref ad17), (.ref ad17)]) _
        refine Go.of (fun _ k => XS.iloadN X22.here hx rfl (hb hby d1_101) rfl  k) ?_
        show Go p e below T22 (mkF m 102 #[.val (.int x0), .val (.int (x0 &&& (3 : Int32)))] [(.int x0), (.int (2 : Int32)), (.ref ad18), (.ref ad18), (.ref ad17), (.ref ad17)]) _
        refine Go.of (fun _ k => XS.iconst X22.here hx rfl (hb hby d1_102) k) ?_
        show Go p e below T22 (mkF m 103 #[.val (.int x0), .val (.int (x0 &&& (3 : Int32)))] [(.int (2 : Int32)), (.int x0), (.int (2 : Int32)), (.ref ad18), (.ref ad18), (.ref ad17), (.ref ad17)]) _
        obtain ⟨_, _, ⟨T23, L23, kq23, nq23⟩, -, X23, ⟨Lc23, hQ23, l23, y23, z23⟩, st23⟩ := Jvm.LawKit.callS X22 hx (y := (⟨"com/example/cascadex/cascadex/OfTextEqualsPinLaw", "ch", "(II)C"⟩ : MethodName)) hown (mvT hZ (hw _ (List.mem_of_getElem? (i := 32) rfl))) (mvT hZ (hw _ (List.mem_of_getElem? (i := 33) rfl))) (mvT hZ (hw _ (List.mem_of_getElem? (i := 5) rfl))) (mvT hZ (hw _ (List.mem_of_getElem? (i := 34) rfl))) (by decide) (backOf (W := 5) (rm6 l Z a0 hw [] x0 (2 : Int32) h22 n0 Z0 ) hZ (hw _ (List.mem_of_getElem? (i := 34) rfl)) (hw _ (List.mem_of_getElem? (i := 5) rfl)) (by decide) (by decide)) (g := (mkF m 103 #[.val (.int x0), .val (.int (x0 &&& (3 : Int32)))] [(.int (2 : Int32)), (.int x0), (.int (2 : Int32)), (.ref ad18), (.ref ad18), (.ref ad17), (.ref ad17)])) rfl (by rw [hml]; rfl) (argsL := [(.int x0), (.int (2 : Int32))]) (rest := [(.int (2 : Int32)), (.ref ad18), (.ref ad18), (.ref ad17), (.ref ad17)]) (lenOf own_pd3 rfl) rfl (by show 2 * 0 + _ ≤ _; exact Nat.le_of_eq rfl) (hb hby d1_103) (fun _ _ => ⟨rfl, e22, (by decide : 2 + 0 ≤ _), (by decide : 7 + 0 ≤ _)⟩)
        dsimp only [Pt.U, Pt.locs, Pt.cells, Pt.slots] at X23 l23 y23 z23 st23 hQ23
        subst l23 y23 z23
        obtain ⟨rfl, Nq23, e23⟩ := hQ23
        have e23 := e23.trans rfl
        have N23 := Fr.app N22 Nq23
        refine Go.of (fun _ k => st23 _ k) ?_
        show Go p e below T23 (mkF m 106 #[.val (.int x0), .val (.int (x0 &&& (3 : Int32)))] [(.int (fCh x0 (2 : Int32))), (.int (2 : Int32)), (.ref ad18), (.ref ad18), (.ref ad17), (.ref ad17)]) _
        have sf24 := Safe.arv (EL := EL) hZ.alike V_ad18 (by decide)
        obtain ⟨clq24, Arq24, qq24, Sq24, Nnq24, Hq24, Gq24⟩ := V_ad18
        have hin24 : ¬ ((2 : Int32) < 0 ∨ clq24.slots.size ≤ ((2 : Int32)).toNatClampNeg) := inb_of Sq24 ⟨by decide, by decide⟩
        obtain ⟨T24, h24, X24, e24, W24, st24⟩ := stC X23 hx hZ e23 Arq24 (j := (2 : Int32)) hin24 (g := (mkF m 106 #[.val (.int x0), .val (.int (x0 &&& (3 : Int32)))] [(.int (fCh x0 (2 : Int32))), (.int (2 : Int32)), (.ref ad18), (.ref ad18), (.ref ad17), (.ref ad17)])) rfl rfl (hb hby d1_106)
        have V_ad18 : Arv Z h24 ad18 kc18 .char (3 : Int32) [(.int (fCh x0 (0 : Int32))), (.int (fCh x0 (1 : Int32))), (.int (nar .char (fCh x0 (2 : Int32))))] (.int (0 : Int32)) := Arv.set Arq24 qq24 Sq24 Nnq24 Hq24 Gq24 (fits_nar_char _) W24 2 rfl (Nat.le_of_ble_eq_true rfl)
        have N24 := Fr.snoc X24 N23 ge_ad18
        have HR := HR.trans (CHr.wr W24 sf24 HR.1)
        have hk := Nat.le_trans hk (Keep.of_wr W24).1
        have Z0 := Nat.le_trans Z0 (Keep.of_wr W24).1
        have OL := OL.wr W24 ge_ad18
        have KK := KK.wr W24 (Or.inr sz_ad18)
        have E_ad17 := E_ad17.wr W24
        have F_value_ad17 := F_value_ad17.other W24 (Or.inl ne_ad17_ad18)
        have F_coder_ad17 := F_coder_ad17.other W24 (Or.inl ne_ad17_ad18)
        have F_hash_ad17 := F_hash_ad17.other W24 (Or.inl ne_ad17_ad18)
        have F_hashIsZero_ad17 := F_hashIsZero_ad17.other W24 (Or.inl ne_ad17_ad18)
        refine Go.of (fun _ k => st24 _ k) ?_
        show Go p e below T24 (mkF m 107 #[.val (.int x0), .val (.int (x0 &&& (3 : Int32)))] [(.ref ad18), (.ref ad17), (.ref ad17)]) _
        rw [own_nar (c := (fCh x0 (2 : Int32))) (own_fch _ _)] at V_ad18
        have hcs : fStr x0 = [(fCh x0 (0 : Int32)), (fCh x0 (1 : Int32)), (fCh x0 (2 : Int32))] := by simp [fStr, hc6_0, hc22_1, hc46_2]
        have l3 := own_len3 x0
        rw [hcs] at l3
        obtain ⟨_, _, ⟨T25, L25, kq25, nq25⟩, -, X25, hS25, hg25, ⟨Lc25, hQ25, l25, y25, z25, hC25⟩, st25⟩ := X24.specialBackS hx (y := (⟨"java/lang/String", "<init>", "([C)V"⟩ : MethodName)) rfl hown (mvT hZ (hw _ (List.mem_of_getElem? (i := 14) rfl))) (mvT hZ (hw _ (List.mem_of_getElem? (i := 15) rfl))) (mvT hZ (hw _ (List.mem_of_getElem? (i := 16) rfl))) (by decide) (own_newS (W := 1) (cs := ([(fCh x0 (0 : Int32)), (fCh x0 (1 : Int32)), (fCh x0 (2 : Int32))] : List Int32)) hw hZ HR.1 ge_ad17 Z0 E_ad17 F_value_ad17 F_coder_ad17 F_hash_ad17 F_hashIsZero_ad17 V_ad18 (O2.ext OL.2) hzc rfl l3.1 l3.2 (by decide) (by decide)) (g := (mkF m 107 #[.val (.int x0), .val (.int (x0 &&& (3 : Int32)))] [(.ref ad18), (.ref ad17), (.ref ad17)])) rfl (by rw [hml]; rfl) (Steps.refl _) (a := ad17) (argsL := [(.ref ad18)]) (rest := [(.ref ad17)]) (lenOf own_pd2 rfl) rfl (by show 2 * 0 + _ ≤ _; exact Nat.le_of_eq rfl) (hb hby d1_107) (fun _ _ => ⟨rfl, e24, (by decide : 2 + 4 ≤ _), (by decide : 7 + 12 ≤ _)⟩)
        dsimp only [Pt.U, Pt.locs, Pt.cells, Pt.slots] at X25 l25 y25 z25 st25 hQ25 hS25 hg25 hC25
        subst l25 y25 z25
        obtain ⟨X25, hS, hZ, hown⟩ := rebS hS (by rw [e24]; exact hk) X25 hS25 hg25 hZ hown
        have HR := HR.trans hC25
        have hk : T25.heap.size ≤ T25.heap.size := Nat.le_refl _
        obtain ⟨rfl, Nq25, Kq25, Eq25, Fc25, Fh25, Fz25, ts25, ks25, Fv25, Vs25, fk25⟩ := hQ25
        have N25 := Fr.app N24 Nq25
        have Z0 := Nat.le_trans Z0 Kq25.1
        have OL := OL.keep Kq25 (allS ge_ad17 all0)
        have KK := KK.trans Kq25 (allS (Or.inr sz_ad17) all0)
        have E_ad17 := E_ad17.keep Kq25
        have V_ad18 := V_ad18.keep Kq25 (ninS (Ne.symm ne_ad17_ad18) nin0)
        refine Go.of (fun _ k => st25.trans k) ?_
        show Go p e below T25 (mkF m 110 #[.val (.int x0), .val (.int (x0 &&& (3 : Int32)))] [(.ref ad17)]) _
        refine Go.retAH X25 hx hret hlk rfl rfl (hb hby d1_110) rfl hS hk hZ hEL hs0 HR (by decide) (by decide) ?_
        rw [← hcs] at Vs25
        have fk25 : fStr x0 ≠ [] → Z.vm.findClass "[B" = some ks25 := fun q => fk25 (fun z => q (hcs.trans z))
        exact ⟨_, _, _, rfl, N25, KK, ge_ad17, sz_ad17, E_ad17, Fc25, Fh25, Fz25, Fv25, Vs25, fk25⟩
theorem d11_0 : decode jdk_30_method_1_code 0 = .ok (.aload_n 0, 1) := by decide +kernel
theorem d11_1 : decode jdk_30_method_1_code 1 = .ok (.invokespecial 1, 3) := by decide +kernel
theorem d11_4 : decode jdk_30_method_1_code 4 = .ok (.return_, 1) := by decide +kernel
theorem own_pn2 : plainName "java/lang/Record" = true := by first | (simp [plainName, overriddenIn]; done) | decide +kernel
theorem own_ef_rm11 (m : MethodId) (x0 : Addr) : entryFrame m #[(.ref x0)] 1 = mkF m 0 #[.val (.ref x0)] [] := by first | (simp [entryFrame, mkF, argsToLocals, Value.category]; done) | rfl
def Q_rm11 (Z : State) (x0 : Addr) (h0 : Heap) (n0 : Nat) : Option Value → Heap → List Loc → Prop := fun v h L => v = none ∧ Fr n0 L ∧ h = h0
set_option maxRecDepth 65536 in
set_option maxHeartbeats 40000000 in
theorem rm11 (l : Launch) (Z : State) (a0 : Array Value) (hw : ∀ d ∈ tables_1, d.before a0 Z = true) (ws : List Jvm.Cond) (x0 : Addr) (h0 : Heap) (n0 : Nat) (Z0 : n0 ≤ h0.size)  :
    Ctr l Z (⟨"java/lang/Record", "<init>", "()V"⟩ : MethodName) jdk_30_method_1_code 1 none ws ({ frames := 1, cells := 0, slots := 0, locals := 12 } : Room) #[(.ref x0)] h0 (Q_rm11 Z x0 h0 n0) := by
  refine Ctr.intro (plainFor_of_name own_pn2) ?_
  intro p e s m below meth c s₁ hx hby hml hown hnm hret hlk hZ X0 e0
  have hown : s.vm.findClass "java/lang/Record" = some m.cls := hown
  have hml : c.maxLocals = 1 := hml
  have N0 := Fr.nil n0
  refine Go.cast (own_ef_rm11 m x0) ?_
  show Go p e below s₁ (mkF m 0 #[.val (.ref x0)] []) _
  refine Go.of (fun _ k => XS.aloadN X0.here hx rfl (hb hby d11_0) rfl rfl  k) ?_
  show Go p e below s₁ (mkF m 1 #[.val (.ref x0)] [(.ref x0)]) _
  obtain ⟨T1, X1, e1, st1⟩ := initO X0 hx hZ hown (hw _ (List.mem_of_getElem? (i := 54) rfl)) (hw _ (List.mem_of_getElem? (i := 22) rfl)) (hw _ (List.mem_of_getElem? (i := 23) rfl)) e0 (g := (mkF m 1 #[.val (.ref x0)] [(.ref x0)])) rfl (by rw [hml]; rfl) rfl (hb hby d11_1) (by decide) (W := 0) (by show 2 * 0 + _ ≤ _; exact Nat.le_of_eq rfl) (by decide)
  refine Go.of (fun _ k => st1 _ k) ?_
  show Go p e below T1 (mkF m 4 #[.val (.ref x0)] []) _
  refine Go.ret0 X1 hx hret hlk (hb hby d11_4) e1 (by decide) (by decide) ?_
  exact ⟨rfl, N0, rfl⟩
theorem d10_0 : decode prog_52_method_1_code 0 = .ok (.aload_n 0, 1) := by decide +kernel
theorem d10_1 : decode prog_52_method_1_code 1 = .ok (.invokespecial 1, 3) := by decide +kernel
theorem own_pd4 : parseMethodDescriptor "()V" = some ⟨[], none⟩ := by decide +kernel
theorem d10_4 : decode prog_52_method_1_code 4 = .ok (.aload_n 0, 1) := by decide +kernel
theorem d10_5 : decode prog_52_method_1_code 5 = .ok (.aload_n 1, 1) := by decide +kernel
theorem d10_6 : decode prog_52_method_1_code 6 = .ok (.putfield 7, 3) := by decide +kernel
theorem d10_9 : decode prog_52_method_1_code 9 = .ok (.aload_n 0, 1) := by decide +kernel
theorem d10_10 : decode prog_52_method_1_code 10 = .ok (.aload_n 2, 1) := by decide +kernel
theorem d10_11 : decode prog_52_method_1_code 11 = .ok (.putfield 13, 3) := by decide +kernel
theorem d10_14 : decode prog_52_method_1_code 14 = .ok (.return_, 1) := by decide +kernel
theorem own_pn3 : plainName "com/example/cascadex/cascadex/Letter$OfText" = true := by first | (simp [plainName, overriddenIn]; done) | decide +kernel
theorem own_ef_rm10 (m : MethodId) (x0 : Addr) (x1 : Addr) (x2 : Addr) : entryFrame m #[(.ref x0), (.ref x1), (.ref x2)] 3 = mkF m 0 #[.val (.ref x0), .val (.ref x1), .val (.ref x2)] [] := by first | (simp [entryFrame, mkF, argsToLocals, Value.category]; done) | rfl
def Q_rm10 (Z : State) (x0 x1 x2 : Addr) (h0 : Heap) (n0 : Nat) : Option Value → Heap → List Loc → Prop := fun v h L => v = none ∧ Fr n0 L ∧ Keep h0 h [x0] ∧ Exa Z h x0 "com/example/cascadex/cascadex/Letter$OfText" ∧ Fld Z h x0 "com/example/cascadex/cascadex/Letter$OfText" "type" "Ljava/lang/String;" (.ref x1) ∧ Fld Z h x0 "com/example/cascadex/cascadex/Letter$OfText" "text" "Ljava/lang/String;" (.ref x2)
set_option maxRecDepth 65536 in
set_option maxHeartbeats 40000000 in
theorem rm10 (l : Launch) (Z : State) (a0 : Array Value) (hw : ∀ d ∈ tables_1, d.before a0 Z = true) (ws : List Jvm.Cond) (x0 x1 x2 : Addr) (h0 : Heap) (n0 : Nat) (Z0 : n0 ≤ h0.size) (g0 : n0 ≤ x0) (E_x0 : Exa Z h0 x0 "com/example/cascadex/cascadex/Letter$OfText") (F_type : Fld Z h0 x0 "com/example/cascadex/cascadex/Letter$OfText" "type" "Ljava/lang/String;" .null) (F_text : Fld Z h0 x0 "com/example/cascadex/cascadex/Letter$OfText" "text" "Ljava/lang/String;" .null) :
    Ctr l Z (⟨"com/example/cascadex/cascadex/Letter$OfText", "<init>", "(Ljava/lang/String;Ljava/lang/String;)V"⟩ : MethodName) prog_52_method_1_code 3 none ws ({ frames := 2, cells := 0, slots := 0, locals := 24 } : Room) #[(.ref x0), (.ref x1), (.ref x2)] h0 (Q_rm10 Z x0 x1 x2 h0 n0) := by
  refine Ctr.intro (plainFor_of_name own_pn3) ?_
  intro p e s m below meth c s₁ hx hby hml hown hnm hret hlk hZ X0 e0
  have hown : s.vm.findClass "com/example/cascadex/cascadex/Letter$OfText" = some m.cls := hown
  have hml : c.maxLocals = 3 := hml
  have N0 := Fr.nil n0
  refine Go.cast (own_ef_rm10 m x0 x1 x2) ?_
  have KK := Keep.refl h0 [x0]
  show Go p e below s₁ (mkF m 0 #[.val (.ref x0), .val (.ref x1), .val (.ref x2)] []) _
  refine Go.of (fun _ k => XS.aloadN X0.here hx rfl (hb hby d10_0) rfl rfl  k) ?_
  show Go p e below s₁ (mkF m 1 #[.val (.ref x0), .val (.ref x1), .val (.ref x2)] [(.ref x0)]) _
  obtain ⟨_, _, ⟨T1, L1, kq1, nq1⟩, -, X1, ⟨Lc1, hQ1, l1, y1, z1⟩, st1⟩ := X0.specialBack hx (y := (⟨"java/lang/Record", "<init>", "()V"⟩ : MethodName)) rfl hown (mvT hZ (hw _ (List.mem_of_getElem? (i := 49) rfl))) (mvT hZ (hw _ (List.mem_of_getElem? (i := 50) rfl))) (mvT hZ (hw _ (List.mem_of_getElem? (i := 53) rfl))) (by decide) (backOf (W := 0) (rm11 l Z a0 hw [] x0 h0 n0 Z0 ) hZ (hw _ (List.mem_of_getElem? (i := 53) rfl)) (hw _ (List.mem_of_getElem? (i := 52) rfl)) (by decide) (by decide)) (g := (mkF m 1 #[.val (.ref x0), .val (.ref x1), .val (.ref x2)] [(.ref x0)])) rfl (by rw [hml]; rfl) (Steps.refl _) (a := x0) (argsL := []) (rest := []) (lenOf own_pd4 rfl) rfl (by show 2 * 0 + _ ≤ _; exact Nat.le_of_eq rfl) (hb hby d10_1) (fun _ _ => ⟨rfl, e0, (by decide : 0 + 0 ≤ _), (by decide : 0 + 0 ≤ _)⟩)
  dsimp only [Pt.U, Pt.locs, Pt.cells, Pt.slots] at X1 l1 y1 z1 st1 hQ1
  subst l1 y1 z1
  obtain ⟨rfl, Nq1, e1⟩ := hQ1
  have e1 := e1.trans rfl
  have N1 := Fr.app N0 Nq1
  refine Go.of (fun _ k => st1.trans k) ?_
  show Go p e below T1 (mkF m 4 #[.val (.ref x0), .val (.ref x1), .val (.ref x2)] []) _
  refine Go.of (fun _ k => XS.aloadN X1.here hx rfl (hb hby d10_4) rfl rfl  k) ?_
  show Go p e below T1 (mkF m 5 #[.val (.ref x0), .val (.ref x1), .val (.ref x2)] [(.ref x0)]) _
  refine Go.of (fun _ k => XS.aloadN X1.here hx rfl (hb hby d10_5) rfl rfl  k) ?_
  show Go p e below T1 (mkF m 6 #[.val (.ref x0), .val (.ref x1), .val (.ref x2)] [(.ref x1), (.ref x0)]) _
  obtain ⟨T2, h2, X2, e2, W2, st2⟩ := putF X1 hx hZ hown (host := "") (Or.inl (hw _ (List.mem_of_getElem? (i := 55) rfl))) Via.refl e1 F_type E_x0 (Or.inr ⟨(hw _ (List.mem_of_getElem? (i := 56) rfl)), rfl, hnm⟩) (hw _ (List.mem_of_getElem? (i := 1) rfl)) (ty := (.object "java/lang/String")) (by decide) rfl rfl (g := (mkF m 6 #[.val (.ref x0), .val (.ref x1), .val (.ref x2)] [(.ref x1), (.ref x0)])) rfl rfl (hb hby d10_6)
  have N2 := Fr.snoc X2 N1 g0
  have F_type := F_type.same W2
  have KK := KK.wr W2 (Or.inl (List.mem_of_getElem? (i := 0) rfl))
  have E_x0 := E_x0.wr W2
  have Z0 := Nat.le_trans Z0 (Keep.of_wr W2).1
  have F_text := F_text.other W2 (Or.inr (slot_ne (Or.inr (hw _ (List.mem_of_getElem? (i := 58) rfl))) (Or.inr (hw _ (List.mem_of_getElem? (i := 56) rfl))) (by decide) (t := (.object "java/lang/String")) (t' := (.object "java/lang/String")) (by decide) (by decide)))
  refine Go.of (fun _ k => st2 _ k) ?_
  show Go p e below T2 (mkF m 9 #[.val (.ref x0), .val (.ref x1), .val (.ref x2)] []) _
  refine Go.of (fun _ k => XS.aloadN X2.here hx rfl (hb hby d10_9) rfl rfl  k) ?_
  show Go p e below T2 (mkF m 10 #[.val (.ref x0), .val (.ref x1), .val (.ref x2)] [(.ref x0)]) _
  refine Go.of (fun _ k => XS.aloadN X2.here hx rfl (hb hby d10_10) rfl rfl  k) ?_
  show Go p e below T2 (mkF m 11 #[.val (.ref x0), .val (.ref x1), .val (.ref x2)] [(.ref x2), (.ref x0)]) _
  obtain ⟨T3, h3, X3, e3, W3, st3⟩ := putF X2 hx hZ hown (host := "") (Or.inl (hw _ (List.mem_of_getElem? (i := 57) rfl))) Via.refl e2 F_text E_x0 (Or.inr ⟨(hw _ (List.mem_of_getElem? (i := 58) rfl)), rfl, hnm⟩) (hw _ (List.mem_of_getElem? (i := 1) rfl)) (ty := (.object "java/lang/String")) (by decide) rfl rfl (g := (mkF m 11 #[.val (.ref x0), .val (.ref x1), .val (.ref x2)] [(.ref x2), (.ref x0)])) rfl rfl (hb hby d10_11)
  have N3 := Fr.snoc X3 N2 g0
  have F_text := F_text.same W3
  have KK := KK.wr W3 (Or.inl (List.mem_of_getElem? (i := 0) rfl))
  have E_x0 := E_x0.wr W3
  have Z0 := Nat.le_trans Z0 (Keep.of_wr W3).1
  have F_type := F_type.other W3 (Or.inr (slot_ne (Or.inr (hw _ (List.mem_of_getElem? (i := 56) rfl))) (Or.inr (hw _ (List.mem_of_getElem? (i := 58) rfl))) (by decide) (t := (.object "java/lang/String")) (t' := (.object "java/lang/String")) (by decide) (by decide)))
  refine Go.of (fun _ k => st3 _ k) ?_
  show Go p e below T3 (mkF m 14 #[.val (.ref x0), .val (.ref x1), .val (.ref x2)] []) _
  refine Go.ret0 X3 hx hret hlk (hb hby d10_14) e3 (by decide) (by decide) ?_
  exact ⟨rfl, N3, KK, E_x0, F_type, F_text⟩
theorem d16_0 : decode prog_51_method_1_code 0 = .ok (.aload_n 0, 1) := by decide +kernel
theorem d16_1 : decode prog_51_method_1_code 1 = .ok (.invokespecial 1, 3) := by decide +kernel
theorem d16_4 : decode prog_51_method_1_code 4 = .ok (.aload_n 0, 1) := by decide +kernel
theorem d16_5 : decode prog_51_method_1_code 5 = .ok (.aload_n 1, 1) := by decide +kernel
theorem d16_6 : decode prog_51_method_1_code 6 = .ok (.putfield 7, 3) := by decide +kernel
theorem d16_9 : decode prog_51_method_1_code 9 = .ok (.return_, 1) := by decide +kernel
theorem own_pn4 : plainName "com/example/cascadex/cascadex/Letter$OfTag" = true := by first | (simp [plainName, overriddenIn]; done) | decide +kernel
theorem own_ef_rm16 (m : MethodId) (x0 : Addr) (x1 : Addr) : entryFrame m #[(.ref x0), (.ref x1)] 2 = mkF m 0 #[.val (.ref x0), .val (.ref x1)] [] := by first | (simp [entryFrame, mkF, argsToLocals, Value.category]; done) | rfl
def Q_rm16 (Z : State) (x0 x1 : Addr) (h0 : Heap) (n0 : Nat) : Option Value → Heap → List Loc → Prop := fun v h L => v = none ∧ Fr n0 L ∧ Keep h0 h [x0] ∧ Exa Z h x0 "com/example/cascadex/cascadex/Letter$OfTag" ∧ Fld Z h x0 "com/example/cascadex/cascadex/Letter$OfTag" "name" "Ljava/lang/String;" (.ref x1)
set_option maxRecDepth 65536 in
set_option maxHeartbeats 40000000 in
theorem rm16 (l : Launch) (Z : State) (a0 : Array Value) (hw : ∀ d ∈ tables_1, d.before a0 Z = true) (ws : List Jvm.Cond) (x0 x1 : Addr) (h0 : Heap) (n0 : Nat) (Z0 : n0 ≤ h0.size) (g0 : n0 ≤ x0) (E_x0 : Exa Z h0 x0 "com/example/cascadex/cascadex/Letter$OfTag") (F_name : Fld Z h0 x0 "com/example/cascadex/cascadex/Letter$OfTag" "name" "Ljava/lang/String;" .null) :
    Ctr l Z (⟨"com/example/cascadex/cascadex/Letter$OfTag", "<init>", "(Ljava/lang/String;)V"⟩ : MethodName) prog_51_method_1_code 2 none ws ({ frames := 2, cells := 0, slots := 0, locals := 24 } : Room) #[(.ref x0), (.ref x1)] h0 (Q_rm16 Z x0 x1 h0 n0) := by
  refine Ctr.intro (plainFor_of_name own_pn4) ?_
  intro p e s m below meth c s₁ hx hby hml hown hnm hret hlk hZ X0 e0
  have hown : s.vm.findClass "com/example/cascadex/cascadex/Letter$OfTag" = some m.cls := hown
  have hml : c.maxLocals = 2 := hml
  have N0 := Fr.nil n0
  refine Go.cast (own_ef_rm16 m x0 x1) ?_
  have KK := Keep.refl h0 [x0]
  show Go p e below s₁ (mkF m 0 #[.val (.ref x0), .val (.ref x1)] []) _
  refine Go.of (fun _ k => XS.aloadN X0.here hx rfl (hb hby d16_0) rfl rfl  k) ?_
  show Go p e below s₁ (mkF m 1 #[.val (.ref x0), .val (.ref x1)] [(.ref x0)]) _
  obtain ⟨_, _, ⟨T1, L1, kq1, nq1⟩, -, X1, ⟨Lc1, hQ1, l1, y1, z1⟩, st1⟩ := X0.specialBack hx (y := (⟨"java/lang/Record", "<init>", "()V"⟩ : MethodName)) rfl hown (mvT hZ (hw _ (List.mem_of_getElem? (i := 85) rfl))) (mvT hZ (hw _ (List.mem_of_getElem? (i := 50) rfl))) (mvT hZ (hw _ (List.mem_of_getElem? (i := 53) rfl))) (by decide) (backOf (W := 0) (rm11 l Z a0 hw [] x0 h0 n0 Z0 ) hZ (hw _ (List.mem_of_getElem? (i := 53) rfl)) (hw _ (List.mem_of_getElem? (i := 52) rfl)) (by decide) (by decide)) (g := (mkF m 1 #[.val (.ref x0), .val (.ref x1)] [(.ref x0)])) rfl (by rw [hml]; rfl) (Steps.refl _) (a := x0) (argsL := []) (rest := []) (lenOf own_pd4 rfl) rfl (by show 2 * 0 + _ ≤ _; exact Nat.le_of_eq rfl) (hb hby d16_1) (fun _ _ => ⟨rfl, e0, (by decide : 0 + 0 ≤ _), (by decide : 0 + 0 ≤ _)⟩)
  dsimp only [Pt.U, Pt.locs, Pt.cells, Pt.slots] at X1 l1 y1 z1 st1 hQ1
  subst l1 y1 z1
  obtain ⟨rfl, Nq1, e1⟩ := hQ1
  have e1 := e1.trans rfl
  have N1 := Fr.app N0 Nq1
  refine Go.of (fun _ k => st1.trans k) ?_
  show Go p e below T1 (mkF m 4 #[.val (.ref x0), .val (.ref x1)] []) _
  refine Go.of (fun _ k => XS.aloadN X1.here hx rfl (hb hby d16_4) rfl rfl  k) ?_
  show Go p e below T1 (mkF m 5 #[.val (.ref x0), .val (.ref x1)] [(.ref x0)]) _
  refine Go.of (fun _ k => XS.aloadN X1.here hx rfl (hb hby d16_5) rfl rfl  k) ?_
  show Go p e below T1 (mkF m 6 #[.val (.ref x0), .val (.ref x1)] [(.ref x1), (.ref x0)]) _
  obtain ⟨T2, h2, X2, e2, W2, st2⟩ := putF X1 hx hZ hown (host := "") (Or.inl (hw _ (List.mem_of_getElem? (i := 86) rfl))) Via.refl e1 F_name E_x0 (Or.inr ⟨(hw _ (List.mem_of_getElem? (i := 87) rfl)), rfl, hnm⟩) (hw _ (List.mem_of_getElem? (i := 80) rfl)) (ty := (.object "java/lang/String")) (by decide) rfl rfl (g := (mkF m 6 #[.val (.ref x0), .val (.ref x1)] [(.ref x1), (.ref x0)])) rfl rfl (hb hby d16_6)
  have N2 := Fr.snoc X2 N1 g0
  have F_name := F_name.same W2
  have KK := KK.wr W2 (Or.inl (List.mem_of_getElem? (i := 0) rfl))
  have E_x0 := E_x0.wr W2
  have Z0 := Nat.le_trans Z0 (Keep.of_wr W2).1
  refine Go.of (fun _ k => st2 _ k) ?_
  show Go p e below T2 (mkF m 9 #[.val (.ref x0), .val (.ref x1)] []) _
  refine Go.ret0 X2 hx hret hlk (hb hby d16_9) e2 (by decide) (by decide) ?_
  exact ⟨rfl, N2, KK, E_x0, F_name⟩
theorem d12_0 : decode method_5_code 0 = .ok (.iload_n 0, 1) := by decide +kernel
theorem d12_1 : decode method_5_code 1 = .ok (.invokestatic 7, 3) := by decide +kernel
theorem d12_4 : decode method_5_code 4 = .ok (.istore_n 2, 1) := by decide +kernel
theorem d12_5 : decode method_5_code 5 = .ok (.iload_n 2, 1) := by decide +kernel
theorem d12_6 : decode method_5_code 6 = .ok (.iload_n 1, 1) := by decide +kernel
theorem d12_7 : decode method_5_code 7 = .ok (.invokestatic 7, 3) := by decide +kernel
theorem d12_10 : decode method_5_code 10 = .ok (.if_icmp .eq 5, 3) := by decide +kernel
theorem d12_15 : decode method_5_code 15 = .ok (.iload_n 2, 1) := by decide +kernel
theorem d12_16 : decode method_5_code 16 = .ok (.iconst 1, 1) := by decide +kernel
theorem d12_17 : decode method_5_code 17 = .ok (.if_icmp .lt 18, 3) := by decide +kernel
theorem d12_35 : decode method_5_code 35 = .ok (.iload_n 2, 1) := by decide +kernel
theorem d12_36 : decode method_5_code 36 = .ok (.iconst 2, 1) := by decide +kernel
theorem d12_37 : decode method_5_code 37 = .ok (.if_icmp .lt 18, 3) := by decide +kernel
theorem d12_55 : decode method_5_code 55 = .ok (.iload_n 2, 1) := by decide +kernel
theorem d12_56 : decode method_5_code 56 = .ok (.iconst 3, 1) := by decide +kernel
theorem d12_57 : decode method_5_code 57 = .ok (.if_icmp .lt 18, 3) := by decide +kernel
theorem d12_75 : decode method_5_code 75 = .ok (.iconst 1, 1) := by decide +kernel
theorem d12_76 : decode method_5_code 76 = .ok (.ireturn, 1) := by decide +kernel
theorem d12_60 : decode method_5_code 60 = .ok (.iload_n 0, 1) := by decide +kernel
theorem d12_61 : decode method_5_code 61 = .ok (.iconst 2, 1) := by decide +kernel
theorem d12_62 : decode method_5_code 62 = .ok (.invokestatic 18, 3) := by decide +kernel
theorem d12_65 : decode method_5_code 65 = .ok (.iload_n 1, 1) := by decide +kernel
theorem d12_66 : decode method_5_code 66 = .ok (.iconst 2, 1) := by decide +kernel
theorem d12_67 : decode method_5_code 67 = .ok (.invokestatic 18, 3) := by decide +kernel
theorem d12_70 : decode method_5_code 70 = .ok (.if_icmp .eq 5, 3) := by decide +kernel
theorem d12_73 : decode method_5_code 73 = .ok (.iconst 0, 1) := by decide +kernel
theorem d12_74 : decode method_5_code 74 = .ok (.ireturn, 1) := by decide +kernel
theorem d12_40 : decode method_5_code 40 = .ok (.iload_n 0, 1) := by decide +kernel
theorem d12_41 : decode method_5_code 41 = .ok (.iconst 1, 1) := by decide +kernel
theorem d12_42 : decode method_5_code 42 = .ok (.invokestatic 18, 3) := by decide +kernel
theorem d12_45 : decode method_5_code 45 = .ok (.iload_n 1, 1) := by decide +kernel
theorem d12_46 : decode method_5_code 46 = .ok (.iconst 1, 1) := by decide +kernel
theorem d12_47 : decode method_5_code 47 = .ok (.invokestatic 18, 3) := by decide +kernel
theorem d12_50 : decode method_5_code 50 = .ok (.if_icmp .eq 5, 3) := by decide +kernel
theorem d12_53 : decode method_5_code 53 = .ok (.iconst 0, 1) := by decide +kernel
theorem d12_54 : decode method_5_code 54 = .ok (.ireturn, 1) := by decide +kernel
theorem d12_20 : decode method_5_code 20 = .ok (.iload_n 0, 1) := by decide +kernel
theorem d12_21 : decode method_5_code 21 = .ok (.iconst 0, 1) := by decide +kernel
theorem d12_22 : decode method_5_code 22 = .ok (.invokestatic 18, 3) := by decide +kernel
theorem d12_25 : decode method_5_code 25 = .ok (.iload_n 1, 1) := by decide +kernel
theorem d12_26 : decode method_5_code 26 = .ok (.iconst 0, 1) := by decide +kernel
theorem d12_27 : decode method_5_code 27 = .ok (.invokestatic 18, 3) := by decide +kernel
theorem d12_30 : decode method_5_code 30 = .ok (.if_icmp .eq 5, 3) := by decide +kernel
theorem d12_33 : decode method_5_code 33 = .ok (.iconst 0, 1) := by decide +kernel
theorem d12_34 : decode method_5_code 34 = .ok (.ireturn, 1) := by decide +kernel
theorem d12_13 : decode method_5_code 13 = .ok (.iconst 0, 1) := by decide +kernel
theorem d12_14 : decode method_5_code 14 = .ok (.ireturn, 1) := by decide +kernel
theorem own_ef_rm12 (m : MethodId) (x0 : Int32) (x1 : Int32) : entryFrame m #[(.int x0), (.int x1)] 3 = mkF m 0 #[.val (.int x0), .val (.int x1), .unset] [] := by first | (simp [entryFrame, mkF, argsToLocals, Value.category]; done) | rfl
def Q_rm12 (Z : State) (x0 x1 : Int32) (h0 : Heap) (n0 : Nat) : Option Value → Heap → List Loc → Prop := fun v h L => v = some (.int (fSame x0 x1)) ∧ Fr n0 L ∧ h = h0
set_option maxRecDepth 65536 in
set_option maxHeartbeats 40000000 in
theorem rm12 (l : Launch) (Z : State) (a0 : Array Value) (hw : ∀ d ∈ tables_1, d.before a0 Z = true) (ws : List Jvm.Cond) (x0 x1 : Int32) (h0 : Heap) (n0 : Nat) (Z0 : n0 ≤ h0.size)  :
    Ctr l Z (⟨"com/example/cascadex/cascadex/OfTextEqualsPinLaw", "same", "(II)Z"⟩ : MethodName) method_5_code 3 (some .boolean) ws ({ frames := 1, cells := 0, slots := 0, locals := 14 } : Room) #[(.int x0), (.int x1)] h0 (Q_rm12 Z x0 x1 h0 n0) := by
  refine Ctr.intro (plainFor_of_name own_pn1) ?_
  intro p e s m below meth c s₁ hx hby hml hown hnm hret hlk hZ X0 e0
  have hown : s.vm.findClass "com/example/cascadex/cascadex/OfTextEqualsPinLaw" = some m.cls := hown
  have hml : c.maxLocals = 3 := hml
  have N0 := Fr.nil n0
  refine Go.cast (own_ef_rm12 m x0 x1) ?_
  show Go p e below s₁ (mkF m 0 #[.val (.int x0), .val (.int x1), .unset] []) _
  refine Go.of (fun _ k => XS.iloadN X0.here hx rfl (hb hby d12_0) rfl  k) ?_
  show Go p e below s₁ (mkF m 1 #[.val (.int x0), .val (.int x1), .unset] [(.int x0)]) _
  obtain ⟨_, _, ⟨T1, L1, kq1, nq1⟩, -, X1, ⟨Lc1, hQ1, l1, y1, z1⟩, st1⟩ := Jvm.LawKit.callS X0 hx (y := (⟨"com/example/cascadex/cascadex/OfTextEqualsPinLaw", "len", "(I)I"⟩ : MethodName)) hown (mvT hZ (hw _ (List.mem_of_getElem? (i := 7) rfl))) (mvT hZ (hw _ (List.mem_of_getElem? (i := 8) rfl))) (mvT hZ (hw _ (List.mem_of_getElem? (i := 5) rfl))) (mvT hZ (hw _ (List.mem_of_getElem? (i := 9) rfl))) (by decide) (backOf (W := 0) (rm2 l Z a0 hw [] x0 h0 n0 Z0 ) hZ (hw _ (List.mem_of_getElem? (i := 9) rfl)) (hw _ (List.mem_of_getElem? (i := 5) rfl)) (by decide) (by decide)) (g := (mkF m 1 #[.val (.int x0), .val (.int x1), .unset] [(.int x0)])) rfl (by rw [hml]; rfl) (argsL := [(.int x0)]) (rest := []) (lenOf own_pd1 rfl) rfl (by show 2 * 0 + _ ≤ _; exact Nat.le_of_eq rfl) (hb hby d12_1) (fun _ _ => ⟨rfl, e0, (by decide : 0 + 0 ≤ _), (by decide : 0 + 0 ≤ _)⟩)
  dsimp only [Pt.U, Pt.locs, Pt.cells, Pt.slots] at X1 l1 y1 z1 st1 hQ1
  subst l1 y1 z1
  obtain ⟨rfl, Nq1, e1⟩ := hQ1
  have e1 := e1.trans rfl
  have N1 := Fr.app N0 Nq1
  refine Go.of (fun _ k => st1 _ k) ?_
  show Go p e below T1 (mkF m 4 #[.val (.int x0), .val (.int x1), .unset] [(.int (x0 &&& (3 : Int32)))]) _
  refine Go.of (fun _ k => XS.istoreN X1.here hx rfl (hb hby d12_4) rfl (l' := #[.val (.int x0), .val (.int x1), .val (.int (x0 &&& (3 : Int32)))]) rfl k) ?_
  show Go p e below T1 (mkF m 5 #[.val (.int x0), .val (.int x1), .val (.int (x0 &&& (3 : Int32)))] []) _
  refine Go.of (fun _ k => XS.iloadN X1.here hx rfl (hb hby d12_5) rfl  k) ?_
  show Go p e below T1 (mkF m 6 #[.val (.int x0), .val (.int x1), .val (.int (x0 &&& (3 : Int32)))] [(.int (x0 &&& (3 : Int32)))]) _
  refine Go.of (fun _ k => XS.iloadN X1.here hx rfl (hb hby d12_6) rfl  k) ?_
  show Go p e below T1 (mkF m 7 #[.val (.int x0), .val (.int x1), .val (.int (x0 &&& (3 : Int32)))] [(.int x1), (.int (x0 &&& (3 : Int32)))]) _
  obtain ⟨_, _, ⟨T2, L2, kq2, nq2⟩, -, X2, ⟨Lc2, hQ2, l2, y2, z2⟩, st2⟩ := Jvm.LawKit.callS X1 hx (y := (⟨"com/example/cascadex/cascadex/OfTextEqualsPinLaw", "len", "(I)I"⟩ : MethodName)) hown (mvT hZ (hw _ (List.mem_of_getElem? (i := 7) rfl))) (mvT hZ (hw _ (List.mem_of_getElem? (i := 8) rfl))) (mvT hZ (hw _ (List.mem_of_getElem? (i := 5) rfl))) (mvT hZ (hw _ (List.mem_of_getElem? (i := 9) rfl))) (by decide) (backOf (W := 1) (rm2 l Z a0 hw [] x1 h0 n0 Z0 ) hZ (hw _ (List.mem_of_getElem? (i := 9) rfl)) (hw _ (List.mem_of_getElem? (i := 5) rfl)) (by decide) (by decide)) (g := (mkF m 7 #[.val (.int x0), .val (.int x1), .val (.int (x0 &&& (3 : Int32)))] [(.int x1), (.int (x0 &&& (3 : Int32)))])) rfl (by rw [hml]; rfl) (argsL := [(.int x1)]) (rest := [(.int (x0 &&& (3 : Int32)))]) (lenOf own_pd1 rfl) rfl (by show 2 * 0 + _ ≤ _; exact Nat.le_of_eq rfl) (hb hby d12_7) (fun _ _ => ⟨rfl, e1, (by decide : 0 + 0 ≤ _), (by decide : 0 + 0 ≤ _)⟩)
  dsimp only [Pt.U, Pt.locs, Pt.cells, Pt.slots] at X2 l2 y2 z2 st2 hQ2
  subst l2 y2 z2
  obtain ⟨rfl, Nq2, e2⟩ := hQ2
  have e2 := e2.trans rfl
  have N2 := Fr.app N1 Nq2
  refine Go.of (fun _ k => st2 _ k) ?_
  show Go p e below T2 (mkF m 10 #[.val (.int x0), .val (.int x1), .val (.int (x0 &&& (3 : Int32)))] [(.int (x1 &&& (3 : Int32))), (.int (x0 &&& (3 : Int32)))]) _
  by_cases hc10_0 : (x0 &&& (3 : Int32)) = (x1 &&& (3 : Int32))
  · refine Go.of (fun _ k => XS.icmpYes X2.here hx rfl (pc0 := 10) (pc' := 15) rfl (hb hby d12_10) rfl (teq hc10_0).1 (by decide) (by decide) k) ?_
    show Go p e below T2 (mkF m 15 #[.val (.int x0), .val (.int x1), .val (.int (x0 &&& (3 : Int32)))] []) _
    refine Go.of (fun _ k => XS.iloadN X2.here hx rfl (hb hby d12_15) rfl  k) ?_
    show Go p e below T2 (mkF m 16 #[.val (.int x0), .val (.int x1), .val (.int (x0 &&& (3 : Int32)))] [(.int (x0 &&& (3 : Int32)))]) _
    refine Go.of (fun _ k => XS.iconst X2.here hx rfl (hb hby d12_16) k) ?_
    show Go p e below T2 (mkF m 17 #[.val (.int x0), .val (.int x1), .val (.int (x0 &&& (3 : Int32)))] [(.int (1 : Int32)), (.int (x0 &&& (3 : Int32)))]) _
    by_cases hc17_1 : (x0 &&& (3 : Int32)) < (1 : Int32)
    · refine Go.of (fun _ k => XS.icmpYes X2.here hx rfl (pc0 := 17) (pc' := 35) rfl (hb hby d12_17) rfl (tlt hc17_1).1 (by decide) (by decide) k) ?_
      show Go p e below T2 (mkF m 35 #[.val (.int x0), .val (.int x1), .val (.int (x0 &&& (3 : Int32)))] []) _
      refine Go.of (fun _ k => XS.iloadN X2.here hx rfl (hb hby d12_35) rfl  k) ?_
      show Go p e below T2 (mkF m 36 #[.val (.int x0), .val (.int x1), .val (.int (x0 &&& (3 : Int32)))] [(.int (x0 &&& (3 : Int32)))]) _
      refine Go.of (fun _ k => XS.iconst X2.here hx rfl (hb hby d12_36) k) ?_
      show Go p e below T2 (mkF m 37 #[.val (.int x0), .val (.int x1), .val (.int (x0 &&& (3 : Int32)))] [(.int (2 : Int32)), (.int (x0 &&& (3 : Int32)))]) _
      by_cases hc37_2 : (x0 &&& (3 : Int32)) < (2 : Int32)
      · refine Go.of (fun _ k => XS.icmpYes X2.here hx rfl (pc0 := 37) (pc' := 55) rfl (hb hby d12_37) rfl (tlt hc37_2).1 (by decide) (by decide) k) ?_
        show Go p e below T2 (mkF m 55 #[.val (.int x0), .val (.int x1), .val (.int (x0 &&& (3 : Int32)))] []) _
        refine Go.of (fun _ k => XS.iloadN X2.here hx rfl (hb hby d12_55) rfl  k) ?_
        show Go p e below T2 (mkF m 56 #[.val (.int x0), .val (.int x1), .val (.int (x0 &&& (3 : Int32)))] [(.int (x0 &&& (3 : Int32)))]) _
        refine Go.of (fun _ k => XS.iconst X2.here hx rfl (hb hby d12_56) k) ?_
        show Go p e below T2 (mkF m 57 #[.val (.int x0), .val (.int x1), .val (.int (x0 &&& (3 : Int32)))] [(.int (3 : Int32)), (.int (x0 &&& (3 : Int32)))]) _
        by_cases hc57_3 : (x0 &&& (3 : Int32)) < (3 : Int32)
        · refine Go.of (fun _ k => XS.icmpYes X2.here hx rfl (pc0 := 57) (pc' := 75) rfl (hb hby d12_57) rfl (tlt hc57_3).1 (by decide) (by decide) k) ?_
          show Go p e below T2 (mkF m 75 #[.val (.int x0), .val (.int x1), .val (.int (x0 &&& (3 : Int32)))] []) _
          refine Go.of (fun _ k => XS.iconst X2.here hx rfl (hb hby d12_75) k) ?_
          show Go p e below T2 (mkF m 76 #[.val (.int x0), .val (.int x1), .val (.int (x0 &&& (3 : Int32)))] [(.int (1 : Int32))]) _
          refine Go.retN X2 hx (t := .boolean) hret hlk (by simp) (hb hby d12_76) e2 (by decide) (by decide) ?_
          exact ⟨show some (Value.int (1 : Int32)) = _ from by simp only [fSame, own_same]; simp [eq_true hc10_0, eq_true hc17_1, eq_true hc37_2, eq_true hc57_3], N2, rfl⟩
        · refine Go.of (fun _ k => XS.icmpNo X2.here hx rfl (hb hby d12_57) rfl (flt hc57_3).1 k) ?_
          show Go p e below T2 (mkF m 60 #[.val (.int x0), .val (.int x1), .val (.int (x0 &&& (3 : Int32)))] []) _
          refine Go.of (fun _ k => XS.iloadN X2.here hx rfl (hb hby d12_60) rfl  k) ?_
          show Go p e below T2 (mkF m 61 #[.val (.int x0), .val (.int x1), .val (.int (x0 &&& (3 : Int32)))] [(.int x0)]) _
          refine Go.of (fun _ k => XS.iconst X2.here hx rfl (hb hby d12_61) k) ?_
          show Go p e below T2 (mkF m 62 #[.val (.int x0), .val (.int x1), .val (.int (x0 &&& (3 : Int32)))] [(.int (2 : Int32)), (.int x0)]) _
          obtain ⟨_, _, ⟨T3, L3, kq3, nq3⟩, -, X3, ⟨Lc3, hQ3, l3, y3, z3⟩, st3⟩ := Jvm.LawKit.callS X2 hx (y := (⟨"com/example/cascadex/cascadex/OfTextEqualsPinLaw", "ch", "(II)C"⟩ : MethodName)) hown (mvT hZ (hw _ (List.mem_of_getElem? (i := 32) rfl))) (mvT hZ (hw _ (List.mem_of_getElem? (i := 33) rfl))) (mvT hZ (hw _ (List.mem_of_getElem? (i := 5) rfl))) (mvT hZ (hw _ (List.mem_of_getElem? (i := 34) rfl))) (by decide) (backOf (W := 0) (rm6 l Z a0 hw [] x0 (2 : Int32) h0 n0 Z0 ) hZ (hw _ (List.mem_of_getElem? (i := 34) rfl)) (hw _ (List.mem_of_getElem? (i := 5) rfl)) (by decide) (by decide)) (g := (mkF m 62 #[.val (.int x0), .val (.int x1), .val (.int (x0 &&& (3 : Int32)))] [(.int (2 : Int32)), (.int x0)])) rfl (by rw [hml]; rfl) (argsL := [(.int x0), (.int (2 : Int32))]) (rest := []) (lenOf own_pd3 rfl) rfl (by show 2 * 0 + _ ≤ _; exact Nat.le_of_eq rfl) (hb hby d12_62) (fun _ _ => ⟨rfl, e2, (by decide : 0 + 0 ≤ _), (by decide : 0 + 0 ≤ _)⟩)
          dsimp only [Pt.U, Pt.locs, Pt.cells, Pt.slots] at X3 l3 y3 z3 st3 hQ3
          subst l3 y3 z3
          obtain ⟨rfl, Nq3, e3⟩ := hQ3
          have e3 := e3.trans rfl
          have N3 := Fr.app N2 Nq3
          refine Go.of (fun _ k => st3 _ k) ?_
          show Go p e below T3 (mkF m 65 #[.val (.int x0), .val (.int x1), .val (.int (x0 &&& (3 : Int32)))] [(.int (fCh x0 (2 : Int32)))]) _
          refine Go.of (fun _ k => XS.iloadN X3.here hx rfl (hb hby d12_65) rfl  k) ?_
          show Go p e below T3 (mkF m 66 #[.val (.int x0), .val (.int x1), .val (.int (x0 &&& (3 : Int32)))] [(.int x1), (.int (fCh x0 (2 : Int32)))]) _
          refine Go.of (fun _ k => XS.iconst X3.here hx rfl (hb hby d12_66) k) ?_
          show Go p e below T3 (mkF m 67 #[.val (.int x0), .val (.int x1), .val (.int (x0 &&& (3 : Int32)))] [(.int (2 : Int32)), (.int x1), (.int (fCh x0 (2 : Int32)))]) _
          obtain ⟨_, _, ⟨T4, L4, kq4, nq4⟩, -, X4, ⟨Lc4, hQ4, l4, y4, z4⟩, st4⟩ := Jvm.LawKit.callS X3 hx (y := (⟨"com/example/cascadex/cascadex/OfTextEqualsPinLaw", "ch", "(II)C"⟩ : MethodName)) hown (mvT hZ (hw _ (List.mem_of_getElem? (i := 32) rfl))) (mvT hZ (hw _ (List.mem_of_getElem? (i := 33) rfl))) (mvT hZ (hw _ (List.mem_of_getElem? (i := 5) rfl))) (mvT hZ (hw _ (List.mem_of_getElem? (i := 34) rfl))) (by decide) (backOf (W := 1) (rm6 l Z a0 hw [] x1 (2 : Int32) h0 n0 Z0 ) hZ (hw _ (List.mem_of_getElem? (i := 34) rfl)) (hw _ (List.mem_of_getElem? (i := 5) rfl)) (by decide) (by decide)) (g := (mkF m 67 #[.val (.int x0), .val (.int x1), .val (.int (x0 &&& (3 : Int32)))] [(.int (2 : Int32)), (.int x1), (.int (fCh x0 (2 : Int32)))])) rfl (by rw [hml]; rfl) (argsL := [(.int x1), (.int (2 : Int32))]) (rest := [(.int (fCh x0 (2 : Int32)))]) (lenOf own_pd3 rfl) rfl (by show 2 * 0 + _ ≤ _; exact Nat.le_of_eq rfl) (hb hby d12_67) (fun _ _ => ⟨rfl, e3, (by decide : 0 + 0 ≤ _), (by decide : 0 + 0 ≤ _)⟩)
          dsimp only [Pt.U, Pt.locs, Pt.cells, Pt.slots] at X4 l4 y4 z4 st4 hQ4
          subst l4 y4 z4
          obtain ⟨rfl, Nq4, e4⟩ := hQ4
          have e4 := e4.trans rfl
          have N4 := Fr.app N3 Nq4
          refine Go.of (fun _ k => st4 _ k) ?_
          show Go p e below T4 (mkF m 70 #[.val (.int x0), .val (.int x1), .val (.int (x0 &&& (3 : Int32)))] [(.int (fCh x1 (2 : Int32))), (.int (fCh x0 (2 : Int32)))]) _
          by_cases hc70_4 : (fCh x0 (2 : Int32)) = (fCh x1 (2 : Int32))
          · refine Go.of (fun _ k => XS.icmpYes X4.here hx rfl (pc0 := 70) (pc' := 75) rfl (hb hby d12_70) rfl (teq hc70_4).1 (by decide) (by decide) k) ?_
            show Go p e below T4 (mkF m 75 #[.val (.int x0), .val (.int x1), .val (.int (x0 &&& (3 : Int32)))] []) _
            refine Go.of (fun _ k => XS.iconst X4.here hx rfl (hb hby d12_75) k) ?_
            show Go p e below T4 (mkF m 76 #[.val (.int x0), .val (.int x1), .val (.int (x0 &&& (3 : Int32)))] [(.int (1 : Int32))]) _
            refine Go.retN X4 hx (t := .boolean) hret hlk (by simp) (hb hby d12_76) e4 (by decide) (by decide) ?_
            exact ⟨show some (Value.int (1 : Int32)) = _ from by simp only [fSame, own_same]; simp [eq_true hc10_0, eq_true hc17_1, eq_true hc37_2, eq_false hc57_3, eq_true hc70_4], N4, rfl⟩
          · refine Go.of (fun _ k => XS.icmpNo X4.here hx rfl (hb hby d12_70) rfl (feq hc70_4).1 k) ?_
            show Go p e below T4 (mkF m 73 #[.val (.int x0), .val (.int x1), .val (.int (x0 &&& (3 : Int32)))] []) _
            refine Go.of (fun _ k => XS.iconst X4.here hx rfl (hb hby d12_73) k) ?_
            show Go p e below T4 (mkF m 74 #[.val (.int x0), .val (.int x1), .val (.int (x0 &&& (3 : Int32)))] [(.int (0 : Int32))]) _
            refine Go.retN X4 hx (t := .boolean) hret hlk (by simp) (hb hby d12_74) e4 (by decide) (by decide) ?_
            exact ⟨show some (Value.int (0 : Int32)) = _ from by simp only [fSame, own_same]; simp [eq_true hc10_0, eq_true hc17_1, eq_true hc37_2, eq_false hc57_3, eq_false hc70_4], N4, rfl⟩
      · refine Go.of (fun _ k => XS.icmpNo X2.here hx rfl (hb hby d12_37) rfl (flt hc37_2).1 k) ?_
        show Go p e below T2 (mkF m 40 #[.val (.int x0), .val (.int x1), .val (.int (x0 &&& (3 : Int32)))] []) _
        refine Go.of (fun _ k => XS.iloadN X2.here hx rfl (hb hby d12_40) rfl  k) ?_
        show Go p e below T2 (mkF m 41 #[.val (.int x0), .val (.int x1), .val (.int (x0 &&& (3 : Int32)))] [(.int x0)]) _
        refine Go.of (fun _ k => XS.iconst X2.here hx rfl (hb hby d12_41) k) ?_
        show Go p e below T2 (mkF m 42 #[.val (.int x0), .val (.int x1), .val (.int (x0 &&& (3 : Int32)))] [(.int (1 : Int32)), (.int x0)]) _
        obtain ⟨_, _, ⟨T5, L5, kq5, nq5⟩, -, X5, ⟨Lc5, hQ5, l5, y5, z5⟩, st5⟩ := Jvm.LawKit.callS X2 hx (y := (⟨"com/example/cascadex/cascadex/OfTextEqualsPinLaw", "ch", "(II)C"⟩ : MethodName)) hown (mvT hZ (hw _ (List.mem_of_getElem? (i := 32) rfl))) (mvT hZ (hw _ (List.mem_of_getElem? (i := 33) rfl))) (mvT hZ (hw _ (List.mem_of_getElem? (i := 5) rfl))) (mvT hZ (hw _ (List.mem_of_getElem? (i := 34) rfl))) (by decide) (backOf (W := 0) (rm6 l Z a0 hw [] x0 (1 : Int32) h0 n0 Z0 ) hZ (hw _ (List.mem_of_getElem? (i := 34) rfl)) (hw _ (List.mem_of_getElem? (i := 5) rfl)) (by decide) (by decide)) (g := (mkF m 42 #[.val (.int x0), .val (.int x1), .val (.int (x0 &&& (3 : Int32)))] [(.int (1 : Int32)), (.int x0)])) rfl (by rw [hml]; rfl) (argsL := [(.int x0), (.int (1 : Int32))]) (rest := []) (lenOf own_pd3 rfl) rfl (by show 2 * 0 + _ ≤ _; exact Nat.le_of_eq rfl) (hb hby d12_42) (fun _ _ => ⟨rfl, e2, (by decide : 0 + 0 ≤ _), (by decide : 0 + 0 ≤ _)⟩)
        dsimp only [Pt.U, Pt.locs, Pt.cells, Pt.slots] at X5 l5 y5 z5 st5 hQ5
        subst l5 y5 z5
        obtain ⟨rfl, Nq5, e5⟩ := hQ5
        have e5 := e5.trans rfl
        have N5 := Fr.app N2 Nq5
        refine Go.of (fun _ k => st5 _ k) ?_
        show Go p e below T5 (mkF m 45 #[.val (.int x0), .val (.int x1), .val (.int (x0 &&& (3 : Int32)))] [(.int (fCh x0 (1 : Int32)))]) _
        refine Go.of (fun _ k => XS.iloadN X5.here hx rfl (hb hby d12_45) rfl  k) ?_
        show Go p e below T5 (mkF m 46 #[.val (.int x0), .val (.int x1), .val (.int (x0 &&& (3 : Int32)))] [(.int x1), (.int (fCh x0 (1 : Int32)))]) _
        refine Go.of (fun _ k => XS.iconst X5.here hx rfl (hb hby d12_46) k) ?_
        show Go p e below T5 (mkF m 47 #[.val (.int x0), .val (.int x1), .val (.int (x0 &&& (3 : Int32)))] [(.int (1 : Int32)), (.int x1), (.int (fCh x0 (1 : Int32)))]) _
        obtain ⟨_, _, ⟨T6, L6, kq6, nq6⟩, -, X6, ⟨Lc6, hQ6, l6, y6, z6⟩, st6⟩ := Jvm.LawKit.callS X5 hx (y := (⟨"com/example/cascadex/cascadex/OfTextEqualsPinLaw", "ch", "(II)C"⟩ : MethodName)) hown (mvT hZ (hw _ (List.mem_of_getElem? (i := 32) rfl))) (mvT hZ (hw _ (List.mem_of_getElem? (i := 33) rfl))) (mvT hZ (hw _ (List.mem_of_getElem? (i := 5) rfl))) (mvT hZ (hw _ (List.mem_of_getElem? (i := 34) rfl))) (by decide) (backOf (W := 1) (rm6 l Z a0 hw [] x1 (1 : Int32) h0 n0 Z0 ) hZ (hw _ (List.mem_of_getElem? (i := 34) rfl)) (hw _ (List.mem_of_getElem? (i := 5) rfl)) (by decide) (by decide)) (g := (mkF m 47 #[.val (.int x0), .val (.int x1), .val (.int (x0 &&& (3 : Int32)))] [(.int (1 : Int32)), (.int x1), (.int (fCh x0 (1 : Int32)))])) rfl (by rw [hml]; rfl) (argsL := [(.int x1), (.int (1 : Int32))]) (rest := [(.int (fCh x0 (1 : Int32)))]) (lenOf own_pd3 rfl) rfl (by show 2 * 0 + _ ≤ _; exact Nat.le_of_eq rfl) (hb hby d12_47) (fun _ _ => ⟨rfl, e5, (by decide : 0 + 0 ≤ _), (by decide : 0 + 0 ≤ _)⟩)
        dsimp only [Pt.U, Pt.locs, Pt.cells, Pt.slots] at X6 l6 y6 z6 st6 hQ6
        subst l6 y6 z6
        obtain ⟨rfl, Nq6, e6⟩ := hQ6
        have e6 := e6.trans rfl
        have N6 := Fr.app N5 Nq6
        refine Go.of (fun _ k => st6 _ k) ?_
        show Go p e below T6 (mkF m 50 #[.val (.int x0), .val (.int x1), .val (.int (x0 &&& (3 : Int32)))] [(.int (fCh x1 (1 : Int32))), (.int (fCh x0 (1 : Int32)))]) _
        by_cases hc50_3 : (fCh x0 (1 : Int32)) = (fCh x1 (1 : Int32))
        · refine Go.of (fun _ k => XS.icmpYes X6.here hx rfl (pc0 := 50) (pc' := 55) rfl (hb hby d12_50) rfl (teq hc50_3).1 (by decide) (by decide) k) ?_
          show Go p e below T6 (mkF m 55 #[.val (.int x0), .val (.int x1), .val (.int (x0 &&& (3 : Int32)))] []) _
          refine Go.of (fun _ k => XS.iloadN X6.here hx rfl (hb hby d12_55) rfl  k) ?_
          show Go p e below T6 (mkF m 56 #[.val (.int x0), .val (.int x1), .val (.int (x0 &&& (3 : Int32)))] [(.int (x0 &&& (3 : Int32)))]) _
          refine Go.of (fun _ k => XS.iconst X6.here hx rfl (hb hby d12_56) k) ?_
          show Go p e below T6 (mkF m 57 #[.val (.int x0), .val (.int x1), .val (.int (x0 &&& (3 : Int32)))] [(.int (3 : Int32)), (.int (x0 &&& (3 : Int32)))]) _
          by_cases hc57_4 : (x0 &&& (3 : Int32)) < (3 : Int32)
          · refine Go.of (fun _ k => XS.icmpYes X6.here hx rfl (pc0 := 57) (pc' := 75) rfl (hb hby d12_57) rfl (tlt hc57_4).1 (by decide) (by decide) k) ?_
            show Go p e below T6 (mkF m 75 #[.val (.int x0), .val (.int x1), .val (.int (x0 &&& (3 : Int32)))] []) _
            refine Go.of (fun _ k => XS.iconst X6.here hx rfl (hb hby d12_75) k) ?_
            show Go p e below T6 (mkF m 76 #[.val (.int x0), .val (.int x1), .val (.int (x0 &&& (3 : Int32)))] [(.int (1 : Int32))]) _
            refine Go.retN X6 hx (t := .boolean) hret hlk (by simp) (hb hby d12_76) e6 (by decide) (by decide) ?_
            exact ⟨show some (Value.int (1 : Int32)) = _ from by simp only [fSame, own_same]; simp [eq_true hc10_0, eq_true hc17_1, eq_false hc37_2, eq_true hc50_3, eq_true hc57_4], N6, rfl⟩
          · refine Go.of (fun _ k => XS.icmpNo X6.here hx rfl (hb hby d12_57) rfl (flt hc57_4).1 k) ?_
            show Go p e below T6 (mkF m 60 #[.val (.int x0), .val (.int x1), .val (.int (x0 &&& (3 : Int32)))] []) _
            refine Go.of (fun _ k => XS.iloadN X6.here hx rfl (hb hby d12_60) rfl  k) ?_
            show Go p e below T6 (mkF m 61 #[.val (.int x0), .val (.int x1), .val (.int (x0 &&& (3 : Int32)))] [(.int x0)]) _
            refine Go.of (fun _ k => XS.iconst X6.here hx rfl (hb hby d12_61) k) ?_
            show Go p e below T6 (mkF m 62 #[.val (.int x0), .val (.int x1), .val (.int (x0 &&& (3 : Int32)))] [(.int (2 : Int32)), (.int x0)]) _
            obtain ⟨_, _, ⟨T7, L7, kq7, nq7⟩, -, X7, ⟨Lc7, hQ7, l7, y7, z7⟩, st7⟩ := Jvm.LawKit.callS X6 hx (y := (⟨"com/example/cascadex/cascadex/OfTextEqualsPinLaw", "ch", "(II)C"⟩ : MethodName)) hown (mvT hZ (hw _ (List.mem_of_getElem? (i := 32) rfl))) (mvT hZ (hw _ (List.mem_of_getElem? (i := 33) rfl))) (mvT hZ (hw _ (List.mem_of_getElem? (i := 5) rfl))) (mvT hZ (hw _ (List.mem_of_getElem? (i := 34) rfl))) (by decide) (backOf (W := 0) (rm6 l Z a0 hw [] x0 (2 : Int32) h0 n0 Z0 ) hZ (hw _ (List.mem_of_getElem? (i := 34) rfl)) (hw _ (List.mem_of_getElem? (i := 5) rfl)) (by decide) (by decide)) (g := (mkF m 62 #[.val (.int x0), .val (.int x1), .val (.int (x0 &&& (3 : Int32)))] [(.int (2 : Int32)), (.int x0)])) rfl (by rw [hml]; rfl) (argsL := [(.int x0), (.int (2 : Int32))]) (rest := []) (lenOf own_pd3 rfl) rfl (by show 2 * 0 + _ ≤ _; exact Nat.le_of_eq rfl) (hb hby d12_62) (fun _ _ => ⟨rfl, e6, (by decide : 0 + 0 ≤ _), (by decide : 0 + 0 ≤ _)⟩)
            dsimp only [Pt.U, Pt.locs, Pt.cells, Pt.slots] at X7 l7 y7 z7 st7 hQ7
            subst l7 y7 z7
            obtain ⟨rfl, Nq7, e7⟩ := hQ7
            have e7 := e7.trans rfl
            have N7 := Fr.app N6 Nq7
            refine Go.of (fun _ k => st7 _ k) ?_
            show Go p e below T7 (mkF m 65 #[.val (.int x0), .val (.int x1), .val (.int (x0 &&& (3 : Int32)))] [(.int (fCh x0 (2 : Int32)))]) _
            refine Go.of (fun _ k => XS.iloadN X7.here hx rfl (hb hby d12_65) rfl  k) ?_
            show Go p e below T7 (mkF m 66 #[.val (.int x0), .val (.int x1), .val (.int (x0 &&& (3 : Int32)))] [(.int x1), (.int (fCh x0 (2 : Int32)))]) _
            refine Go.of (fun _ k => XS.iconst X7.here hx rfl (hb hby d12_66) k) ?_
            show Go p e below T7 (mkF m 67 #[.val (.int x0), .val (.int x1), .val (.int (x0 &&& (3 : Int32)))] [(.int (2 : Int32)), (.int x1), (.int (fCh x0 (2 : Int32)))]) _
            obtain ⟨_, _, ⟨T8, L8, kq8, nq8⟩, -, X8, ⟨Lc8, hQ8, l8, y8, z8⟩, st8⟩ := Jvm.LawKit.callS X7 hx (y := (⟨"com/example/cascadex/cascadex/OfTextEqualsPinLaw", "ch", "(II)C"⟩ : MethodName)) hown (mvT hZ (hw _ (List.mem_of_getElem? (i := 32) rfl))) (mvT hZ (hw _ (List.mem_of_getElem? (i := 33) rfl))) (mvT hZ (hw _ (List.mem_of_getElem? (i := 5) rfl))) (mvT hZ (hw _ (List.mem_of_getElem? (i := 34) rfl))) (by decide) (backOf (W := 1) (rm6 l Z a0 hw [] x1 (2 : Int32) h0 n0 Z0 ) hZ (hw _ (List.mem_of_getElem? (i := 34) rfl)) (hw _ (List.mem_of_getElem? (i := 5) rfl)) (by decide) (by decide)) (g := (mkF m 67 #[.val (.int x0), .val (.int x1), .val (.int (x0 &&& (3 : Int32)))] [(.int (2 : Int32)), (.int x1), (.int (fCh x0 (2 : Int32)))])) rfl (by rw [hml]; rfl) (argsL := [(.int x1), (.int (2 : Int32))]) (rest := [(.int (fCh x0 (2 : Int32)))]) (lenOf own_pd3 rfl) rfl (by show 2 * 0 + _ ≤ _; exact Nat.le_of_eq rfl) (hb hby d12_67) (fun _ _ => ⟨rfl, e7, (by decide : 0 + 0 ≤ _), (by decide : 0 + 0 ≤ _)⟩)
            dsimp only [Pt.U, Pt.locs, Pt.cells, Pt.slots] at X8 l8 y8 z8 st8 hQ8
            subst l8 y8 z8
            obtain ⟨rfl, Nq8, e8⟩ := hQ8
            have e8 := e8.trans rfl
            have N8 := Fr.app N7 Nq8
            refine Go.of (fun _ k => st8 _ k) ?_
            show Go p e below T8 (mkF m 70 #[.val (.int x0), .val (.int x1), .val (.int (x0 &&& (3 : Int32)))] [(.int (fCh x1 (2 : Int32))), (.int (fCh x0 (2 : Int32)))]) _
            by_cases hc70_5 : (fCh x0 (2 : Int32)) = (fCh x1 (2 : Int32))
            · refine Go.of (fun _ k => XS.icmpYes X8.here hx rfl (pc0 := 70) (pc' := 75) rfl (hb hby d12_70) rfl (teq hc70_5).1 (by decide) (by decide) k) ?_
              show Go p e below T8 (mkF m 75 #[.val (.int x0), .val (.int x1), .val (.int (x0 &&& (3 : Int32)))] []) _
              refine Go.of (fun _ k => XS.iconst X8.here hx rfl (hb hby d12_75) k) ?_
              show Go p e below T8 (mkF m 76 #[.val (.int x0), .val (.int x1), .val (.int (x0 &&& (3 : Int32)))] [(.int (1 : Int32))]) _
              refine Go.retN X8 hx (t := .boolean) hret hlk (by simp) (hb hby d12_76) e8 (by decide) (by decide) ?_
              exact ⟨show some (Value.int (1 : Int32)) = _ from by simp only [fSame, own_same]; simp [eq_true hc10_0, eq_true hc17_1, eq_false hc37_2, eq_true hc50_3, eq_false hc57_4, eq_true hc70_5], N8, rfl⟩
            · refine Go.of (fun _ k => XS.icmpNo X8.here hx rfl (hb hby d12_70) rfl (feq hc70_5).1 k) ?_
              show Go p e below T8 (mkF m 73 #[.val (.int x0), .val (.int x1), .val (.int (x0 &&& (3 : Int32)))] []) _
              refine Go.of (fun _ k => XS.iconst X8.here hx rfl (hb hby d12_73) k) ?_
              show Go p e below T8 (mkF m 74 #[.val (.int x0), .val (.int x1), .val (.int (x0 &&& (3 : Int32)))] [(.int (0 : Int32))]) _
              refine Go.retN X8 hx (t := .boolean) hret hlk (by simp) (hb hby d12_74) e8 (by decide) (by decide) ?_
              exact ⟨show some (Value.int (0 : Int32)) = _ from by simp only [fSame, own_same]; simp [eq_true hc10_0, eq_true hc17_1, eq_false hc37_2, eq_true hc50_3, eq_false hc57_4, eq_false hc70_5], N8, rfl⟩
        · refine Go.of (fun _ k => XS.icmpNo X6.here hx rfl (hb hby d12_50) rfl (feq hc50_3).1 k) ?_
          show Go p e below T6 (mkF m 53 #[.val (.int x0), .val (.int x1), .val (.int (x0 &&& (3 : Int32)))] []) _
          refine Go.of (fun _ k => XS.iconst X6.here hx rfl (hb hby d12_53) k) ?_
          show Go p e below T6 (mkF m 54 #[.val (.int x0), .val (.int x1), .val (.int (x0 &&& (3 : Int32)))] [(.int (0 : Int32))]) _
          refine Go.retN X6 hx (t := .boolean) hret hlk (by simp) (hb hby d12_54) e6 (by decide) (by decide) ?_
          exact ⟨show some (Value.int (0 : Int32)) = _ from by simp only [fSame, own_same]; simp [eq_true hc10_0, eq_true hc17_1, eq_false hc37_2, eq_false hc50_3], N6, rfl⟩
    · refine Go.of (fun _ k => XS.icmpNo X2.here hx rfl (hb hby d12_17) rfl (flt hc17_1).1 k) ?_
      show Go p e below T2 (mkF m 20 #[.val (.int x0), .val (.int x1), .val (.int (x0 &&& (3 : Int32)))] []) _
      refine Go.of (fun _ k => XS.iloadN X2.here hx rfl (hb hby d12_20) rfl  k) ?_
      show Go p e below T2 (mkF m 21 #[.val (.int x0), .val (.int x1), .val (.int (x0 &&& (3 : Int32)))] [(.int x0)]) _
      refine Go.of (fun _ k => XS.iconst X2.here hx rfl (hb hby d12_21) k) ?_
      show Go p e below T2 (mkF m 22 #[.val (.int x0), .val (.int x1), .val (.int (x0 &&& (3 : Int32)))] [(.int (0 : Int32)), (.int x0)]) _
      obtain ⟨_, _, ⟨T9, L9, kq9, nq9⟩, -, X9, ⟨Lc9, hQ9, l9, y9, z9⟩, st9⟩ := Jvm.LawKit.callS X2 hx (y := (⟨"com/example/cascadex/cascadex/OfTextEqualsPinLaw", "ch", "(II)C"⟩ : MethodName)) hown (mvT hZ (hw _ (List.mem_of_getElem? (i := 32) rfl))) (mvT hZ (hw _ (List.mem_of_getElem? (i := 33) rfl))) (mvT hZ (hw _ (List.mem_of_getElem? (i := 5) rfl))) (mvT hZ (hw _ (List.mem_of_getElem? (i := 34) rfl))) (by decide) (backOf (W := 0) (rm6 l Z a0 hw [] x0 (0 : Int32) h0 n0 Z0 ) hZ (hw _ (List.mem_of_getElem? (i := 34) rfl)) (hw _ (List.mem_of_getElem? (i := 5) rfl)) (by decide) (by decide)) (g := (mkF m 22 #[.val (.int x0), .val (.int x1), .val (.int (x0 &&& (3 : Int32)))] [(.int (0 : Int32)), (.int x0)])) rfl (by rw [hml]; rfl) (argsL := [(.int x0), (.int (0 : Int32))]) (rest := []) (lenOf own_pd3 rfl) rfl (by show 2 * 0 + _ ≤ _; exact Nat.le_of_eq rfl) (hb hby d12_22) (fun _ _ => ⟨rfl, e2, (by decide : 0 + 0 ≤ _), (by decide : 0 + 0 ≤ _)⟩)
      dsimp only [Pt.U, Pt.locs, Pt.cells, Pt.slots] at X9 l9 y9 z9 st9 hQ9
      subst l9 y9 z9
      obtain ⟨rfl, Nq9, e9⟩ := hQ9
      have e9 := e9.trans rfl
      have N9 := Fr.app N2 Nq9
      refine Go.of (fun _ k => st9 _ k) ?_
      show Go p e below T9 (mkF m 25 #[.val (.int x0), .val (.int x1), .val (.int (x0 &&& (3 : Int32)))] [(.int (fCh x0 (0 : Int32)))]) _
      refine Go.of (fun _ k => XS.iloadN X9.here hx rfl (hb hby d12_25) rfl  k) ?_
      show Go p e below T9 (mkF m 26 #[.val (.int x0), .val (.int x1), .val (.int (x0 &&& (3 : Int32)))] [(.int x1), (.int (fCh x0 (0 : Int32)))]) _
      refine Go.of (fun _ k => XS.iconst X9.here hx rfl (hb hby d12_26) k) ?_
      show Go p e below T9 (mkF m 27 #[.val (.int x0), .val (.int x1), .val (.int (x0 &&& (3 : Int32)))] [(.int (0 : Int32)), (.int x1), (.int (fCh x0 (0 : Int32)))]) _
      obtain ⟨_, _, ⟨T10, L10, kq10, nq10⟩, -, X10, ⟨Lc10, hQ10, l10, y10, z10⟩, st10⟩ := Jvm.LawKit.callS X9 hx (y := (⟨"com/example/cascadex/cascadex/OfTextEqualsPinLaw", "ch", "(II)C"⟩ : MethodName)) hown (mvT hZ (hw _ (List.mem_of_getElem? (i := 32) rfl))) (mvT hZ (hw _ (List.mem_of_getElem? (i := 33) rfl))) (mvT hZ (hw _ (List.mem_of_getElem? (i := 5) rfl))) (mvT hZ (hw _ (List.mem_of_getElem? (i := 34) rfl))) (by decide) (backOf (W := 1) (rm6 l Z a0 hw [] x1 (0 : Int32) h0 n0 Z0 ) hZ (hw _ (List.mem_of_getElem? (i := 34) rfl)) (hw _ (List.mem_of_getElem? (i := 5) rfl)) (by decide) (by decide)) (g := (mkF m 27 #[.val (.int x0), .val (.int x1), .val (.int (x0 &&& (3 : Int32)))] [(.int (0 : Int32)), (.int x1), (.int (fCh x0 (0 : Int32)))])) rfl (by rw [hml]; rfl) (argsL := [(.int x1), (.int (0 : Int32))]) (rest := [(.int (fCh x0 (0 : Int32)))]) (lenOf own_pd3 rfl) rfl (by show 2 * 0 + _ ≤ _; exact Nat.le_of_eq rfl) (hb hby d12_27) (fun _ _ => ⟨rfl, e9, (by decide : 0 + 0 ≤ _), (by decide : 0 + 0 ≤ _)⟩)
      dsimp only [Pt.U, Pt.locs, Pt.cells, Pt.slots] at X10 l10 y10 z10 st10 hQ10
      subst l10 y10 z10
      obtain ⟨rfl, Nq10, e10⟩ := hQ10
      have e10 := e10.trans rfl
      have N10 := Fr.app N9 Nq10
      refine Go.of (fun _ k => st10 _ k) ?_
      show Go p e below T10 (mkF m 30 #[.val (.int x0), .val (.int x1), .val (.int (x0 &&& (3 : Int32)))] [(.int (fCh x1 (0 : Int32))), (.int (fCh x0 (0 : Int32)))]) _
      by_cases hc30_2 : (fCh x0 (0 : Int32)) = (fCh x1 (0 : Int32))
      · refine Go.of (fun _ k => XS.icmpYes X10.here hx rfl (pc0 := 30) (pc' := 35) rfl (hb hby d12_30) rfl (teq hc30_2).1 (by decide) (by decide) k) ?_
        show Go p e below T10 (mkF m 35 #[.val (.int x0), .val (.int x1), .val (.int (x0 &&& (3 : Int32)))] []) _
        refine Go.of (fun _ k => XS.iloadN X10.here hx rfl (hb hby d12_35) rfl  k) ?_
        show Go p e below T10 (mkF m 36 #[.val (.int x0), .val (.int x1), .val (.int (x0 &&& (3 : Int32)))] [(.int (x0 &&& (3 : Int32)))]) _
        refine Go.of (fun _ k => XS.iconst X10.here hx rfl (hb hby d12_36) k) ?_
        show Go p e below T10 (mkF m 37 #[.val (.int x0), .val (.int x1), .val (.int (x0 &&& (3 : Int32)))] [(.int (2 : Int32)), (.int (x0 &&& (3 : Int32)))]) _
        by_cases hc37_3 : (x0 &&& (3 : Int32)) < (2 : Int32)
        · refine Go.of (fun _ k => XS.icmpYes X10.here hx rfl (pc0 := 37) (pc' := 55) rfl (hb hby d12_37) rfl (tlt hc37_3).1 (by decide) (by decide) k) ?_
          show Go p e below T10 (mkF m 55 #[.val (.int x0), .val (.int x1), .val (.int (x0 &&& (3 : Int32)))] []) _
          refine Go.of (fun _ k => XS.iloadN X10.here hx rfl (hb hby d12_55) rfl  k) ?_
          show Go p e below T10 (mkF m 56 #[.val (.int x0), .val (.int x1), .val (.int (x0 &&& (3 : Int32)))] [(.int (x0 &&& (3 : Int32)))]) _
          refine Go.of (fun _ k => XS.iconst X10.here hx rfl (hb hby d12_56) k) ?_
          show Go p e below T10 (mkF m 57 #[.val (.int x0), .val (.int x1), .val (.int (x0 &&& (3 : Int32)))] [(.int (3 : Int32)), (.int (x0 &&& (3 : Int32)))]) _
          by_cases hc57_4 : (x0 &&& (3 : Int32)) < (3 : Int32)
          · refine Go.of (fun _ k => XS.icmpYes X10.here hx rfl (pc0 := 57) (pc' := 75) rfl (hb hby d12_57) rfl (tlt hc57_4).1 (by decide) (by decide) k) ?_
            show Go p e below T10 (mkF m 75 #[.val (.int x0), .val (.int x1), .val (.int (x0 &&& (3 : Int32)))] []) _
            refine Go.of (fun _ k => XS.iconst X10.here hx rfl (hb hby d12_75) k) ?_
            show Go p e below T10 (mkF m 76 #[.val (.int x0), .val (.int x1), .val (.int (x0 &&& (3 : Int32)))] [(.int (1 : Int32))]) _
            refine Go.retN X10 hx (t := .boolean) hret hlk (by simp) (hb hby d12_76) e10 (by decide) (by decide) ?_
            exact ⟨show some (Value.int (1 : Int32)) = _ from by simp only [fSame, own_same]; simp [eq_true hc10_0, eq_false hc17_1, eq_true hc30_2, eq_true hc37_3, eq_true hc57_4], N10, rfl⟩
          · refine Go.of (fun _ k => XS.icmpNo X10.here hx rfl (hb hby d12_57) rfl (flt hc57_4).1 k) ?_
            show Go p e below T10 (mkF m 60 #[.val (.int x0), .val (.int x1), .val (.int (x0 &&& (3 : Int32)))] []) _
            refine Go.of (fun _ k => XS.iloadN X10.here hx rfl (hb hby d12_60) rfl  k) ?_
            show Go p e below T10 (mkF m 61 #[.val (.int x0), .val (.int x1), .val (.int (x0 &&& (3 : Int32)))] [(.int x0)]) _
            refine Go.of (fun _ k => XS.iconst X10.here hx rfl (hb hby d12_61) k) ?_
            show Go p e below T10 (mkF m 62 #[.val (.int x0), .val (.int x1), .val (.int (x0 &&& (3 : Int32)))] [(.int (2 : Int32)), (.int x0)]) _
            obtain ⟨_, _, ⟨T11, L11, kq11, nq11⟩, -, X11, ⟨Lc11, hQ11, l11, y11, z11⟩, st11⟩ := Jvm.LawKit.callS X10 hx (y := (⟨"com/example/cascadex/cascadex/OfTextEqualsPinLaw", "ch", "(II)C"⟩ : MethodName)) hown (mvT hZ (hw _ (List.mem_of_getElem? (i := 32) rfl))) (mvT hZ (hw _ (List.mem_of_getElem? (i := 33) rfl))) (mvT hZ (hw _ (List.mem_of_getElem? (i := 5) rfl))) (mvT hZ (hw _ (List.mem_of_getElem? (i := 34) rfl))) (by decide) (backOf (W := 0) (rm6 l Z a0 hw [] x0 (2 : Int32) h0 n0 Z0 ) hZ (hw _ (List.mem_of_getElem? (i := 34) rfl)) (hw _ (List.mem_of_getElem? (i := 5) rfl)) (by decide) (by decide)) (g := (mkF m 62 #[.val (.int x0), .val (.int x1), .val (.int (x0 &&& (3 : Int32)))] [(.int (2 : Int32)), (.int x0)])) rfl (by rw [hml]; rfl) (argsL := [(.int x0), (.int (2 : Int32))]) (rest := []) (lenOf own_pd3 rfl) rfl (by show 2 * 0 + _ ≤ _; exact Nat.le_of_eq rfl) (hb hby d12_62) (fun _ _ => ⟨rfl, e10, (by decide : 0 + 0 ≤ _), (by decide : 0 + 0 ≤ _)⟩)
            dsimp only [Pt.U, Pt.locs, Pt.cells, Pt.slots] at X11 l11 y11 z11 st11 hQ11
            subst l11 y11 z11
            obtain ⟨rfl, Nq11, e11⟩ := hQ11
            have e11 := e11.trans rfl
            have N11 := Fr.app N10 Nq11
            refine Go.of (fun _ k => st11 _ k) ?_
            show Go p e below T11 (mkF m 65 #[.val (.int x0), .val (.int x1), .val (.int (x0 &&& (3 : Int32)))] [(.int (fCh x0 (2 : Int32)))]) _
            refine Go.of (fun _ k => XS.iloadN X11.here hx rfl (hb hby d12_65) rfl  k) ?_
            show Go p e below T11 (mkF m 66 #[.val (.int x0), .val (.int x1), .val (.int (x0 &&& (3 : Int32)))] [(.int x1), (.int (fCh x0 (2 : Int32)))]) _
            refine Go.of (fun _ k => XS.iconst X11.here hx rfl (hb hby d12_66) k) ?_
            show Go p e below T11 (mkF m 67 #[.val (.int x0), .val (.int x1), .val (.int (x0 &&& (3 : Int32)))] [(.int (2 : Int32)), (.int x1), (.int (fCh x0 (2 : Int32)))]) _
            obtain ⟨_, _, ⟨T12, L12, kq12, nq12⟩, -, X12, ⟨Lc12, hQ12, l12, y12, z12⟩, st12⟩ := Jvm.LawKit.callS X11 hx (y := (⟨"com/example/cascadex/cascadex/OfTextEqualsPinLaw", "ch", "(II)C"⟩ : MethodName)) hown (mvT hZ (hw _ (List.mem_of_getElem? (i := 32) rfl))) (mvT hZ (hw _ (List.mem_of_getElem? (i := 33) rfl))) (mvT hZ (hw _ (List.mem_of_getElem? (i := 5) rfl))) (mvT hZ (hw _ (List.mem_of_getElem? (i := 34) rfl))) (by decide) (backOf (W := 1) (rm6 l Z a0 hw [] x1 (2 : Int32) h0 n0 Z0 ) hZ (hw _ (List.mem_of_getElem? (i := 34) rfl)) (hw _ (List.mem_of_getElem? (i := 5) rfl)) (by decide) (by decide)) (g := (mkF m 67 #[.val (.int x0), .val (.int x1), .val (.int (x0 &&& (3 : Int32)))] [(.int (2 : Int32)), (.int x1), (.int (fCh x0 (2 : Int32)))])) rfl (by rw [hml]; rfl) (argsL := [(.int x1), (.int (2 : Int32))]) (rest := [(.int (fCh x0 (2 : Int32)))]) (lenOf own_pd3 rfl) rfl (by show 2 * 0 + _ ≤ _; exact Nat.le_of_eq rfl) (hb hby d12_67) (fun _ _ => ⟨rfl, e11, (by decide : 0 + 0 ≤ _), (by decide : 0 + 0 ≤ _)⟩)
            dsimp only [Pt.U, Pt.locs, Pt.cells, Pt.slots] at X12 l12 y12 z12 st12 hQ12
            subst l12 y12 z12
            obtain ⟨rfl, Nq12, e12⟩ := hQ12
            have e12 := e12.trans rfl
            have N12 := Fr.app N11 Nq12
            refine Go.of (fun _ k => st12 _ k) ?_
            show Go p e below T12 (mkF m 70 #[.val (.int x0), .val (.int x1), .val (.int (x0 &&& (3 : Int32)))] [(.int (fCh x1 (2 : Int32))), (.int (fCh x0 (2 : Int32)))]) _
            by_cases hc70_5 : (fCh x0 (2 : Int32)) = (fCh x1 (2 : Int32))
            · refine Go.of (fun _ k => XS.icmpYes X12.here hx rfl (pc0 := 70) (pc' := 75) rfl (hb hby d12_70) rfl (teq hc70_5).1 (by decide) (by decide) k) ?_
              show Go p e below T12 (mkF m 75 #[.val (.int x0), .val (.int x1), .val (.int (x0 &&& (3 : Int32)))] []) _
              refine Go.of (fun _ k => XS.iconst X12.here hx rfl (hb hby d12_75) k) ?_
              show Go p e below T12 (mkF m 76 #[.val (.int x0), .val (.int x1), .val (.int (x0 &&& (3 : Int32)))] [(.int (1 : Int32))]) _
              refine Go.retN X12 hx (t := .boolean) hret hlk (by simp) (hb hby d12_76) e12 (by decide) (by decide) ?_
              exact ⟨show some (Value.int (1 : Int32)) = _ from by simp only [fSame, own_same]; simp [eq_true hc10_0, eq_false hc17_1, eq_true hc30_2, eq_true hc37_3, eq_false hc57_4, eq_true hc70_5], N12, rfl⟩
            · refine Go.of (fun _ k => XS.icmpNo X12.here hx rfl (hb hby d12_70) rfl (feq hc70_5).1 k) ?_
              show Go p e below T12 (mkF m 73 #[.val (.int x0), .val (.int x1), .val (.int (x0 &&& (3 : Int32)))] []) _
              refine Go.of (fun _ k => XS.iconst X12.here hx rfl (hb hby d12_73) k) ?_
              show Go p e below T12 (mkF m 74 #[.val (.int x0), .val (.int x1), .val (.int (x0 &&& (3 : Int32)))] [(.int (0 : Int32))]) _
              refine Go.retN X12 hx (t := .boolean) hret hlk (by simp) (hb hby d12_74) e12 (by decide) (by decide) ?_
              exact ⟨show some (Value.int (0 : Int32)) = _ from by simp only [fSame, own_same]; simp [eq_true hc10_0, eq_false hc17_1, eq_true hc30_2, eq_true hc37_3, eq_false hc57_4, eq_false hc70_5], N12, rfl⟩
        · refine Go.of (fun _ k => XS.icmpNo X10.here hx rfl (hb hby d12_37) rfl (flt hc37_3).1 k) ?_
          show Go p e below T10 (mkF m 40 #[.val (.int x0), .val (.int x1), .val (.int (x0 &&& (3 : Int32)))] []) _
          refine Go.of (fun _ k => XS.iloadN X10.here hx rfl (hb hby d12_40) rfl  k) ?_
          show Go p e below T10 (mkF m 41 #[.val (.int x0), .val (.int x1), .val (.int (x0 &&& (3 : Int32)))] [(.int x0)]) _
          refine Go.of (fun _ k => XS.iconst X10.here hx rfl (hb hby d12_41) k) ?_
          show Go p e below T10 (mkF m 42 #[.val (.int x0), .val (.int x1), .val (.int (x0 &&& (3 : Int32)))] [(.int (1 : Int32)), (.int x0)]) _
          obtain ⟨_, _, ⟨T13, L13, kq13, nq13⟩, -, X13, ⟨Lc13, hQ13, l13, y13, z13⟩, st13⟩ := Jvm.LawKit.callS X10 hx (y := (⟨"com/example/cascadex/cascadex/OfTextEqualsPinLaw", "ch", "(II)C"⟩ : MethodName)) hown (mvT hZ (hw _ (List.mem_of_getElem? (i := 32) rfl))) (mvT hZ (hw _ (List.mem_of_getElem? (i := 33) rfl))) (mvT hZ (hw _ (List.mem_of_getElem? (i := 5) rfl))) (mvT hZ (hw _ (List.mem_of_getElem? (i := 34) rfl))) (by decide) (backOf (W := 0) (rm6 l Z a0 hw [] x0 (1 : Int32) h0 n0 Z0 ) hZ (hw _ (List.mem_of_getElem? (i := 34) rfl)) (hw _ (List.mem_of_getElem? (i := 5) rfl)) (by decide) (by decide)) (g := (mkF m 42 #[.val (.int x0), .val (.int x1), .val (.int (x0 &&& (3 : Int32)))] [(.int (1 : Int32)), (.int x0)])) rfl (by rw [hml]; rfl) (argsL := [(.int x0), (.int (1 : Int32))]) (rest := []) (lenOf own_pd3 rfl) rfl (by show 2 * 0 + _ ≤ _; exact Nat.le_of_eq rfl) (hb hby d12_42) (fun _ _ => ⟨rfl, e10, (by decide : 0 + 0 ≤ _), (by decide : 0 + 0 ≤ _)⟩)
          dsimp only [Pt.U, Pt.locs, Pt.cells, Pt.slots] at X13 l13 y13 z13 st13 hQ13
          subst l13 y13 z13
          obtain ⟨rfl, Nq13, e13⟩ := hQ13
          have e13 := e13.trans rfl
          have N13 := Fr.app N10 Nq13
          refine Go.of (fun _ k => st13 _ k) ?_
          show Go p e below T13 (mkF m 45 #[.val (.int x0), .val (.int x1), .val (.int (x0 &&& (3 : Int32)))] [(.int (fCh x0 (1 : Int32)))]) _
          refine Go.of (fun _ k => XS.iloadN X13.here hx rfl (hb hby d12_45) rfl  k) ?_
          show Go p e below T13 (mkF m 46 #[.val (.int x0), .val (.int x1), .val (.int (x0 &&& (3 : Int32)))] [(.int x1), (.int (fCh x0 (1 : Int32)))]) _
          refine Go.of (fun _ k => XS.iconst X13.here hx rfl (hb hby d12_46) k) ?_
          show Go p e below T13 (mkF m 47 #[.val (.int x0), .val (.int x1), .val (.int (x0 &&& (3 : Int32)))] [(.int (1 : Int32)), (.int x1), (.int (fCh x0 (1 : Int32)))]) _
          obtain ⟨_, _, ⟨T14, L14, kq14, nq14⟩, -, X14, ⟨Lc14, hQ14, l14, y14, z14⟩, st14⟩ := Jvm.LawKit.callS X13 hx (y := (⟨"com/example/cascadex/cascadex/OfTextEqualsPinLaw", "ch", "(II)C"⟩ : MethodName)) hown (mvT hZ (hw _ (List.mem_of_getElem? (i := 32) rfl))) (mvT hZ (hw _ (List.mem_of_getElem? (i := 33) rfl))) (mvT hZ (hw _ (List.mem_of_getElem? (i := 5) rfl))) (mvT hZ (hw _ (List.mem_of_getElem? (i := 34) rfl))) (by decide) (backOf (W := 1) (rm6 l Z a0 hw [] x1 (1 : Int32) h0 n0 Z0 ) hZ (hw _ (List.mem_of_getElem? (i := 34) rfl)) (hw _ (List.mem_of_getElem? (i := 5) rfl)) (by decide) (by decide)) (g := (mkF m 47 #[.val (.int x0), .val (.int x1), .val (.int (x0 &&& (3 : Int32)))] [(.int (1 : Int32)), (.int x1), (.int (fCh x0 (1 : Int32)))])) rfl (by rw [hml]; rfl) (argsL := [(.int x1), (.int (1 : Int32))]) (rest := [(.int (fCh x0 (1 : Int32)))]) (lenOf own_pd3 rfl) rfl (by show 2 * 0 + _ ≤ _; exact Nat.le_of_eq rfl) (hb hby d12_47) (fun _ _ => ⟨rfl, e13, (by decide : 0 + 0 ≤ _), (by decide : 0 + 0 ≤ _)⟩)
          dsimp only [Pt.U, Pt.locs, Pt.cells, Pt.slots] at X14 l14 y14 z14 st14 hQ14
          subst l14 y14 z14
          obtain ⟨rfl, Nq14, e14⟩ := hQ14
          have e14 := e14.trans rfl
          have N14 := Fr.app N13 Nq14
          refine Go.of (fun _ k => st14 _ k) ?_
          show Go p e below T14 (mkF m 50 #[.val (.int x0), .val (.int x1), .val (.int (x0 &&& (3 : Int32)))] [(.int (fCh x1 (1 : Int32))), (.int (fCh x0 (1 : Int32)))]) _
          by_cases hc50_4 : (fCh x0 (1 : Int32)) = (fCh x1 (1 : Int32))
          · refine Go.of (fun _ k => XS.icmpYes X14.here hx rfl (pc0 := 50) (pc' := 55) rfl (hb hby d12_50) rfl (teq hc50_4).1 (by decide) (by decide) k) ?_
            show Go p e below T14 (mkF m 55 #[.val (.int x0), .val (.int x1), .val (.int (x0 &&& (3 : Int32)))] []) _
            refine Go.of (fun _ k => XS.iloadN X14.here hx rfl (hb hby d12_55) rfl  k) ?_
            show Go p e below T14 (mkF m 56 #[.val (.int x0), .val (.int x1), .val (.int (x0 &&& (3 : Int32)))] [(.int (x0 &&& (3 : Int32)))]) _
            refine Go.of (fun _ k => XS.iconst X14.here hx rfl (hb hby d12_56) k) ?_
            show Go p e below T14 (mkF m 57 #[.val (.int x0), .val (.int x1), .val (.int (x0 &&& (3 : Int32)))] [(.int (3 : Int32)), (.int (x0 &&& (3 : Int32)))]) _
            by_cases hc57_5 : (x0 &&& (3 : Int32)) < (3 : Int32)
            · refine Go.of (fun _ k => XS.icmpYes X14.here hx rfl (pc0 := 57) (pc' := 75) rfl (hb hby d12_57) rfl (tlt hc57_5).1 (by decide) (by decide) k) ?_
              show Go p e below T14 (mkF m 75 #[.val (.int x0), .val (.int x1), .val (.int (x0 &&& (3 : Int32)))] []) _
              refine Go.of (fun _ k => XS.iconst X14.here hx rfl (hb hby d12_75) k) ?_
              show Go p e below T14 (mkF m 76 #[.val (.int x0), .val (.int x1), .val (.int (x0 &&& (3 : Int32)))] [(.int (1 : Int32))]) _
              refine Go.retN X14 hx (t := .boolean) hret hlk (by simp) (hb hby d12_76) e14 (by decide) (by decide) ?_
              exact ⟨show some (Value.int (1 : Int32)) = _ from by simp only [fSame, own_same]; simp [eq_true hc10_0, eq_false hc17_1, eq_true hc30_2, eq_false hc37_3, eq_true hc50_4, eq_true hc57_5], N14, rfl⟩
            · refine Go.of (fun _ k => XS.icmpNo X14.here hx rfl (hb hby d12_57) rfl (flt hc57_5).1 k) ?_
              show Go p e below T14 (mkF m 60 #[.val (.int x0), .val (.int x1), .val (.int (x0 &&& (3 : Int32)))] []) _
              refine Go.of (fun _ k => XS.iloadN X14.here hx rfl (hb hby d12_60) rfl  k) ?_
              show Go p e below T14 (mkF m 61 #[.val (.int x0), .val (.int x1), .val (.int (x0 &&& (3 : Int32)))] [(.int x0)]) _
              refine Go.of (fun _ k => XS.iconst X14.here hx rfl (hb hby d12_61) k) ?_
              show Go p e below T14 (mkF m 62 #[.val (.int x0), .val (.int x1), .val (.int (x0 &&& (3 : Int32)))] [(.int (2 : Int32)), (.int x0)]) _
              obtain ⟨_, _, ⟨T15, L15, kq15, nq15⟩, -, X15, ⟨Lc15, hQ15, l15, y15, z15⟩, st15⟩ := Jvm.LawKit.callS X14 hx (y := (⟨"com/example/cascadex/cascadex/OfTextEqualsPinLaw", "ch", "(II)C"⟩ : MethodName)) hown (mvT hZ (hw _ (List.mem_of_getElem? (i := 32) rfl))) (mvT hZ (hw _ (List.mem_of_getElem? (i := 33) rfl))) (mvT hZ (hw _ (List.mem_of_getElem? (i := 5) rfl))) (mvT hZ (hw _ (List.mem_of_getElem? (i := 34) rfl))) (by decide) (backOf (W := 0) (rm6 l Z a0 hw [] x0 (2 : Int32) h0 n0 Z0 ) hZ (hw _ (List.mem_of_getElem? (i := 34) rfl)) (hw _ (List.mem_of_getElem? (i := 5) rfl)) (by decide) (by decide)) (g := (mkF m 62 #[.val (.int x0), .val (.int x1), .val (.int (x0 &&& (3 : Int32)))] [(.int (2 : Int32)), (.int x0)])) rfl (by rw [hml]; rfl) (argsL := [(.int x0), (.int (2 : Int32))]) (rest := []) (lenOf own_pd3 rfl) rfl (by show 2 * 0 + _ ≤ _; exact Nat.le_of_eq rfl) (hb hby d12_62) (fun _ _ => ⟨rfl, e14, (by decide : 0 + 0 ≤ _), (by decide : 0 + 0 ≤ _)⟩)
              dsimp only [Pt.U, Pt.locs, Pt.cells, Pt.slots] at X15 l15 y15 z15 st15 hQ15
              subst l15 y15 z15
              obtain ⟨rfl, Nq15, e15⟩ := hQ15
              have e15 := e15.trans rfl
              have N15 := Fr.app N14 Nq15
              refine Go.of (fun _ k => st15 _ k) ?_
              show Go p e below T15 (mkF m 65 #[.val (.int x0), .val (.int x1), .val (.int (x0 &&& (3 : Int32)))] [(.int (fCh x0 (2 : Int32)))]) _
              refine Go.of (fun _ k => XS.iloadN X15.here hx rfl (hb hby d12_65) rfl  k) ?_
              show Go p e below T15 (mkF m 66 #[.val (.int x0), .val (.int x1), .val (.int (x0 &&& (3 : Int32)))] [(.int x1), (.int (fCh x0 (2 : Int32)))]) _
              refine Go.of (fun _ k => XS.iconst X15.here hx rfl (hb hby d12_66) k) ?_
              show Go p e below T15 (mkF m 67 #[.val (.int x0), .val (.int x1), .val (.int (x0 &&& (3 : Int32)))] [(.int (2 : Int32)), (.int x1), (.int (fCh x0 (2 : Int32)))]) _
              obtain ⟨_, _, ⟨T16, L16, kq16, nq16⟩, -, X16, ⟨Lc16, hQ16, l16, y16, z16⟩, st16⟩ := Jvm.LawKit.callS X15 hx (y := (⟨"com/example/cascadex/cascadex/OfTextEqualsPinLaw", "ch", "(II)C"⟩ : MethodName)) hown (mvT hZ (hw _ (List.mem_of_getElem? (i := 32) rfl))) (mvT hZ (hw _ (List.mem_of_getElem? (i := 33) rfl))) (mvT hZ (hw _ (List.mem_of_getElem? (i := 5) rfl))) (mvT hZ (hw _ (List.mem_of_getElem? (i := 34) rfl))) (by decide) (backOf (W := 1) (rm6 l Z a0 hw [] x1 (2 : Int32) h0 n0 Z0 ) hZ (hw _ (List.mem_of_getElem? (i := 34) rfl)) (hw _ (List.mem_of_getElem? (i := 5) rfl)) (by decide) (by decide)) (g := (mkF m 67 #[.val (.int x0), .val (.int x1), .val (.int (x0 &&& (3 : Int32)))] [(.int (2 : Int32)), (.int x1), (.int (fCh x0 (2 : Int32)))])) rfl (by rw [hml]; rfl) (argsL := [(.int x1), (.int (2 : Int32))]) (rest := [(.int (fCh x0 (2 : Int32)))]) (lenOf own_pd3 rfl) rfl (by show 2 * 0 + _ ≤ _; exact Nat.le_of_eq rfl) (hb hby d12_67) (fun _ _ => ⟨rfl, e15, (by decide : 0 + 0 ≤ _), (by decide : 0 + 0 ≤ _)⟩)
              dsimp only [Pt.U, Pt.locs, Pt.cells, Pt.slots] at X16 l16 y16 z16 st16 hQ16
              subst l16 y16 z16
              obtain ⟨rfl, Nq16, e16⟩ := hQ16
              have e16 := e16.trans rfl
              have N16 := Fr.app N15 Nq16
              refine Go.of (fun _ k => st16 _ k) ?_
              show Go p e below T16 (mkF m 70 #[.val (.int x0), .val (.int x1), .val (.int (x0 &&& (3 : Int32)))] [(.int (fCh x1 (2 : Int32))), (.int (fCh x0 (2 : Int32)))]) _
              by_cases hc70_6 : (fCh x0 (2 : Int32)) = (fCh x1 (2 : Int32))
              · refine Go.of (fun _ k => XS.icmpYes X16.here hx rfl (pc0 := 70) (pc' := 75) rfl (hb hby d12_70) rfl (teq hc70_6).1 (by decide) (by decide) k) ?_
                show Go p e below T16 (mkF m 75 #[.val (.int x0), .val (.int x1), .val (.int (x0 &&& (3 : Int32)))] []) _
                refine Go.of (fun _ k => XS.iconst X16.here hx rfl (hb hby d12_75) k) ?_
                show Go p e below T16 (mkF m 76 #[.val (.int x0), .val (.int x1), .val (.int (x0 &&& (3 : Int32)))] [(.int (1 : Int32))]) _
                refine Go.retN X16 hx (t := .boolean) hret hlk (by simp) (hb hby d12_76) e16 (by decide) (by decide) ?_
                exact ⟨show some (Value.int (1 : Int32)) = _ from by simp only [fSame, own_same]; simp [eq_true hc10_0, eq_false hc17_1, eq_true hc30_2, eq_false hc37_3, eq_true hc50_4, eq_false hc57_5, eq_true hc70_6], N16, rfl⟩
              · refine Go.of (fun _ k => XS.icmpNo X16.here hx rfl (hb hby d12_70) rfl (feq hc70_6).1 k) ?_
                show Go p e below T16 (mkF m 73 #[.val (.int x0), .val (.int x1), .val (.int (x0 &&& (3 : Int32)))] []) _
                refine Go.of (fun _ k => XS.iconst X16.here hx rfl (hb hby d12_73) k) ?_
                show Go p e below T16 (mkF m 74 #[.val (.int x0), .val (.int x1), .val (.int (x0 &&& (3 : Int32)))] [(.int (0 : Int32))]) _
                refine Go.retN X16 hx (t := .boolean) hret hlk (by simp) (hb hby d12_74) e16 (by decide) (by decide) ?_
                exact ⟨show some (Value.int (0 : Int32)) = _ from by simp only [fSame, own_same]; simp [eq_true hc10_0, eq_false hc17_1, eq_true hc30_2, eq_false hc37_3, eq_true hc50_4, eq_false hc57_5, eq_false hc70_6], N16, rfl⟩
          · refine Go.of (fun _ k => XS.icmpNo X14.here hx rfl (hb hby d12_50) rfl (feq hc50_4).1 k) ?_
            show Go p e below T14 (mkF m 53 #[.val (.int x0), .val (.int x1), .val (.int (x0 &&& (3 : Int32)))] []) _
            refine Go.of (fun _ k => XS.iconst X14.here hx rfl (hb hby d12_53) k) ?_
            show Go p e below T14 (mkF m 54 #[.val (.int x0), .val (.int x1), .val (.int (x0 &&& (3 : Int32)))] [(.int (0 : Int32))]) _
            refine Go.retN X14 hx (t := .boolean) hret hlk (by simp) (hb hby d12_54) e14 (by decide) (by decide) ?_
            exact ⟨show some (Value.int (0 : Int32)) = _ from by simp only [fSame, own_same]; simp [eq_true hc10_0, eq_false hc17_1, eq_true hc30_2, eq_false hc37_3, eq_false hc50_4], N14, rfl⟩
      · refine Go.of (fun _ k => XS.icmpNo X10.here hx rfl (hb hby d12_30) rfl (feq hc30_2).1 k) ?_
        show Go p e below T10 (mkF m 33 #[.val (.int x0), .val (.int x1), .val (.int (x0 &&& (3 : Int32)))] []) _
        refine Go.of (fun _ k => XS.iconst X10.here hx rfl (hb hby d12_33) k) ?_
        show Go p e below T10 (mkF m 34 #[.val (.int x0), .val (.int x1), .val (.int (x0 &&& (3 : Int32)))] [(.int (0 : Int32))]) _
        refine Go.retN X10 hx (t := .boolean) hret hlk (by simp) (hb hby d12_34) e10 (by decide) (by decide) ?_
        exact ⟨show some (Value.int (0 : Int32)) = _ from by simp only [fSame, own_same]; simp [eq_true hc10_0, eq_false hc17_1, eq_false hc30_2], N10, rfl⟩
  · refine Go.of (fun _ k => XS.icmpNo X2.here hx rfl (hb hby d12_10) rfl (feq hc10_0).1 k) ?_
    show Go p e below T2 (mkF m 13 #[.val (.int x0), .val (.int x1), .val (.int (x0 &&& (3 : Int32)))] []) _
    refine Go.of (fun _ k => XS.iconst X2.here hx rfl (hb hby d12_13) k) ?_
    show Go p e below T2 (mkF m 14 #[.val (.int x0), .val (.int x1), .val (.int (x0 &&& (3 : Int32)))] [(.int (0 : Int32))]) _
    refine Go.retN X2 hx (t := .boolean) hret hlk (by simp) (hb hby d12_14) e2 (by decide) (by decide) ?_
    exact ⟨show some (Value.int (0 : Int32)) = _ from by simp only [fSame, own_same]; simp [eq_false hc10_0], N2, rfl⟩
theorem d13_0 : decode prog_52_method_3_code 0 = .ok (.aload_n 1, 1) := by decide +kernel
theorem d13_1 : decode prog_52_method_3_code 1 = .ok (.instanceof 8, 3) := by decide +kernel
theorem d13_4 : decode prog_52_method_3_code 4 = .ok (.ifCond .eq 40, 3) := by decide +kernel
theorem d13_44 : decode prog_52_method_3_code 44 = .ok (.iconst 0, 1) := by decide +kernel
theorem d13_45 : decode prog_52_method_3_code 45 = .ok (.ireturn, 1) := by decide +kernel
theorem own_ef_rmE0 (m : MethodId) (x0 : Addr) : entryFrame m #[(.ref x0), .null] 3 = mkF m 0 #[.val (.ref x0), .val .null, .unset] [] := by first | (simp [entryFrame, mkF, argsToLocals, Value.category]; done) | rfl
def Q_rmE0 (Z : State) (x0 : Addr) (h0 : Heap) (n0 : Nat) : Option Value → Heap → List Loc → Prop := fun v h L => v = some (.int 0) ∧ Fr n0 L ∧ h = h0
set_option maxRecDepth 65536 in
set_option maxHeartbeats 40000000 in
theorem rmE0 (l : Launch) (Z : State) (a0 : Array Value) (hw : ∀ d ∈ tables_1, d.before a0 Z = true) (ws : List Jvm.Cond) (x0 : Addr) (h0 : Heap) (n0 : Nat) (Z0 : n0 ≤ h0.size)  :
    Ctr l Z (⟨"com/example/cascadex/cascadex/Letter$OfText", "equals", "(Ljava/lang/Object;)Z"⟩ : MethodName) prog_52_method_3_code 3 (some .boolean) ws ({ frames := 0, cells := 0, slots := 0, locals := 0 } : Room) #[(.ref x0), .null] h0 (Q_rmE0 Z x0 h0 n0) := by
  refine Ctr.intro (plainFor_of_name own_pn3) ?_
  intro p e s m below meth c s₁ hx hby hml hown hnm hret hlk hZ X0 e0
  have hown : s.vm.findClass "com/example/cascadex/cascadex/Letter$OfText" = some m.cls := hown
  have hml : c.maxLocals = 3 := hml
  have N0 := Fr.nil n0
  refine Go.cast (own_ef_rmE0 m x0) ?_
  show Go p e below s₁ (mkF m 0 #[.val (.ref x0), .val .null, .unset] []) _
  refine Go.of (fun _ k => XS.aloadN X0.here hx rfl (hb hby d13_0) rfl rfl  k) ?_
  show Go p e below s₁ (mkF m 1 #[.val (.ref x0), .val .null, .unset] [.null]) _
  refine Go.of (fun _ k => X0.instanceofNull hx (g := (mkF m 1 #[.val (.ref x0), .val .null, .unset] [.null])) rfl rfl (hb hby d13_1) _ k) ?_
  show Go p e below s₁ (mkF m 4 #[.val (.ref x0), .val .null, .unset] [(.int (0 : Int32))]) _
  refine Go.of (fun _ k => XS.ifYes X0.here hx rfl (pc0 := 4) (pc' := 44) rfl (hb hby d13_4) rfl ((if0 _ _).trans (teq (show (0 : Int32) = (0 : Int32) from (by decide))).1) (by decide) (by decide) k) ?_
  show Go p e below s₁ (mkF m 44 #[.val (.ref x0), .val .null, .unset] []) _
  refine Go.of (fun _ k => XS.iconst X0.here hx rfl (hb hby d13_44) k) ?_
  show Go p e below s₁ (mkF m 45 #[.val (.ref x0), .val .null, .unset] [(.int (0 : Int32))]) _
  refine Go.retN X0 hx (t := .boolean) hret hlk (by simp) (hb hby d13_45) e0 (by decide) (by decide) ?_
  exact ⟨rfl, N0, rfl⟩
theorem own_ef_rmE1 (m : MethodId) (x0 : Addr) (x1 : Addr) : entryFrame m #[(.ref x0), (.ref x1)] 3 = mkF m 0 #[.val (.ref x0), .val (.ref x1), .unset] [] := by first | (simp [entryFrame, mkF, argsToLocals, Value.category]; done) | rfl
def Q_rmE1 (Z : State) (x0 x1 : Addr) (h0 : Heap) (n0 : Nat) : Option Value → Heap → List Loc → Prop := fun v h L => v = some (.int 0) ∧ Fr n0 L ∧ h = h0
set_option maxRecDepth 65536 in
set_option maxHeartbeats 40000000 in
theorem rmE1 (l : Launch) (Z : State) (a0 : Array Value) (hw : ∀ d ∈ tables_1, d.before a0 Z = true) (ws : List Jvm.Cond) (x0 x1 : Addr) (h0 : Heap) (n0 : Nat) (Z0 : n0 ≤ h0.size) (E_x1 : Exa Z h0 x1 "com/example/cascadex/cascadex/Letter$OfTag") :
    Ctr l Z (⟨"com/example/cascadex/cascadex/Letter$OfText", "equals", "(Ljava/lang/Object;)Z"⟩ : MethodName) prog_52_method_3_code 3 (some .boolean) ws ({ frames := 0, cells := 0, slots := 0, locals := 0 } : Room) #[(.ref x0), (.ref x1)] h0 (Q_rmE1 Z x0 x1 h0 n0) := by
  refine Ctr.intro (plainFor_of_name own_pn3) ?_
  intro p e s m below meth c s₁ hx hby hml hown hnm hret hlk hZ X0 e0
  have hown : s.vm.findClass "com/example/cascadex/cascadex/Letter$OfText" = some m.cls := hown
  have hml : c.maxLocals = 3 := hml
  have N0 := Fr.nil n0
  refine Go.cast (own_ef_rmE1 m x0 x1) ?_
  show Go p e below s₁ (mkF m 0 #[.val (.ref x0), .val (.ref x1), .unset] []) _
  refine Go.of (fun _ k => XS.aloadN X0.here hx rfl (hb hby d13_0) rfl rfl  k) ?_
  show Go p e below s₁ (mkF m 1 #[.val (.ref x0), .val (.ref x1), .unset] [(.ref x1)]) _
  obtain ⟨T1, X1, e1, st1⟩ := instNo X0 hx hZ hown (hw _ (List.mem_of_getElem? (i := 67) rfl)) e0 E_x1 (own_no hw) (g := (mkF m 1 #[.val (.ref x0), .val (.ref x1), .unset] [(.ref x1)])) rfl rfl (hb hby d13_1)
  refine Go.of (fun _ k => st1 _ k) ?_
  show Go p e below T1 (mkF m 4 #[.val (.ref x0), .val (.ref x1), .unset] [(.int (0 : Int32))]) _
  refine Go.of (fun _ k => XS.ifYes X1.here hx rfl (pc0 := 4) (pc' := 44) rfl (hb hby d13_4) rfl ((if0 _ _).trans (teq (show (0 : Int32) = (0 : Int32) from (by decide))).1) (by decide) (by decide) k) ?_
  show Go p e below T1 (mkF m 44 #[.val (.ref x0), .val (.ref x1), .unset] []) _
  refine Go.of (fun _ k => XS.iconst X1.here hx rfl (hb hby d13_44) k) ?_
  show Go p e below T1 (mkF m 45 #[.val (.ref x0), .val (.ref x1), .unset] [(.int (0 : Int32))]) _
  refine Go.retN X1 hx (t := .boolean) hret hlk (by simp) (hb hby d13_45) e1 (by decide) (by decide) ?_
  exact ⟨rfl, N0, rfl⟩
theorem d13_7 : decode prog_52_method_3_code 7 = .ok (.aload_n 1, 1) := by decide +kernel
theorem d13_8 : decode prog_52_method_3_code 8 = .ok (.checkcast 8, 3) := by decide +kernel
theorem d13_11 : decode prog_52_method_3_code 11 = .ok (.astore_n 2, 1) := by decide +kernel
theorem d13_12 : decode prog_52_method_3_code 12 = .ok (.aload_n 0, 1) := by decide +kernel
theorem d13_13 : decode prog_52_method_3_code 13 = .ok (.getfield 7, 3) := by decide +kernel
theorem d13_16 : decode prog_52_method_3_code 16 = .ok (.aload_n 2, 1) := by decide +kernel
theorem d13_17 : decode prog_52_method_3_code 17 = .ok (.getfield 7, 3) := by decide +kernel
theorem d13_20 : decode prog_52_method_3_code 20 = .ok (.invokevirtual 21, 3) := by decide +kernel
theorem own_pd5 : parseMethodDescriptor "(Ljava/lang/Object;)Z" = some ⟨[(.object "java/lang/Object")], some .boolean⟩ := by decide +kernel
theorem d13_23 : decode prog_52_method_3_code 23 = .ok (.ifCond .eq 21, 3) := by decide +kernel
theorem d13_26 : decode prog_52_method_3_code 26 = .ok (.aload_n 0, 1) := by decide +kernel
theorem d13_27 : decode prog_52_method_3_code 27 = .ok (.getfield 13, 3) := by decide +kernel
theorem d13_30 : decode prog_52_method_3_code 30 = .ok (.aload_n 2, 1) := by decide +kernel
theorem d13_31 : decode prog_52_method_3_code 31 = .ok (.getfield 13, 3) := by decide +kernel
theorem d13_34 : decode prog_52_method_3_code 34 = .ok (.invokevirtual 21, 3) := by decide +kernel
theorem d13_37 : decode prog_52_method_3_code 37 = .ok (.ifCond .eq 7, 3) := by decide +kernel
theorem d13_40 : decode prog_52_method_3_code 40 = .ok (.iconst 1, 1) := by decide +kernel
theorem d13_41 : decode prog_52_method_3_code 41 = .ok (.goto 4, 3) := by decide +kernel
theorem own_ef_rmE2 (m : MethodId) (x0 : Addr) (x1 : Addr) : entryFrame m #[(.ref x0), (.ref x1)] 3 = mkF m 0 #[.val (.ref x0), .val (.ref x1), .unset] [] := by first | (simp [entryFrame, mkF, argsToLocals, Value.category]; done) | rfl
def Q_rmE2 (Z : State) (x0 x1 u1 u2 v1 v2 tu1 tu2 tv1 tv2 : Addr) (ku1 ku2 kv1 kv2 : ClassId) (cs ds es gs : List Int32) (zc : Int32) (h0 : Heap) (n0 : Nat) : Option Value → Heap → List Loc → Prop := fun v h L => v = some (.int (fEq cs ds es gs)) ∧ Fr n0 L ∧ h = h0
set_option maxRecDepth 65536 in
set_option maxHeartbeats 40000000 in
theorem rmE2 (l : Launch) (Z : State) (a0 : Array Value) (hw : ∀ d ∈ tables_1, d.before a0 Z = true) (ws : List Jvm.Cond) (x0 x1 u1 u2 v1 v2 tu1 tu2 tv1 tv2 : Addr) (ku1 ku2 kv1 kv2 : ClassId) (cs ds es gs : List Int32) (zc : Int32) (h0 : Heap) (n0 : Nat) (Z0 : n0 ≤ h0.size) (OL : Old Z n0 h0) (O2 : Sta Z Z.heap "java/lang/String" "COMPACT_STRINGS" "Z" (.int zc)) (hzc : ¬ zc = 0) (E_x1 : Exa Z h0 x1 "com/example/cascadex/cascadex/Letter$OfText") (Fa1 : Fld Z h0 x0 "com/example/cascadex/cascadex/Letter$OfText" "type" "Ljava/lang/String;" (.ref u1)) (Fa2 : Fld Z h0 x0 "com/example/cascadex/cascadex/Letter$OfText" "text" "Ljava/lang/String;" (.ref u2)) (Fb1 : Fld Z h0 x1 "com/example/cascadex/cascadex/Letter$OfText" "type" "Ljava/lang/String;" (.ref v1)) (Fb2 : Fld Z h0 x1 "com/example/cascadex/cascadex/Letter$OfText" "text" "Ljava/lang/String;" (.ref v2)) (Es_u1 : Exa Z h0 u1 "java/lang/String") (Fc_u1 : Fld Z h0 u1 "java/lang/String" "coder" "B" (.int 0)) (Fv_u1 : Fld Z h0 u1 "java/lang/String" "value" "[B" (.ref tu1)) (Vs_u1 : Arv Z h0 tu1 ku1 .byte (Int32.ofNat cs.length) (byt cs) (.int 0)) (hp_u1 : ∀ c ∈ cs, chr c) (hl_u1 : cs.length ≤ 3) (Es_u2 : Exa Z h0 u2 "java/lang/String") (Fc_u2 : Fld Z h0 u2 "java/lang/String" "coder" "B" (.int 0)) (Fv_u2 : Fld Z h0 u2 "java/lang/String" "value" "[B" (.ref tu2)) (Vs_u2 : Arv Z h0 tu2 ku2 .byte (Int32.ofNat ds.length) (byt ds) (.int 0)) (hp_u2 : ∀ c ∈ ds, chr c) (hl_u2 : ds.length ≤ 3) (Es_v1 : Exa Z h0 v1 "java/lang/String") (Fc_v1 : Fld Z h0 v1 "java/lang/String" "coder" "B" (.int 0)) (Fv_v1 : Fld Z h0 v1 "java/lang/String" "value" "[B" (.ref tv1)) (Vs_v1 : Arv Z h0 tv1 kv1 .byte (Int32.ofNat es.length) (byt es) (.int 0)) (hp_v1 : ∀ c ∈ es, chr c) (hl_v1 : es.length ≤ 3) (Es_v2 : Exa Z h0 v2 "java/lang/String") (Fc_v2 : Fld Z h0 v2 "java/lang/String" "coder" "B" (.int 0)) (Fv_v2 : Fld Z h0 v2 "java/lang/String" "value" "[B" (.ref tv2)) (Vs_v2 : Arv Z h0 tv2 kv2 .byte (Int32.ofNat gs.length) (byt gs) (.int 0)) (hp_v2 : ∀ c ∈ gs, chr c) (hl_v2 : gs.length ≤ 3) :
    Ctr l Z (⟨"com/example/cascadex/cascadex/Letter$OfText", "equals", "(Ljava/lang/Object;)Z"⟩ : MethodName) prog_52_method_3_code 3 (some .boolean) ws ({ frames := 2, cells := 0, slots := 0, locals := 28 } : Room) #[(.ref x0), (.ref x1)] h0 (Q_rmE2 Z x0 x1 u1 u2 v1 v2 tu1 tu2 tv1 tv2 ku1 ku2 kv1 kv2 cs ds es gs zc h0 n0) := by
  refine Ctr.intro (plainFor_of_name own_pn3) ?_
  intro p e s m below meth c s₁ hx hby hml hown hnm hret hlk hZ X0 e0
  have hown : s.vm.findClass "com/example/cascadex/cascadex/Letter$OfText" = some m.cls := hown
  have hml : c.maxLocals = 3 := hml
  have N0 := Fr.nil n0
  refine Go.cast (own_ef_rmE2 m x0 x1) ?_
  show Go p e below s₁ (mkF m 0 #[.val (.ref x0), .val (.ref x1), .unset] []) _
  refine Go.of (fun _ k => XS.aloadN X0.here hx rfl (hb hby d13_0) rfl rfl  k) ?_
  show Go p e below s₁ (mkF m 1 #[.val (.ref x0), .val (.ref x1), .unset] [(.ref x1)]) _
  obtain ⟨T1, X1, e1, st1⟩ := instY X0 hx hZ hown (hw _ (List.mem_of_getElem? (i := 67) rfl)) e0 (Ins.self E_x1) (g := (mkF m 1 #[.val (.ref x0), .val (.ref x1), .unset] [(.ref x1)])) rfl rfl (hb hby d13_1)
  refine Go.of (fun _ k => st1 _ k) ?_
  show Go p e below T1 (mkF m 4 #[.val (.ref x0), .val (.ref x1), .unset] [(.int (1 : Int32))]) _
  refine Go.of (fun _ k => XS.ifNo X1.here hx rfl (hb hby d13_4) rfl ((if0 _ _).trans (feq (show ¬ ((1 : Int32) = (0 : Int32)) from (by decide))).1) k) ?_
  show Go p e below T1 (mkF m 7 #[.val (.ref x0), .val (.ref x1), .unset] []) _
  refine Go.of (fun _ k => XS.aloadN X1.here hx rfl (hb hby d13_7) rfl rfl  k) ?_
  show Go p e below T1 (mkF m 8 #[.val (.ref x0), .val (.ref x1), .unset] [(.ref x1)]) _
  obtain ⟨T2, X2, e2, st2⟩ := castY X1 hx hZ hown (hw _ (List.mem_of_getElem? (i := 67) rfl)) e1 (Ins.self E_x1) (g := (mkF m 8 #[.val (.ref x0), .val (.ref x1), .unset] [(.ref x1)])) rfl rfl (hb hby d13_8)
  refine Go.of (fun _ k => st2 _ k) ?_
  show Go p e below T2 (mkF m 11 #[.val (.ref x0), .val (.ref x1), .unset] [(.ref x1)]) _
  refine Go.of (fun _ k => XS.astoreN X2.here hx rfl (hb hby d13_11) rfl rfl (l' := #[.val (.ref x0), .val (.ref x1), .val (.ref x1)]) rfl k) ?_
  show Go p e below T2 (mkF m 12 #[.val (.ref x0), .val (.ref x1), .val (.ref x1)] []) _
  refine Go.of (fun _ k => XS.aloadN X2.here hx rfl (hb hby d13_12) rfl rfl  k) ?_
  show Go p e below T2 (mkF m 13 #[.val (.ref x0), .val (.ref x1), .val (.ref x1)] [(.ref x0)]) _
  obtain ⟨T3, X3, e3, st3⟩ := getF X2 hx hZ hown (host := "") (Or.inl (hw _ (List.mem_of_getElem? (i := 55) rfl))) Via.refl e2 Fa1 (g := (mkF m 13 #[.val (.ref x0), .val (.ref x1), .val (.ref x1)] [(.ref x0)])) rfl rfl (hb hby d13_13)
  refine Go.of (fun _ k => st3 _ k) ?_
  show Go p e below T3 (mkF m 16 #[.val (.ref x0), .val (.ref x1), .val (.ref x1)] [(.ref u1)]) _
  refine Go.of (fun _ k => XS.aloadN X3.here hx rfl (hb hby d13_16) rfl rfl  k) ?_
  show Go p e below T3 (mkF m 17 #[.val (.ref x0), .val (.ref x1), .val (.ref x1)] [(.ref x1), (.ref u1)]) _
  obtain ⟨T4, X4, e4, st4⟩ := getF X3 hx hZ hown (host := "") (Or.inl (hw _ (List.mem_of_getElem? (i := 55) rfl))) Via.refl e3 Fb1 (g := (mkF m 17 #[.val (.ref x0), .val (.ref x1), .val (.ref x1)] [(.ref x1), (.ref u1)])) rfl rfl (hb hby d13_17)
  refine Go.of (fun _ k => st4 _ k) ?_
  show Go p e below T4 (mkF m 20 #[.val (.ref x0), .val (.ref x1), .val (.ref x1)] [(.ref v1), (.ref u1)]) _
  obtain ⟨cq5, kq5, q5a, q5b, q5c⟩ := isOf hZ e4 Es_u1
  obtain ⟨_, _, ⟨T5, L5, kq5, nq5⟩, -, X5, ⟨Lc5, hQ5, l5, y5, z5⟩, st5⟩ := X4.virtualBack hx (y := (⟨"java/lang/String", "equals", "(Ljava/lang/Object;)Z"⟩ : MethodName)) (z := (⟨"java/lang/String", "equals", "(Ljava/lang/Object;)Z"⟩ : MethodName)) hown (mvT hZ (hw _ (List.mem_of_getElem? (i := 69) rfl))) (mvT hZ (hw _ (List.mem_of_getElem? (i := 70) rfl))) (notFace_of_selects (args := #[]) (mvT hZ (hw _ (List.mem_of_getElem? (i := 72) rfl)))) (mvT hZ (hw _ (List.mem_of_getElem? (i := 72) rfl))) (mvT hZ (hw _ (List.mem_of_getElem? (i := 71) rfl))) (by decide) (StrChars.Road.eqW (W := 0) hZ (own_weq hw) (kI := 4) (hw _ (List.mem_of_getElem? (i := 11) rfl)) Es_u1 Fv_u1 Fc_u1 Vs_u1 (StrChars.Road.codOf (n := cs.length) rfl (fun c hc => (hp_u1 c hc).2)) (own_up hp_u1) (by omega) Es_v1 Fv_v1 Fc_v1 Vs_v1 (StrChars.Road.codOf (n := es.length) rfl (fun c hc => (hp_v1 c hc).2)) (own_up hp_v1) (by omega) (O2.ext OL.2) hzc (by decide) (by decide)) q5a q5c (g := (mkF m 20 #[.val (.ref x0), .val (.ref x1), .val (.ref x1)] [(.ref v1), (.ref u1)])) rfl (by rw [hml]; rfl) (Steps.refl _) (argsL := [(.ref v1)]) (rest := []) (lenOf own_pd5 rfl) rfl (by show 2 * 0 + _ ≤ _; exact Nat.le_of_eq rfl) (hb hby d13_20) (fun _ _ => ⟨rfl, e4, (by decide : 0 + 0 ≤ _), (by decide : 0 + 0 ≤ _)⟩)
  dsimp only [Pt.U, Pt.locs, Pt.cells, Pt.slots] at X5 l5 y5 z5 st5 hQ5
  subst l5 y5 z5
  obtain ⟨hcase, rfl, e5⟩ := hQ5
  have N5 := Fr.app N0 (Fr.nil n0)
  rcases hcase with ⟨rfl, hq5⟩ | ⟨rfl, hq5⟩
  · refine Go.of (fun _ k => st5.trans k) ?_
    show Go p e below T5 (mkF m 23 #[.val (.ref x0), .val (.ref x1), .val (.ref x1)] [(.int (1 : Int32))]) _
    refine Go.of (fun _ k => XS.ifNo X5.here hx rfl (hb hby d13_23) rfl ((if0 _ _).trans (feq (show ¬ ((1 : Int32) = (0 : Int32)) from (by decide))).1) k) ?_
    show Go p e below T5 (mkF m 26 #[.val (.ref x0), .val (.ref x1), .val (.ref x1)] []) _
    refine Go.of (fun _ k => XS.aloadN X5.here hx rfl (hb hby d13_26) rfl rfl  k) ?_
    show Go p e below T5 (mkF m 27 #[.val (.ref x0), .val (.ref x1), .val (.ref x1)] [(.ref x0)]) _
    obtain ⟨T6, X6, e6, st6⟩ := getF X5 hx hZ hown (host := "") (Or.inl (hw _ (List.mem_of_getElem? (i := 57) rfl))) Via.refl e5 Fa2 (g := (mkF m 27 #[.val (.ref x0), .val (.ref x1), .val (.ref x1)] [(.ref x0)])) rfl rfl (hb hby d13_27)
    refine Go.of (fun _ k => st6 _ k) ?_
    show Go p e below T6 (mkF m 30 #[.val (.ref x0), .val (.ref x1), .val (.ref x1)] [(.ref u2)]) _
    refine Go.of (fun _ k => XS.aloadN X6.here hx rfl (hb hby d13_30) rfl rfl  k) ?_
    show Go p e below T6 (mkF m 31 #[.val (.ref x0), .val (.ref x1), .val (.ref x1)] [(.ref x1), (.ref u2)]) _
    obtain ⟨T7, X7, e7, st7⟩ := getF X6 hx hZ hown (host := "") (Or.inl (hw _ (List.mem_of_getElem? (i := 57) rfl))) Via.refl e6 Fb2 (g := (mkF m 31 #[.val (.ref x0), .val (.ref x1), .val (.ref x1)] [(.ref x1), (.ref u2)])) rfl rfl (hb hby d13_31)
    refine Go.of (fun _ k => st7 _ k) ?_
    show Go p e below T7 (mkF m 34 #[.val (.ref x0), .val (.ref x1), .val (.ref x1)] [(.ref v2), (.ref u2)]) _
    obtain ⟨cq8, kq8, q8a, q8b, q8c⟩ := isOf hZ e7 Es_u2
    obtain ⟨_, _, ⟨T8, L8, kq8, nq8⟩, -, X8, ⟨Lc8, hQ8, l8, y8, z8⟩, st8⟩ := X7.virtualBack hx (y := (⟨"java/lang/String", "equals", "(Ljava/lang/Object;)Z"⟩ : MethodName)) (z := (⟨"java/lang/String", "equals", "(Ljava/lang/Object;)Z"⟩ : MethodName)) hown (mvT hZ (hw _ (List.mem_of_getElem? (i := 69) rfl))) (mvT hZ (hw _ (List.mem_of_getElem? (i := 70) rfl))) (notFace_of_selects (args := #[]) (mvT hZ (hw _ (List.mem_of_getElem? (i := 72) rfl)))) (mvT hZ (hw _ (List.mem_of_getElem? (i := 72) rfl))) (mvT hZ (hw _ (List.mem_of_getElem? (i := 71) rfl))) (by decide) (StrChars.Road.eqW (W := 0) hZ (own_weq hw) (kI := 4) (hw _ (List.mem_of_getElem? (i := 11) rfl)) Es_u2 Fv_u2 Fc_u2 Vs_u2 (StrChars.Road.codOf (n := ds.length) rfl (fun c hc => (hp_u2 c hc).2)) (own_up hp_u2) (by omega) Es_v2 Fv_v2 Fc_v2 Vs_v2 (StrChars.Road.codOf (n := gs.length) rfl (fun c hc => (hp_v2 c hc).2)) (own_up hp_v2) (by omega) (O2.ext OL.2) hzc (by decide) (by decide)) q8a q8c (g := (mkF m 34 #[.val (.ref x0), .val (.ref x1), .val (.ref x1)] [(.ref v2), (.ref u2)])) rfl (by rw [hml]; rfl) (Steps.refl _) (argsL := [(.ref v2)]) (rest := []) (lenOf own_pd5 rfl) rfl (by show 2 * 0 + _ ≤ _; exact Nat.le_of_eq rfl) (hb hby d13_34) (fun _ _ => ⟨rfl, e7, (by decide : 0 + 0 ≤ _), (by decide : 0 + 0 ≤ _)⟩)
    dsimp only [Pt.U, Pt.locs, Pt.cells, Pt.slots] at X8 l8 y8 z8 st8 hQ8
    subst l8 y8 z8
    obtain ⟨hcase, rfl, e8⟩ := hQ8
    have N8 := Fr.app N5 (Fr.nil n0)
    rcases hcase with ⟨rfl, hq8⟩ | ⟨rfl, hq8⟩
    · refine Go.of (fun _ k => st8.trans k) ?_
      show Go p e below T8 (mkF m 37 #[.val (.ref x0), .val (.ref x1), .val (.ref x1)] [(.int (1 : Int32))]) _
      refine Go.of (fun _ k => XS.ifNo X8.here hx rfl (hb hby d13_37) rfl ((if0 _ _).trans (feq (show ¬ ((1 : Int32) = (0 : Int32)) from (by decide))).1) k) ?_
      show Go p e below T8 (mkF m 40 #[.val (.ref x0), .val (.ref x1), .val (.ref x1)] []) _
      refine Go.of (fun _ k => XS.iconst X8.here hx rfl (hb hby d13_40) k) ?_
      show Go p e below T8 (mkF m 41 #[.val (.ref x0), .val (.ref x1), .val (.ref x1)] [(.int (1 : Int32))]) _
      refine Go.of (fun _ k => XS.goto X8.here hx rfl (pc0 := 41) (pc' := 45) rfl (hb hby d13_41) (by decide) (by decide) k) ?_
      show Go p e below T8 (mkF m 45 #[.val (.ref x0), .val (.ref x1), .val (.ref x1)] [(.int (1 : Int32))]) _
      refine Go.retN X8 hx (t := .boolean) hret hlk (by simp) (hb hby d13_45) e8 (by decide) (by decide) ?_
      exact ⟨show some (Value.int (1 : Int32)) = _ from by simp [fEq, eq_true hq5, eq_true hq8], N8, rfl⟩
    · refine Go.of (fun _ k => st8.trans k) ?_
      show Go p e below T8 (mkF m 37 #[.val (.ref x0), .val (.ref x1), .val (.ref x1)] [(.int (0 : Int32))]) _
      refine Go.of (fun _ k => XS.ifYes X8.here hx rfl (pc0 := 37) (pc' := 44) rfl (hb hby d13_37) rfl ((if0 _ _).trans (teq (show (0 : Int32) = (0 : Int32) from (by decide))).1) (by decide) (by decide) k) ?_
      show Go p e below T8 (mkF m 44 #[.val (.ref x0), .val (.ref x1), .val (.ref x1)] []) _
      refine Go.of (fun _ k => XS.iconst X8.here hx rfl (hb hby d13_44) k) ?_
      show Go p e below T8 (mkF m 45 #[.val (.ref x0), .val (.ref x1), .val (.ref x1)] [(.int (0 : Int32))]) _
      refine Go.retN X8 hx (t := .boolean) hret hlk (by simp) (hb hby d13_45) e8 (by decide) (by decide) ?_
      exact ⟨show some (Value.int (0 : Int32)) = _ from by simp [fEq, eq_true hq5, eq_false hq8], N8, rfl⟩
  · refine Go.of (fun _ k => st5.trans k) ?_
    show Go p e below T5 (mkF m 23 #[.val (.ref x0), .val (.ref x1), .val (.ref x1)] [(.int (0 : Int32))]) _
    refine Go.of (fun _ k => XS.ifYes X5.here hx rfl (pc0 := 23) (pc' := 44) rfl (hb hby d13_23) rfl ((if0 _ _).trans (teq (show (0 : Int32) = (0 : Int32) from (by decide))).1) (by decide) (by decide) k) ?_
    show Go p e below T5 (mkF m 44 #[.val (.ref x0), .val (.ref x1), .val (.ref x1)] []) _
    refine Go.of (fun _ k => XS.iconst X5.here hx rfl (hb hby d13_44) k) ?_
    show Go p e below T5 (mkF m 45 #[.val (.ref x0), .val (.ref x1), .val (.ref x1)] [(.int (0 : Int32))]) _
    refine Go.retN X5 hx (t := .boolean) hret hlk (by simp) (hb hby d13_45) e5 (by decide) (by decide) ?_
    exact ⟨show some (Value.int (0 : Int32)) = _ from by simp [fEq, eq_false hq5], N5, rfl⟩
theorem d19_0 : decode jdk_42_method_154_code 0 = .ok (.getstatic 38, 3) := by decide +kernel
theorem d19_3 : decode jdk_42_method_154_code 3 = .ok (.ifCond .eq 14, 3) := by decide +kernel
theorem d19_6 : decode jdk_42_method_154_code 6 = .ok (.aload_n 0, 1) := by decide +kernel
theorem d19_7 : decode jdk_42_method_154_code 7 = .ok (.getfield 15, 3) := by decide +kernel
theorem d19_10 : decode jdk_42_method_154_code 10 = .ok (.ifCond .ne 7, 3) := by decide +kernel
theorem d19_13 : decode jdk_42_method_154_code 13 = .ok (.iconst 1, 1) := by decide +kernel
theorem d19_14 : decode jdk_42_method_154_code 14 = .ok (.goto 4, 3) := by decide +kernel
theorem d19_18 : decode jdk_42_method_154_code 18 = .ok (.ireturn, 1) := by decide +kernel
theorem own_ef_rm19 (m : MethodId) (x0 : Addr) : entryFrame m #[(.ref x0)] 1 = mkF m 0 #[.val (.ref x0)] [] := by first | (simp [entryFrame, mkF, argsToLocals, Value.category]; done) | rfl
def Q_rm19 (Z : State) (x0 : Addr) (zc : Int32) (h0 : Heap) (n0 : Nat) : Option Value → Heap → List Loc → Prop := fun v h L => v = some (.int 1) ∧ Fr n0 L ∧ h = h0
set_option maxRecDepth 65536 in
set_option maxHeartbeats 40000000 in
theorem rm19 (l : Launch) (Z : State) (a0 : Array Value) (hw : ∀ d ∈ tables_1, d.before a0 Z = true) (ws : List Jvm.Cond) (x0 : Addr) (zc : Int32) (h0 : Heap) (n0 : Nat) (Z0 : n0 ≤ h0.size) (OL : Old Z n0 h0) (O2 : Sta Z Z.heap "java/lang/String" "COMPACT_STRINGS" "Z" (.int zc)) (hzc : ¬ zc = 0) (F_c : Fld Z h0 x0 "java/lang/String" "coder" "B" (.int 0)) :
    Ctr l Z (⟨"java/lang/String", "isLatin1", "()Z"⟩ : MethodName) jdk_42_method_154_code 1 (some .boolean) ws ({ frames := 0, cells := 0, slots := 0, locals := 0 } : Room) #[(.ref x0)] h0 (Q_rm19 Z x0 zc h0 n0) := by
  refine Ctr.intro (plainFor_of_name own_pn0) ?_
  intro p e s m below meth c s₁ hx hby hml hown hnm hret hlk hZ X0 e0
  have hown : s.vm.findClass "java/lang/String" = some m.cls := hown
  have hml : c.maxLocals = 1 := hml
  have N0 := Fr.nil n0
  refine Go.cast (own_ef_rm19 m x0) ?_
  show Go p e below s₁ (mkF m 0 #[.val (.ref x0)] []) _
  obtain ⟨T1, X1, e1, st1⟩ := getS2 X0 hx hZ hown (host := "") (Or.inl (hw _ (List.mem_of_getElem? (i := 35) rfl))) Via.refl e0 (O2.ext OL.2) (g := (mkF m 0 #[.val (.ref x0)] [])) rfl (hb hby d19_0)
  refine Go.of (fun _ k => st1 _ k) ?_
  show Go p e below T1 (mkF m 3 #[.val (.ref x0)] [(.int zc)]) _
  refine Go.of (fun _ k => XS.ifNo X1.here hx rfl (hb hby d19_3) rfl ((if0 _ _).trans (feq (show ¬ (zc = (0 : Int32)) from hzc)).1) k) ?_
  show Go p e below T1 (mkF m 6 #[.val (.ref x0)] []) _
  refine Go.of (fun _ k => XS.aloadN X1.here hx rfl (hb hby d19_6) rfl rfl  k) ?_
  show Go p e below T1 (mkF m 7 #[.val (.ref x0)] [(.ref x0)]) _
  obtain ⟨T2, X2, e2, st2⟩ := getF X1 hx hZ hown (host := "") (Or.inl (hw _ (List.mem_of_getElem? (i := 31) rfl))) Via.refl e1 F_c (g := (mkF m 7 #[.val (.ref x0)] [(.ref x0)])) rfl rfl (hb hby d19_7)
  refine Go.of (fun _ k => st2 _ k) ?_
  show Go p e below T2 (mkF m 10 #[.val (.ref x0)] [(.int (0 : Int32))]) _
  refine Go.of (fun _ k => XS.ifNo X2.here hx rfl (hb hby d19_10) rfl ((if0 _ _).trans (teq (show (0 : Int32) = (0 : Int32) from (by decide))).2) k) ?_
  show Go p e below T2 (mkF m 13 #[.val (.ref x0)] []) _
  refine Go.of (fun _ k => XS.iconst X2.here hx rfl (hb hby d19_13) k) ?_
  show Go p e below T2 (mkF m 14 #[.val (.ref x0)] [(.int (1 : Int32))]) _
  refine Go.of (fun _ k => XS.goto X2.here hx rfl (pc0 := 14) (pc' := 18) rfl (hb hby d19_14) (by decide) (by decide) k) ?_
  show Go p e below T2 (mkF m 18 #[.val (.ref x0)] [(.int (1 : Int32))]) _
  refine Go.retN X2 hx (t := .boolean) hret hlk (by simp) (hb hby d19_18) e2 (by decide) (by decide) ?_
  exact ⟨rfl, N0, rfl⟩
theorem d22_0 : decode jdk_48_method_5_code 0 = .ok (.iload_n 2, 1) := by decide +kernel
theorem d22_1 : decode jdk_48_method_5_code 1 = .ok (.iload_n 3, 1) := by decide +kernel
theorem d22_2 : decode jdk_48_method_5_code 2 = .ok (.iadd, 1) := by decide +kernel
theorem d22_3 : decode jdk_48_method_5_code 3 = .ok (.istore 4, 2) := by decide +kernel
theorem d22_5 : decode jdk_48_method_5_code 5 = .ok (.iload_n 2, 1) := by decide +kernel
theorem d22_6 : decode jdk_48_method_5_code 6 = .ok (.istore 5, 2) := by decide +kernel
theorem d22_8 : decode jdk_48_method_5_code 8 = .ok (.iload 5, 2) := by decide +kernel
theorem d22_10 : decode jdk_48_method_5_code 10 = .ok (.iload 4, 2) := by decide +kernel
theorem d22_12 : decode jdk_48_method_5_code 12 = .ok (.if_icmp .ge 23, 3) := by decide +kernel
theorem d22_15 : decode jdk_48_method_5_code 15 = .ok (.bipush 31, 2) := by decide +kernel
theorem d22_17 : decode jdk_48_method_5_code 17 = .ok (.iload_n 0, 1) := by decide +kernel
theorem d22_18 : decode jdk_48_method_5_code 18 = .ok (.imul, 1) := by decide +kernel
theorem d22_19 : decode jdk_48_method_5_code 19 = .ok (.aload_n 1, 1) := by decide +kernel
theorem d22_20 : decode jdk_48_method_5_code 20 = .ok (.iload 5, 2) := by decide +kernel
theorem d22_22 : decode jdk_48_method_5_code 22 = .ok (.baload, 1) := by decide +kernel
theorem d22_23 : decode jdk_48_method_5_code 23 = .ok (.sipush 255, 3) := by decide +kernel
theorem d22_26 : decode jdk_48_method_5_code 26 = .ok (.iand, 1) := by decide +kernel
theorem d22_27 : decode jdk_48_method_5_code 27 = .ok (.iadd, 1) := by decide +kernel
theorem d22_28 : decode jdk_48_method_5_code 28 = .ok (.istore_n 0, 1) := by decide +kernel
theorem d22_29 : decode jdk_48_method_5_code 29 = .ok (.iinc 5 1, 3) := by decide +kernel
theorem d22_32 : decode jdk_48_method_5_code 32 = .ok (.goto (-24), 3) := by decide +kernel
theorem d22_35 : decode jdk_48_method_5_code 35 = .ok (.iload_n 0, 1) := by decide +kernel
theorem d22_36 : decode jdk_48_method_5_code 36 = .ok (.ireturn, 1) := by decide +kernel
theorem own_pn5 : plainName "jdk/internal/util/ArraysSupport" = true := by first | (simp [plainName, overriddenIn]; done) | decide +kernel
theorem own_ef_rmSH2 (m : MethodId) (x1 : Addr) : entryFrame m #[(.int (0 : Int32)), (.ref x1), (.int (0 : Int32)), (.int (2 : Int32))] 6 = mkF m 0 #[.val (.int (0 : Int32)), .val (.ref x1), .val (.int (0 : Int32)), .val (.int (2 : Int32)), .unset, .unset] [] := by first | (simp [entryFrame, mkF, argsToLocals, Value.category]; done) | rfl
def Q_rmSH2 (Z : State) (x1 : Addr) (kb : ClassId) (ca cb : Int32) (h0 : Heap) (n0 : Nat) : Option Value → Heap → List Loc → Prop := fun v h L => v = some (.int (fHs [ca, cb])) ∧ Fr n0 L ∧ h = h0
set_option maxRecDepth 65536 in
set_option maxHeartbeats 40000000 in
theorem rmSH2 (l : Launch) (Z : State) (a0 : Array Value) (hw : ∀ d ∈ tables_1, d.before a0 Z = true) (ws : List Jvm.Cond) (x1 : Addr) (kb : ClassId) (ca cb : Int32) (h0 : Heap) (n0 : Nat) (Z0 : n0 ≤ h0.size) (V_a : Arv Z h0 x1 kb .byte 2 (byt [ca, cb]) (.int 0)) :
    Ctr l Z (⟨"jdk/internal/util/ArraysSupport", "signedHashCode", "(I[BII)I"⟩ : MethodName) jdk_48_method_5_code 6 (some .int) ws ({ frames := 0, cells := 0, slots := 0, locals := 0 } : Room) #[(.int (0 : Int32)), (.ref x1), (.int (0 : Int32)), (.int (2 : Int32))] h0 (Q_rmSH2 Z x1 kb ca cb h0 n0) := by
  refine Ctr.intro (plainFor_of_name own_pn5) ?_
  intro p e s m below meth c s₁ hx hby hml hown hnm hret hlk hZ X0 e0
  have hown : s.vm.findClass "jdk/internal/util/ArraysSupport" = some m.cls := hown
  have hml : c.maxLocals = 6 := hml
  have N0 := Fr.nil n0
  refine Go.cast (own_ef_rmSH2 m x1) ?_
  show Go p e below s₁ (mkF m 0 #[.val (.int (0 : Int32)), .val (.ref x1), .val (.int (0 : Int32)), .val (.int (2 : Int32)), .unset, .unset] []) _
  refine Go.of (fun _ k => XS.iloadN X0.here hx rfl (hb hby d22_0) rfl  k) ?_
  show Go p e below s₁ (mkF m 1 #[.val (.int (0 : Int32)), .val (.ref x1), .val (.int (0 : Int32)), .val (.int (2 : Int32)), .unset, .unset] [(.int (0 : Int32))]) _
  refine Go.of (fun _ k => XS.iloadN X0.here hx rfl (hb hby d22_1) rfl  k) ?_
  show Go p e below s₁ (mkF m 2 #[.val (.int (0 : Int32)), .val (.ref x1), .val (.int (0 : Int32)), .val (.int (2 : Int32)), .unset, .unset] [(.int (2 : Int32)), (.int (0 : Int32))]) _
  refine Go.of (fun _ k => XS.iadd X0.here hx rfl (hb hby d22_2) rfl k) ?_
  show Go p e below s₁ (mkF m 3 #[.val (.int (0 : Int32)), .val (.ref x1), .val (.int (0 : Int32)), .val (.int (2 : Int32)), .unset, .unset] [(.int (2 : Int32))]) _
  refine Go.of (fun _ k => XS.istore X0.here hx rfl (hb hby d22_3) rfl (l' := #[.val (.int (0 : Int32)), .val (.ref x1), .val (.int (0 : Int32)), .val (.int (2 : Int32)), .val (.int (2 : Int32)), .unset]) rfl k) ?_
  show Go p e below s₁ (mkF m 5 #[.val (.int (0 : Int32)), .val (.ref x1), .val (.int (0 : Int32)), .val (.int (2 : Int32)), .val (.int (2 : Int32)), .unset] []) _
  refine Go.of (fun _ k => XS.iloadN X0.here hx rfl (hb hby d22_5) rfl  k) ?_
  show Go p e below s₁ (mkF m 6 #[.val (.int (0 : Int32)), .val (.ref x1), .val (.int (0 : Int32)), .val (.int (2 : Int32)), .val (.int (2 : Int32)), .unset] [(.int (0 : Int32))]) _
  refine Go.of (fun _ k => XS.istore X0.here hx rfl (hb hby d22_6) rfl (l' := #[.val (.int (0 : Int32)), .val (.ref x1), .val (.int (0 : Int32)), .val (.int (2 : Int32)), .val (.int (2 : Int32)), .val (.int (0 : Int32))]) rfl k) ?_
  show Go p e below s₁ (mkF m 8 #[.val (.int (0 : Int32)), .val (.ref x1), .val (.int (0 : Int32)), .val (.int (2 : Int32)), .val (.int (2 : Int32)), .val (.int (0 : Int32))] []) _
  refine Go.of (fun _ k => XS.iload X0.here hx rfl (hb hby d22_8) rfl  k) ?_
  show Go p e below s₁ (mkF m 10 #[.val (.int (0 : Int32)), .val (.ref x1), .val (.int (0 : Int32)), .val (.int (2 : Int32)), .val (.int (2 : Int32)), .val (.int (0 : Int32))] [(.int (0 : Int32))]) _
  refine Go.of (fun _ k => XS.iload X0.here hx rfl (hb hby d22_10) rfl  k) ?_
  show Go p e below s₁ (mkF m 12 #[.val (.int (0 : Int32)), .val (.ref x1), .val (.int (0 : Int32)), .val (.int (2 : Int32)), .val (.int (2 : Int32)), .val (.int (0 : Int32))] [(.int (2 : Int32)), (.int (0 : Int32))]) _
  refine Go.of (fun _ k => XS.icmpNo X0.here hx rfl (hb hby d22_12) rfl (tlt (show (0 : Int32) < (2 : Int32) from (by decide))).2.1 k) ?_
  show Go p e below s₁ (mkF m 15 #[.val (.int (0 : Int32)), .val (.ref x1), .val (.int (0 : Int32)), .val (.int (2 : Int32)), .val (.int (2 : Int32)), .val (.int (0 : Int32))] []) _
  refine Go.of (fun _ k => XS.bipush X0.here hx rfl (hb hby d22_15) k) ?_
  show Go p e below s₁ (mkF m 17 #[.val (.int (0 : Int32)), .val (.ref x1), .val (.int (0 : Int32)), .val (.int (2 : Int32)), .val (.int (2 : Int32)), .val (.int (0 : Int32))] [(.int (31 : Int32))]) _
  refine Go.of (fun _ k => XS.iloadN X0.here hx rfl (hb hby d22_17) rfl  k) ?_
  show Go p e below s₁ (mkF m 18 #[.val (.int (0 : Int32)), .val (.ref x1), .val (.int (0 : Int32)), .val (.int (2 : Int32)), .val (.int (2 : Int32)), .val (.int (0 : Int32))] [(.int (0 : Int32)), (.int (31 : Int32))]) _
  refine Go.of (fun _ k => XS.imul X0.here hx rfl (hb hby d22_18) rfl k) ?_
  show Go p e below s₁ (mkF m 19 #[.val (.int (0 : Int32)), .val (.ref x1), .val (.int (0 : Int32)), .val (.int (2 : Int32)), .val (.int (2 : Int32)), .val (.int (0 : Int32))] [(.int (0 : Int32))]) _
  refine Go.of (fun _ k => XS.aloadN X0.here hx rfl (hb hby d22_19) rfl rfl  k) ?_
  show Go p e below s₁ (mkF m 20 #[.val (.int (0 : Int32)), .val (.ref x1), .val (.int (0 : Int32)), .val (.int (2 : Int32)), .val (.int (2 : Int32)), .val (.int (0 : Int32))] [(.ref x1), (.int (0 : Int32))]) _
  refine Go.of (fun _ k => XS.iload X0.here hx rfl (hb hby d22_20) rfl  k) ?_
  show Go p e below s₁ (mkF m 22 #[.val (.int (0 : Int32)), .val (.ref x1), .val (.int (0 : Int32)), .val (.int (2 : Int32)), .val (.int (2 : Int32)), .val (.int (0 : Int32))] [(.int (0 : Int32)), (.ref x1), (.int (0 : Int32))]) _
  obtain ⟨cl1, A1, -, Sz1, -, H1, -⟩ := id V_a
  refine Go.of (fun _ k => X0.baloadBytes hx (j := (0 : Int32)) (v := (.int ca.toInt8.toInt32)) (by rw [e0]; exact A1.1) (State.isArrayOf_alike hZ.alike A1.2.1) A1.2.2 (inb_of Sz1 ⟨by decide, by decide⟩) (H1 0 (by rw [Sz1]; decide)) (g := (mkF m 22 #[.val (.int (0 : Int32)), .val (.ref x1), .val (.int (0 : Int32)), .val (.int (2 : Int32)), .val (.int (2 : Int32)), .val (.int (0 : Int32))] [(.int (0 : Int32)), (.ref x1), (.int (0 : Int32))])) rfl rfl (hb hby d22_22) _ k) ?_
  show Go p e below s₁ (mkF m 23 #[.val (.int (0 : Int32)), .val (.ref x1), .val (.int (0 : Int32)), .val (.int (2 : Int32)), .val (.int (2 : Int32)), .val (.int (0 : Int32))] [(.int ca.toInt8.toInt32), (.int (0 : Int32))]) _
  refine Go.of (fun _ k => XS.sipush X0.here hx rfl (hb hby d22_23) k) ?_
  show Go p e below s₁ (mkF m 26 #[.val (.int (0 : Int32)), .val (.ref x1), .val (.int (0 : Int32)), .val (.int (2 : Int32)), .val (.int (2 : Int32)), .val (.int (0 : Int32))] [(.int (255 : Int32)), (.int ca.toInt8.toInt32), (.int (0 : Int32))]) _
  refine Go.of (fun _ k => XS.iand X0.here hx rfl (hb hby d22_26) rfl k) ?_
  show Go p e below s₁ (mkF m 27 #[.val (.int (0 : Int32)), .val (.ref x1), .val (.int (0 : Int32)), .val (.int (2 : Int32)), .val (.int (2 : Int32)), .val (.int (0 : Int32))] [(.int (ca.toInt8.toInt32 &&& (255 : Int32))), (.int (0 : Int32))]) _
  refine Go.of (fun _ k => XS.iadd X0.here hx rfl (hb hby d22_27) rfl k) ?_
  show Go p e below s₁ (mkF m 28 #[.val (.int (0 : Int32)), .val (.ref x1), .val (.int (0 : Int32)), .val (.int (2 : Int32)), .val (.int (2 : Int32)), .val (.int (0 : Int32))] [(.int ((0 : Int32) + (ca.toInt8.toInt32 &&& (255 : Int32))))]) _
  refine Go.of (fun _ k => XS.istoreN X0.here hx rfl (hb hby d22_28) rfl (l' := #[.val (.int ((0 : Int32) + (ca.toInt8.toInt32 &&& (255 : Int32)))), .val (.ref x1), .val (.int (0 : Int32)), .val (.int (2 : Int32)), .val (.int (2 : Int32)), .val (.int (0 : Int32))]) rfl k) ?_
  show Go p e below s₁ (mkF m 29 #[.val (.int ((0 : Int32) + (ca.toInt8.toInt32 &&& (255 : Int32)))), .val (.ref x1), .val (.int (0 : Int32)), .val (.int (2 : Int32)), .val (.int (2 : Int32)), .val (.int (0 : Int32))] []) _
  refine Go.of (fun _ k => XS.iinc X0.here hx rfl (hb hby d22_29) rfl (l' := #[.val (.int ((0 : Int32) + (ca.toInt8.toInt32 &&& (255 : Int32)))), .val (.ref x1), .val (.int (0 : Int32)), .val (.int (2 : Int32)), .val (.int (2 : Int32)), .val (.int (1 : Int32))]) rfl k) ?_
  show Go p e below s₁ (mkF m 32 #[.val (.int ((0 : Int32) + (ca.toInt8.toInt32 &&& (255 : Int32)))), .val (.ref x1), .val (.int (0 : Int32)), .val (.int (2 : Int32)), .val (.int (2 : Int32)), .val (.int (1 : Int32))] []) _
  refine Go.of (fun _ k => XS.goto X0.here hx rfl (pc0 := 32) (pc' := 8) rfl (hb hby d22_32) (by decide) (by decide) k) ?_
  show Go p e below s₁ (mkF m 8 #[.val (.int ((0 : Int32) + (ca.toInt8.toInt32 &&& (255 : Int32)))), .val (.ref x1), .val (.int (0 : Int32)), .val (.int (2 : Int32)), .val (.int (2 : Int32)), .val (.int (1 : Int32))] []) _
  refine Go.of (fun _ k => XS.iload X0.here hx rfl (hb hby d22_8) rfl  k) ?_
  show Go p e below s₁ (mkF m 10 #[.val (.int ((0 : Int32) + (ca.toInt8.toInt32 &&& (255 : Int32)))), .val (.ref x1), .val (.int (0 : Int32)), .val (.int (2 : Int32)), .val (.int (2 : Int32)), .val (.int (1 : Int32))] [(.int (1 : Int32))]) _
  refine Go.of (fun _ k => XS.iload X0.here hx rfl (hb hby d22_10) rfl  k) ?_
  show Go p e below s₁ (mkF m 12 #[.val (.int ((0 : Int32) + (ca.toInt8.toInt32 &&& (255 : Int32)))), .val (.ref x1), .val (.int (0 : Int32)), .val (.int (2 : Int32)), .val (.int (2 : Int32)), .val (.int (1 : Int32))] [(.int (2 : Int32)), (.int (1 : Int32))]) _
  refine Go.of (fun _ k => XS.icmpNo X0.here hx rfl (hb hby d22_12) rfl (tlt (show (1 : Int32) < (2 : Int32) from (by decide))).2.1 k) ?_
  show Go p e below s₁ (mkF m 15 #[.val (.int ((0 : Int32) + (ca.toInt8.toInt32 &&& (255 : Int32)))), .val (.ref x1), .val (.int (0 : Int32)), .val (.int (2 : Int32)), .val (.int (2 : Int32)), .val (.int (1 : Int32))] []) _
  refine Go.of (fun _ k => XS.bipush X0.here hx rfl (hb hby d22_15) k) ?_
  show Go p e below s₁ (mkF m 17 #[.val (.int ((0 : Int32) + (ca.toInt8.toInt32 &&& (255 : Int32)))), .val (.ref x1), .val (.int (0 : Int32)), .val (.int (2 : Int32)), .val (.int (2 : Int32)), .val (.int (1 : Int32))] [(.int (31 : Int32))]) _
  refine Go.of (fun _ k => XS.iloadN X0.here hx rfl (hb hby d22_17) rfl  k) ?_
  show Go p e below s₁ (mkF m 18 #[.val (.int ((0 : Int32) + (ca.toInt8.toInt32 &&& (255 : Int32)))), .val (.ref x1), .val (.int (0 : Int32)), .val (.int (2 : Int32)), .val (.int (2 : Int32)), .val (.int (1 : Int32))] [(.int ((0 : Int32) + (ca.toInt8.toInt32 &&& (255 : Int32)))), (.int (31 : Int32))]) _
  refine Go.of (fun _ k => XS.imul X0.here hx rfl (hb hby d22_18) rfl k) ?_
  show Go p e below s₁ (mkF m 19 #[.val (.int ((0 : Int32) + (ca.toInt8.toInt32 &&& (255 : Int32)))), .val (.ref x1), .val (.int (0 : Int32)), .val (.int (2 : Int32)), .val (.int (2 : Int32)), .val (.int (1 : Int32))] [(.int ((31 : Int32) * ((0 : Int32) + (ca.toInt8.toInt32 &&& (255 : Int32)))))]) _
  refine Go.of (fun _ k => XS.aloadN X0.here hx rfl (hb hby d22_19) rfl rfl  k) ?_
  show Go p e below s₁ (mkF m 20 #[.val (.int ((0 : Int32) + (ca.toInt8.toInt32 &&& (255 : Int32)))), .val (.ref x1), .val (.int (0 : Int32)), .val (.int (2 : Int32)), .val (.int (2 : Int32)), .val (.int (1 : Int32))] [(.ref x1), (.int ((31 : Int32) * ((0 : Int32) + (ca.toInt8.toInt32 &&& (255 : Int32)))))]) _
  refine Go.of (fun _ k => XS.iload X0.here hx rfl (hb hby d22_20) rfl  k) ?_
  show Go p e below s₁ (mkF m 22 #[.val (.int ((0 : Int32) + (ca.toInt8.toInt32 &&& (255 : Int32)))), .val (.ref x1), .val (.int (0 : Int32)), .val (.int (2 : Int32)), .val (.int (2 : Int32)), .val (.int (1 : Int32))] [(.int (1 : Int32)), (.ref x1), (.int ((31 : Int32) * ((0 : Int32) + (ca.toInt8.toInt32 &&& (255 : Int32)))))]) _
  obtain ⟨cl2, A2, -, Sz2, -, H2, -⟩ := id V_a
  refine Go.of (fun _ k => X0.baloadBytes hx (j := (1 : Int32)) (v := (.int cb.toInt8.toInt32)) (by rw [e0]; exact A2.1) (State.isArrayOf_alike hZ.alike A2.2.1) A2.2.2 (inb_of Sz2 ⟨by decide, by decide⟩) (H2 1 (by rw [Sz2]; decide)) (g := (mkF m 22 #[.val (.int ((0 : Int32) + (ca.toInt8.toInt32 &&& (255 : Int32)))), .val (.ref x1), .val (.int (0 : Int32)), .val (.int (2 : Int32)), .val (.int (2 : Int32)), .val (.int (1 : Int32))] [(.int (1 : Int32)), (.ref x1), (.int ((31 : Int32) * ((0 : Int32) + (ca.toInt8.toInt32 &&& (255 : Int32)))))])) rfl rfl (hb hby d22_22) _ k) ?_
  show Go p e below s₁ (mkF m 23 #[.val (.int ((0 : Int32) + (ca.toInt8.toInt32 &&& (255 : Int32)))), .val (.ref x1), .val (.int (0 : Int32)), .val (.int (2 : Int32)), .val (.int (2 : Int32)), .val (.int (1 : Int32))] [(.int cb.toInt8.toInt32), (.int ((31 : Int32) * ((0 : Int32) + (ca.toInt8.toInt32 &&& (255 : Int32)))))]) _
  refine Go.of (fun _ k => XS.sipush X0.here hx rfl (hb hby d22_23) k) ?_
  show Go p e below s₁ (mkF m 26 #[.val (.int ((0 : Int32) + (ca.toInt8.toInt32 &&& (255 : Int32)))), .val (.ref x1), .val (.int (0 : Int32)), .val (.int (2 : Int32)), .val (.int (2 : Int32)), .val (.int (1 : Int32))] [(.int (255 : Int32)), (.int cb.toInt8.toInt32), (.int ((31 : Int32) * ((0 : Int32) + (ca.toInt8.toInt32 &&& (255 : Int32)))))]) _
  refine Go.of (fun _ k => XS.iand X0.here hx rfl (hb hby d22_26) rfl k) ?_
  show Go p e below s₁ (mkF m 27 #[.val (.int ((0 : Int32) + (ca.toInt8.toInt32 &&& (255 : Int32)))), .val (.ref x1), .val (.int (0 : Int32)), .val (.int (2 : Int32)), .val (.int (2 : Int32)), .val (.int (1 : Int32))] [(.int (cb.toInt8.toInt32 &&& (255 : Int32))), (.int ((31 : Int32) * ((0 : Int32) + (ca.toInt8.toInt32 &&& (255 : Int32)))))]) _
  refine Go.of (fun _ k => XS.iadd X0.here hx rfl (hb hby d22_27) rfl k) ?_
  show Go p e below s₁ (mkF m 28 #[.val (.int ((0 : Int32) + (ca.toInt8.toInt32 &&& (255 : Int32)))), .val (.ref x1), .val (.int (0 : Int32)), .val (.int (2 : Int32)), .val (.int (2 : Int32)), .val (.int (1 : Int32))] [(.int (((31 : Int32) * ((0 : Int32) + (ca.toInt8.toInt32 &&& (255 : Int32)))) + (cb.toInt8.toInt32 &&& (255 : Int32))))]) _
  refine Go.of (fun _ k => XS.istoreN X0.here hx rfl (hb hby d22_28) rfl (l' := #[.val (.int (((31 : Int32) * ((0 : Int32) + (ca.toInt8.toInt32 &&& (255 : Int32)))) + (cb.toInt8.toInt32 &&& (255 : Int32)))), .val (.ref x1), .val (.int (0 : Int32)), .val (.int (2 : Int32)), .val (.int (2 : Int32)), .val (.int (1 : Int32))]) rfl k) ?_
  show Go p e below s₁ (mkF m 29 #[.val (.int (((31 : Int32) * ((0 : Int32) + (ca.toInt8.toInt32 &&& (255 : Int32)))) + (cb.toInt8.toInt32 &&& (255 : Int32)))), .val (.ref x1), .val (.int (0 : Int32)), .val (.int (2 : Int32)), .val (.int (2 : Int32)), .val (.int (1 : Int32))] []) _
  refine Go.of (fun _ k => XS.iinc X0.here hx rfl (hb hby d22_29) rfl (l' := #[.val (.int (((31 : Int32) * ((0 : Int32) + (ca.toInt8.toInt32 &&& (255 : Int32)))) + (cb.toInt8.toInt32 &&& (255 : Int32)))), .val (.ref x1), .val (.int (0 : Int32)), .val (.int (2 : Int32)), .val (.int (2 : Int32)), .val (.int (2 : Int32))]) rfl k) ?_
  show Go p e below s₁ (mkF m 32 #[.val (.int (((31 : Int32) * ((0 : Int32) + (ca.toInt8.toInt32 &&& (255 : Int32)))) + (cb.toInt8.toInt32 &&& (255 : Int32)))), .val (.ref x1), .val (.int (0 : Int32)), .val (.int (2 : Int32)), .val (.int (2 : Int32)), .val (.int (2 : Int32))] []) _
  refine Go.of (fun _ k => XS.goto X0.here hx rfl (pc0 := 32) (pc' := 8) rfl (hb hby d22_32) (by decide) (by decide) k) ?_
  show Go p e below s₁ (mkF m 8 #[.val (.int (((31 : Int32) * ((0 : Int32) + (ca.toInt8.toInt32 &&& (255 : Int32)))) + (cb.toInt8.toInt32 &&& (255 : Int32)))), .val (.ref x1), .val (.int (0 : Int32)), .val (.int (2 : Int32)), .val (.int (2 : Int32)), .val (.int (2 : Int32))] []) _
  refine Go.of (fun _ k => XS.iload X0.here hx rfl (hb hby d22_8) rfl  k) ?_
  show Go p e below s₁ (mkF m 10 #[.val (.int (((31 : Int32) * ((0 : Int32) + (ca.toInt8.toInt32 &&& (255 : Int32)))) + (cb.toInt8.toInt32 &&& (255 : Int32)))), .val (.ref x1), .val (.int (0 : Int32)), .val (.int (2 : Int32)), .val (.int (2 : Int32)), .val (.int (2 : Int32))] [(.int (2 : Int32))]) _
  refine Go.of (fun _ k => XS.iload X0.here hx rfl (hb hby d22_10) rfl  k) ?_
  show Go p e below s₁ (mkF m 12 #[.val (.int (((31 : Int32) * ((0 : Int32) + (ca.toInt8.toInt32 &&& (255 : Int32)))) + (cb.toInt8.toInt32 &&& (255 : Int32)))), .val (.ref x1), .val (.int (0 : Int32)), .val (.int (2 : Int32)), .val (.int (2 : Int32)), .val (.int (2 : Int32))] [(.int (2 : Int32)), (.int (2 : Int32))]) _
  refine Go.of (fun _ k => XS.icmpYes X0.here hx rfl (pc0 := 12) (pc' := 35) rfl (hb hby d22_12) rfl (flt (show ¬ ((2 : Int32) < (2 : Int32)) from (by decide))).2.1 (by decide) (by decide) k) ?_
  show Go p e below s₁ (mkF m 35 #[.val (.int (((31 : Int32) * ((0 : Int32) + (ca.toInt8.toInt32 &&& (255 : Int32)))) + (cb.toInt8.toInt32 &&& (255 : Int32)))), .val (.ref x1), .val (.int (0 : Int32)), .val (.int (2 : Int32)), .val (.int (2 : Int32)), .val (.int (2 : Int32))] []) _
  refine Go.of (fun _ k => XS.iloadN X0.here hx rfl (hb hby d22_35) rfl  k) ?_
  show Go p e below s₁ (mkF m 36 #[.val (.int (((31 : Int32) * ((0 : Int32) + (ca.toInt8.toInt32 &&& (255 : Int32)))) + (cb.toInt8.toInt32 &&& (255 : Int32)))), .val (.ref x1), .val (.int (0 : Int32)), .val (.int (2 : Int32)), .val (.int (2 : Int32)), .val (.int (2 : Int32))] [(.int (((31 : Int32) * ((0 : Int32) + (ca.toInt8.toInt32 &&& (255 : Int32)))) + (cb.toInt8.toInt32 &&& (255 : Int32))))]) _
  refine Go.retI X0 hx hret hlk (hb hby d22_36) e0 (by decide) (by decide) ?_
  exact ⟨rfl, N0, rfl⟩
theorem own_insB {Z : State} {h : Heap} {a : Addr} {k : ClassId} {z : Int32} {vs : List Value} {d : Value} (fk : Z.vm.findClass "[B" = some k) (V : Arv Z h a k .byte z vs d) : Ins Z h a "[B" true := by
  obtain ⟨c, A, rfl, -⟩ := V
  obtain ⟨kk, q1, -⟩ := Vm.findClass_spec fk
  have hst : c.vm.isStatics = false := A.plain
  exact Ins.self ⟨c, kk, A.1, fk, q1, hst, fun hk => by
    obtain ⟨-, k2, e2, comp, hkind⟩ := A.2.1
    cases q1.symm.trans e2
    rw [hk] at hkind; cases hkind⟩
theorem d21_0 : decode jdk_48_method_4_code 0 = .ok (.iload 4, 2) := by decide +kernel
theorem d21_2 : decode jdk_48_method_4_code 2 = .ok (.tableswitch 127 4 10 #[42, 55, 127, 127, 88, 101, 114], 42) := by decide +kernel
theorem d21_44 : decode jdk_48_method_4_code 44 = .ok (.iload_n 3, 1) := by decide +kernel
theorem d21_45 : decode jdk_48_method_4_code 45 = .ok (.aload_n 0, 1) := by decide +kernel
theorem d21_46 : decode jdk_48_method_4_code 46 = .ok (.checkcast 60, 3) := by decide +kernel
theorem d21_49 : decode jdk_48_method_4_code 49 = .ok (.iload_n 1, 1) := by decide +kernel
theorem d21_50 : decode jdk_48_method_4_code 50 = .ok (.iload_n 2, 1) := by decide +kernel
theorem d21_51 : decode jdk_48_method_4_code 51 = .ok (.invokestatic 62, 3) := by decide +kernel
theorem own_pd6 : parseMethodDescriptor "(I[BII)I" = some ⟨[.int, (.array .byte), .int, .int], some .int⟩ := by decide +kernel
theorem d21_54 : decode jdk_48_method_4_code 54 = .ok (.goto 103, 3) := by decide +kernel
theorem d21_157 : decode jdk_48_method_4_code 157 = .ok (.ireturn, 1) := by decide +kernel
theorem own_ef_rmV2 (m : MethodId) (x1 : Addr) : entryFrame m #[(.ref x1), (.int (0 : Int32)), (.int (2 : Int32)), (.int (0 : Int32)), (.int (4 : Int32))] 5 = mkF m 0 #[.val (.ref x1), .val (.int (0 : Int32)), .val (.int (2 : Int32)), .val (.int (0 : Int32)), .val (.int (4 : Int32))] [] := by first | (simp [entryFrame, mkF, argsToLocals, Value.category]; done) | rfl
def Q_rmV2 (Z : State) (x1 : Addr) (kb : ClassId) (ca cb : Int32) (h0 : Heap) (n0 : Nat) : Option Value → Heap → List Loc → Prop := fun v h L => v = some (.int (fHs [ca, cb])) ∧ Fr n0 L ∧ h = h0
set_option maxRecDepth 65536 in
set_option maxHeartbeats 40000000 in
theorem rmV2 (l : Launch) (Z : State) (a0 : Array Value) (hw : ∀ d ∈ tables_1, d.before a0 Z = true) (ws : List Jvm.Cond) (x1 : Addr) (kb : ClassId) (ca cb : Int32) (h0 : Heap) (n0 : Nat) (Z0 : n0 ≤ h0.size) (V_a : Arv Z h0 x1 kb .byte 2 (byt [ca, cb]) (.int 0)) (fk : Z.vm.findClass "[B" = some kb) :
    Ctr l Z (⟨"jdk/internal/util/ArraysSupport", "vectorizedHashCode", "(Ljava/lang/Object;IIII)I"⟩ : MethodName) jdk_48_method_4_code 5 (some .int) ws ({ frames := 1, cells := 0, slots := 0, locals := 17 } : Room) #[(.ref x1), (.int (0 : Int32)), (.int (2 : Int32)), (.int (0 : Int32)), (.int (4 : Int32))] h0 (Q_rmV2 Z x1 kb ca cb h0 n0) := by
  refine Ctr.intro (plainFor_of_name own_pn5) ?_
  intro p e s m below meth c s₁ hx hby hml hown hnm hret hlk hZ X0 e0
  have hown : s.vm.findClass "jdk/internal/util/ArraysSupport" = some m.cls := hown
  have hml : c.maxLocals = 5 := hml
  have N0 := Fr.nil n0
  refine Go.cast (own_ef_rmV2 m x1) ?_
  show Go p e below s₁ (mkF m 0 #[.val (.ref x1), .val (.int (0 : Int32)), .val (.int (2 : Int32)), .val (.int (0 : Int32)), .val (.int (4 : Int32))] []) _
  refine Go.of (fun _ k => XS.iload X0.here hx rfl (hb hby d21_0) rfl  k) ?_
  show Go p e below s₁ (mkF m 2 #[.val (.ref x1), .val (.int (0 : Int32)), .val (.int (2 : Int32)), .val (.int (0 : Int32)), .val (.int (4 : Int32))] [(.int (4 : Int32))]) _
  refine Go.of (fun _ k => XS.tswIn X0.here hx rfl (pc0 := 2) (pc' := 44) (o := 42) rfl (hb hby d21_2) rfl (by decide) (by decide) (by decide) (by decide) k) ?_
  show Go p e below s₁ (mkF m 44 #[.val (.ref x1), .val (.int (0 : Int32)), .val (.int (2 : Int32)), .val (.int (0 : Int32)), .val (.int (4 : Int32))] []) _
  refine Go.of (fun _ k => XS.iloadN X0.here hx rfl (hb hby d21_44) rfl  k) ?_
  show Go p e below s₁ (mkF m 45 #[.val (.ref x1), .val (.int (0 : Int32)), .val (.int (2 : Int32)), .val (.int (0 : Int32)), .val (.int (4 : Int32))] [(.int (0 : Int32))]) _
  refine Go.of (fun _ k => XS.aloadN X0.here hx rfl (hb hby d21_45) rfl rfl  k) ?_
  show Go p e below s₁ (mkF m 46 #[.val (.ref x1), .val (.int (0 : Int32)), .val (.int (2 : Int32)), .val (.int (0 : Int32)), .val (.int (4 : Int32))] [(.ref x1), (.int (0 : Int32))]) _
  obtain ⟨T1, X1, e1, st1⟩ := castY X0 hx hZ hown (hw _ (List.mem_of_getElem? (i := 117) rfl)) e0 (own_insB fk V_a) (g := (mkF m 46 #[.val (.ref x1), .val (.int (0 : Int32)), .val (.int (2 : Int32)), .val (.int (0 : Int32)), .val (.int (4 : Int32))] [(.ref x1), (.int (0 : Int32))])) rfl rfl (hb hby d21_46)
  refine Go.of (fun _ k => st1 _ k) ?_
  show Go p e below T1 (mkF m 49 #[.val (.ref x1), .val (.int (0 : Int32)), .val (.int (2 : Int32)), .val (.int (0 : Int32)), .val (.int (4 : Int32))] [(.ref x1), (.int (0 : Int32))]) _
  refine Go.of (fun _ k => XS.iloadN X1.here hx rfl (hb hby d21_49) rfl  k) ?_
  show Go p e below T1 (mkF m 50 #[.val (.ref x1), .val (.int (0 : Int32)), .val (.int (2 : Int32)), .val (.int (0 : Int32)), .val (.int (4 : Int32))] [(.int (0 : Int32)), (.ref x1), (.int (0 : Int32))]) _
  refine Go.of (fun _ k => XS.iloadN X1.here hx rfl (hb hby d21_50) rfl  k) ?_
  show Go p e below T1 (mkF m 51 #[.val (.ref x1), .val (.int (0 : Int32)), .val (.int (2 : Int32)), .val (.int (0 : Int32)), .val (.int (4 : Int32))] [(.int (2 : Int32)), (.int (0 : Int32)), (.ref x1), (.int (0 : Int32))]) _
  obtain ⟨_, _, ⟨T2, L2, kq2, nq2⟩, -, X2, ⟨Lc2, hQ2, l2, y2, z2⟩, st2⟩ := Jvm.LawKit.callS X1 hx (y := (⟨"jdk/internal/util/ArraysSupport", "signedHashCode", "(I[BII)I"⟩ : MethodName)) hown (mvT hZ (hw _ (List.mem_of_getElem? (i := 119) rfl))) (mvT hZ (hw _ (List.mem_of_getElem? (i := 120) rfl))) (mvT hZ (hw _ (List.mem_of_getElem? (i := 115) rfl))) (mvT hZ (hw _ (List.mem_of_getElem? (i := 121) rfl))) (by decide) (backOf (W := 0) (rmSH2 l Z a0 hw [] x1 kb ca cb h0 n0 Z0 V_a) hZ (hw _ (List.mem_of_getElem? (i := 121) rfl)) (hw _ (List.mem_of_getElem? (i := 115) rfl)) (by decide) (by decide)) (g := (mkF m 51 #[.val (.ref x1), .val (.int (0 : Int32)), .val (.int (2 : Int32)), .val (.int (0 : Int32)), .val (.int (4 : Int32))] [(.int (2 : Int32)), (.int (0 : Int32)), (.ref x1), (.int (0 : Int32))])) rfl (by rw [hml]; rfl) (argsL := [(.int (0 : Int32)), (.ref x1), (.int (0 : Int32)), (.int (2 : Int32))]) (rest := []) (lenOf own_pd6 rfl) rfl (by show 2 * 0 + _ ≤ _; exact Nat.le_of_eq rfl) (hb hby d21_51) (fun _ _ => ⟨rfl, e1, (by decide : 0 + 0 ≤ _), (by decide : 0 + 0 ≤ _)⟩)
  dsimp only [Pt.U, Pt.locs, Pt.cells, Pt.slots] at X2 l2 y2 z2 st2 hQ2
  subst l2 y2 z2
  obtain ⟨rfl, Nq2, e2⟩ := hQ2
  have N2 := Fr.app N0 Nq2
  refine Go.of (fun _ k => st2 _ k) ?_
  show Go p e below T2 (mkF m 54 #[.val (.ref x1), .val (.int (0 : Int32)), .val (.int (2 : Int32)), .val (.int (0 : Int32)), .val (.int (4 : Int32))] [(.int (fHs [ca, cb]))]) _
  refine Go.of (fun _ k => XS.goto X2.here hx rfl (pc0 := 54) (pc' := 157) rfl (hb hby d21_54) (by decide) (by decide) k) ?_
  show Go p e below T2 (mkF m 157 #[.val (.ref x1), .val (.int (0 : Int32)), .val (.int (2 : Int32)), .val (.int (0 : Int32)), .val (.int (4 : Int32))] [(.int (fHs [ca, cb]))]) _
  refine Go.retI X2 hx hret hlk (hb hby d21_157) e2 (by decide) (by decide) ?_
  exact ⟨rfl, N2, rfl⟩
theorem own_ef_rmSH3 (m : MethodId) (x1 : Addr) : entryFrame m #[(.int (0 : Int32)), (.ref x1), (.int (0 : Int32)), (.int (3 : Int32))] 6 = mkF m 0 #[.val (.int (0 : Int32)), .val (.ref x1), .val (.int (0 : Int32)), .val (.int (3 : Int32)), .unset, .unset] [] := by first | (simp [entryFrame, mkF, argsToLocals, Value.category]; done) | rfl
def Q_rmSH3 (Z : State) (x1 : Addr) (kb : ClassId) (ca cb cc : Int32) (h0 : Heap) (n0 : Nat) : Option Value → Heap → List Loc → Prop := fun v h L => v = some (.int (fHs [ca, cb, cc])) ∧ Fr n0 L ∧ h = h0
set_option maxRecDepth 65536 in
set_option maxHeartbeats 40000000 in
theorem rmSH3 (l : Launch) (Z : State) (a0 : Array Value) (hw : ∀ d ∈ tables_1, d.before a0 Z = true) (ws : List Jvm.Cond) (x1 : Addr) (kb : ClassId) (ca cb cc : Int32) (h0 : Heap) (n0 : Nat) (Z0 : n0 ≤ h0.size) (V_a : Arv Z h0 x1 kb .byte 3 (byt [ca, cb, cc]) (.int 0)) :
    Ctr l Z (⟨"jdk/internal/util/ArraysSupport", "signedHashCode", "(I[BII)I"⟩ : MethodName) jdk_48_method_5_code 6 (some .int) ws ({ frames := 0, cells := 0, slots := 0, locals := 0 } : Room) #[(.int (0 : Int32)), (.ref x1), (.int (0 : Int32)), (.int (3 : Int32))] h0 (Q_rmSH3 Z x1 kb ca cb cc h0 n0) := by
  refine Ctr.intro (plainFor_of_name own_pn5) ?_
  intro p e s m below meth c s₁ hx hby hml hown hnm hret hlk hZ X0 e0
  have hown : s.vm.findClass "jdk/internal/util/ArraysSupport" = some m.cls := hown
  have hml : c.maxLocals = 6 := hml
  have N0 := Fr.nil n0
  refine Go.cast (own_ef_rmSH3 m x1) ?_
  show Go p e below s₁ (mkF m 0 #[.val (.int (0 : Int32)), .val (.ref x1), .val (.int (0 : Int32)), .val (.int (3 : Int32)), .unset, .unset] []) _
  refine Go.of (fun _ k => XS.iloadN X0.here hx rfl (hb hby d22_0) rfl  k) ?_
  show Go p e below s₁ (mkF m 1 #[.val (.int (0 : Int32)), .val (.ref x1), .val (.int (0 : Int32)), .val (.int (3 : Int32)), .unset, .unset] [(.int (0 : Int32))]) _
  refine Go.of (fun _ k => XS.iloadN X0.here hx rfl (hb hby d22_1) rfl  k) ?_
  show Go p e below s₁ (mkF m 2 #[.val (.int (0 : Int32)), .val (.ref x1), .val (.int (0 : Int32)), .val (.int (3 : Int32)), .unset, .unset] [(.int (3 : Int32)), (.int (0 : Int32))]) _
  refine Go.of (fun _ k => XS.iadd X0.here hx rfl (hb hby d22_2) rfl k) ?_
  show Go p e below s₁ (mkF m 3 #[.val (.int (0 : Int32)), .val (.ref x1), .val (.int (0 : Int32)), .val (.int (3 : Int32)), .unset, .unset] [(.int (3 : Int32))]) _
  refine Go.of (fun _ k => XS.istore X0.here hx rfl (hb hby d22_3) rfl (l' := #[.val (.int (0 : Int32)), .val (.ref x1), .val (.int (0 : Int32)), .val (.int (3 : Int32)), .val (.int (3 : Int32)), .unset]) rfl k) ?_
  show Go p e below s₁ (mkF m 5 #[.val (.int (0 : Int32)), .val (.ref x1), .val (.int (0 : Int32)), .val (.int (3 : Int32)), .val (.int (3 : Int32)), .unset] []) _
  refine Go.of (fun _ k => XS.iloadN X0.here hx rfl (hb hby d22_5) rfl  k) ?_
  show Go p e below s₁ (mkF m 6 #[.val (.int (0 : Int32)), .val (.ref x1), .val (.int (0 : Int32)), .val (.int (3 : Int32)), .val (.int (3 : Int32)), .unset] [(.int (0 : Int32))]) _
  refine Go.of (fun _ k => XS.istore X0.here hx rfl (hb hby d22_6) rfl (l' := #[.val (.int (0 : Int32)), .val (.ref x1), .val (.int (0 : Int32)), .val (.int (3 : Int32)), .val (.int (3 : Int32)), .val (.int (0 : Int32))]) rfl k) ?_
  show Go p e below s₁ (mkF m 8 #[.val (.int (0 : Int32)), .val (.ref x1), .val (.int (0 : Int32)), .val (.int (3 : Int32)), .val (.int (3 : Int32)), .val (.int (0 : Int32))] []) _
  refine Go.of (fun _ k => XS.iload X0.here hx rfl (hb hby d22_8) rfl  k) ?_
  show Go p e below s₁ (mkF m 10 #[.val (.int (0 : Int32)), .val (.ref x1), .val (.int (0 : Int32)), .val (.int (3 : Int32)), .val (.int (3 : Int32)), .val (.int (0 : Int32))] [(.int (0 : Int32))]) _
  refine Go.of (fun _ k => XS.iload X0.here hx rfl (hb hby d22_10) rfl  k) ?_
  show Go p e below s₁ (mkF m 12 #[.val (.int (0 : Int32)), .val (.ref x1), .val (.int (0 : Int32)), .val (.int (3 : Int32)), .val (.int (3 : Int32)), .val (.int (0 : Int32))] [(.int (3 : Int32)), (.int (0 : Int32))]) _
  refine Go.of (fun _ k => XS.icmpNo X0.here hx rfl (hb hby d22_12) rfl (tlt (show (0 : Int32) < (3 : Int32) from (by decide))).2.1 k) ?_
  show Go p e below s₁ (mkF m 15 #[.val (.int (0 : Int32)), .val (.ref x1), .val (.int (0 : Int32)), .val (.int (3 : Int32)), .val (.int (3 : Int32)), .val (.int (0 : Int32))] []) _
  refine Go.of (fun _ k => XS.bipush X0.here hx rfl (hb hby d22_15) k) ?_
  show Go p e below s₁ (mkF m 17 #[.val (.int (0 : Int32)), .val (.ref x1), .val (.int (0 : Int32)), .val (.int (3 : Int32)), .val (.int (3 : Int32)), .val (.int (0 : Int32))] [(.int (31 : Int32))]) _
  refine Go.of (fun _ k => XS.iloadN X0.here hx rfl (hb hby d22_17) rfl  k) ?_
  show Go p e below s₁ (mkF m 18 #[.val (.int (0 : Int32)), .val (.ref x1), .val (.int (0 : Int32)), .val (.int (3 : Int32)), .val (.int (3 : Int32)), .val (.int (0 : Int32))] [(.int (0 : Int32)), (.int (31 : Int32))]) _
  refine Go.of (fun _ k => XS.imul X0.here hx rfl (hb hby d22_18) rfl k) ?_
  show Go p e below s₁ (mkF m 19 #[.val (.int (0 : Int32)), .val (.ref x1), .val (.int (0 : Int32)), .val (.int (3 : Int32)), .val (.int (3 : Int32)), .val (.int (0 : Int32))] [(.int (0 : Int32))]) _
  refine Go.of (fun _ k => XS.aloadN X0.here hx rfl (hb hby d22_19) rfl rfl  k) ?_
  show Go p e below s₁ (mkF m 20 #[.val (.int (0 : Int32)), .val (.ref x1), .val (.int (0 : Int32)), .val (.int (3 : Int32)), .val (.int (3 : Int32)), .val (.int (0 : Int32))] [(.ref x1), (.int (0 : Int32))]) _
  refine Go.of (fun _ k => XS.iload X0.here hx rfl (hb hby d22_20) rfl  k) ?_
  show Go p e below s₁ (mkF m 22 #[.val (.int (0 : Int32)), .val (.ref x1), .val (.int (0 : Int32)), .val (.int (3 : Int32)), .val (.int (3 : Int32)), .val (.int (0 : Int32))] [(.int (0 : Int32)), (.ref x1), (.int (0 : Int32))]) _
  obtain ⟨cl1, A1, -, Sz1, -, H1, -⟩ := id V_a
  refine Go.of (fun _ k => X0.baloadBytes hx (j := (0 : Int32)) (v := (.int ca.toInt8.toInt32)) (by rw [e0]; exact A1.1) (State.isArrayOf_alike hZ.alike A1.2.1) A1.2.2 (inb_of Sz1 ⟨by decide, by decide⟩) (H1 0 (by rw [Sz1]; decide)) (g := (mkF m 22 #[.val (.int (0 : Int32)), .val (.ref x1), .val (.int (0 : Int32)), .val (.int (3 : Int32)), .val (.int (3 : Int32)), .val (.int (0 : Int32))] [(.int (0 : Int32)), (.ref x1), (.int (0 : Int32))])) rfl rfl (hb hby d22_22) _ k) ?_
  show Go p e below s₁ (mkF m 23 #[.val (.int (0 : Int32)), .val (.ref x1), .val (.int (0 : Int32)), .val (.int (3 : Int32)), .val (.int (3 : Int32)), .val (.int (0 : Int32))] [(.int ca.toInt8.toInt32), (.int (0 : Int32))]) _
  refine Go.of (fun _ k => XS.sipush X0.here hx rfl (hb hby d22_23) k) ?_
  show Go p e below s₁ (mkF m 26 #[.val (.int (0 : Int32)), .val (.ref x1), .val (.int (0 : Int32)), .val (.int (3 : Int32)), .val (.int (3 : Int32)), .val (.int (0 : Int32))] [(.int (255 : Int32)), (.int ca.toInt8.toInt32), (.int (0 : Int32))]) _
  refine Go.of (fun _ k => XS.iand X0.here hx rfl (hb hby d22_26) rfl k) ?_
  show Go p e below s₁ (mkF m 27 #[.val (.int (0 : Int32)), .val (.ref x1), .val (.int (0 : Int32)), .val (.int (3 : Int32)), .val (.int (3 : Int32)), .val (.int (0 : Int32))] [(.int (ca.toInt8.toInt32 &&& (255 : Int32))), (.int (0 : Int32))]) _
  refine Go.of (fun _ k => XS.iadd X0.here hx rfl (hb hby d22_27) rfl k) ?_
  show Go p e below s₁ (mkF m 28 #[.val (.int (0 : Int32)), .val (.ref x1), .val (.int (0 : Int32)), .val (.int (3 : Int32)), .val (.int (3 : Int32)), .val (.int (0 : Int32))] [(.int ((0 : Int32) + (ca.toInt8.toInt32 &&& (255 : Int32))))]) _
  refine Go.of (fun _ k => XS.istoreN X0.here hx rfl (hb hby d22_28) rfl (l' := #[.val (.int ((0 : Int32) + (ca.toInt8.toInt32 &&& (255 : Int32)))), .val (.ref x1), .val (.int (0 : Int32)), .val (.int (3 : Int32)), .val (.int (3 : Int32)), .val (.int (0 : Int32))]) rfl k) ?_
  show Go p e below s₁ (mkF m 29 #[.val (.int ((0 : Int32) + (ca.toInt8.toInt32 &&& (255 : Int32)))), .val (.ref x1), .val (.int (0 : Int32)), .val (.int (3 : Int32)), .val (.int (3 : Int32)), .val (.int (0 : Int32))] []) _
  refine Go.of (fun _ k => XS.iinc X0.here hx rfl (hb hby d22_29) rfl (l' := #[.val (.int ((0 : Int32) + (ca.toInt8.toInt32 &&& (255 : Int32)))), .val (.ref x1), .val (.int (0 : Int32)), .val (.int (3 : Int32)), .val (.int (3 : Int32)), .val (.int (1 : Int32))]) rfl k) ?_
  show Go p e below s₁ (mkF m 32 #[.val (.int ((0 : Int32) + (ca.toInt8.toInt32 &&& (255 : Int32)))), .val (.ref x1), .val (.int (0 : Int32)), .val (.int (3 : Int32)), .val (.int (3 : Int32)), .val (.int (1 : Int32))] []) _
  refine Go.of (fun _ k => XS.goto X0.here hx rfl (pc0 := 32) (pc' := 8) rfl (hb hby d22_32) (by decide) (by decide) k) ?_
  show Go p e below s₁ (mkF m 8 #[.val (.int ((0 : Int32) + (ca.toInt8.toInt32 &&& (255 : Int32)))), .val (.ref x1), .val (.int (0 : Int32)), .val (.int (3 : Int32)), .val (.int (3 : Int32)), .val (.int (1 : Int32))] []) _
  refine Go.of (fun _ k => XS.iload X0.here hx rfl (hb hby d22_8) rfl  k) ?_
  show Go p e below s₁ (mkF m 10 #[.val (.int ((0 : Int32) + (ca.toInt8.toInt32 &&& (255 : Int32)))), .val (.ref x1), .val (.int (0 : Int32)), .val (.int (3 : Int32)), .val (.int (3 : Int32)), .val (.int (1 : Int32))] [(.int (1 : Int32))]) _
  refine Go.of (fun _ k => XS.iload X0.here hx rfl (hb hby d22_10) rfl  k) ?_
  show Go p e below s₁ (mkF m 12 #[.val (.int ((0 : Int32) + (ca.toInt8.toInt32 &&& (255 : Int32)))), .val (.ref x1), .val (.int (0 : Int32)), .val (.int (3 : Int32)), .val (.int (3 : Int32)), .val (.int (1 : Int32))] [(.int (3 : Int32)), (.int (1 : Int32))]) _
  refine Go.of (fun _ k => XS.icmpNo X0.here hx rfl (hb hby d22_12) rfl (tlt (show (1 : Int32) < (3 : Int32) from (by decide))).2.1 k) ?_
  show Go p e below s₁ (mkF m 15 #[.val (.int ((0 : Int32) + (ca.toInt8.toInt32 &&& (255 : Int32)))), .val (.ref x1), .val (.int (0 : Int32)), .val (.int (3 : Int32)), .val (.int (3 : Int32)), .val (.int (1 : Int32))] []) _
  refine Go.of (fun _ k => XS.bipush X0.here hx rfl (hb hby d22_15) k) ?_
  show Go p e below s₁ (mkF m 17 #[.val (.int ((0 : Int32) + (ca.toInt8.toInt32 &&& (255 : Int32)))), .val (.ref x1), .val (.int (0 : Int32)), .val (.int (3 : Int32)), .val (.int (3 : Int32)), .val (.int (1 : Int32))] [(.int (31 : Int32))]) _
  refine Go.of (fun _ k => XS.iloadN X0.here hx rfl (hb hby d22_17) rfl  k) ?_
  show Go p e below s₁ (mkF m 18 #[.val (.int ((0 : Int32) + (ca.toInt8.toInt32 &&& (255 : Int32)))), .val (.ref x1), .val (.int (0 : Int32)), .val (.int (3 : Int32)), .val (.int (3 : Int32)), .val (.int (1 : Int32))] [(.int ((0 : Int32) + (ca.toInt8.toInt32 &&& (255 : Int32)))), (.int (31 : Int32))]) _
  refine Go.of (fun _ k => XS.imul X0.here hx rfl (hb hby d22_18) rfl k) ?_
  show Go p e below s₁ (mkF m 19 #[.val (.int ((0 : Int32) + (ca.toInt8.toInt32 &&& (255 : Int32)))), .val (.ref x1), .val (.int (0 : Int32)), .val (.int (3 : Int32)), .val (.int (3 : Int32)), .val (.int (1 : Int32))] [(.int ((31 : Int32) * ((0 : Int32) + (ca.toInt8.toInt32 &&& (255 : Int32)))))]) _
  refine Go.of (fun _ k => XS.aloadN X0.here hx rfl (hb hby d22_19) rfl rfl  k) ?_
  show Go p e below s₁ (mkF m 20 #[.val (.int ((0 : Int32) + (ca.toInt8.toInt32 &&& (255 : Int32)))), .val (.ref x1), .val (.int (0 : Int32)), .val (.int (3 : Int32)), .val (.int (3 : Int32)), .val (.int (1 : Int32))] [(.ref x1), (.int ((31 : Int32) * ((0 : Int32) + (ca.toInt8.toInt32 &&& (255 : Int32)))))]) _
  refine Go.of (fun _ k => XS.iload X0.here hx rfl (hb hby d22_20) rfl  k) ?_
  show Go p e below s₁ (mkF m 22 #[.val (.int ((0 : Int32) + (ca.toInt8.toInt32 &&& (255 : Int32)))), .val (.ref x1), .val (.int (0 : Int32)), .val (.int (3 : Int32)), .val (.int (3 : Int32)), .val (.int (1 : Int32))] [(.int (1 : Int32)), (.ref x1), (.int ((31 : Int32) * ((0 : Int32) + (ca.toInt8.toInt32 &&& (255 : Int32)))))]) _
  obtain ⟨cl2, A2, -, Sz2, -, H2, -⟩ := id V_a
  refine Go.of (fun _ k => X0.baloadBytes hx (j := (1 : Int32)) (v := (.int cb.toInt8.toInt32)) (by rw [e0]; exact A2.1) (State.isArrayOf_alike hZ.alike A2.2.1) A2.2.2 (inb_of Sz2 ⟨by decide, by decide⟩) (H2 1 (by rw [Sz2]; decide)) (g := (mkF m 22 #[.val (.int ((0 : Int32) + (ca.toInt8.toInt32 &&& (255 : Int32)))), .val (.ref x1), .val (.int (0 : Int32)), .val (.int (3 : Int32)), .val (.int (3 : Int32)), .val (.int (1 : Int32))] [(.int (1 : Int32)), (.ref x1), (.int ((31 : Int32) * ((0 : Int32) + (ca.toInt8.toInt32 &&& (255 : Int32)))))])) rfl rfl (hb hby d22_22) _ k) ?_
  show Go p e below s₁ (mkF m 23 #[.val (.int ((0 : Int32) + (ca.toInt8.toInt32 &&& (255 : Int32)))), .val (.ref x1), .val (.int (0 : Int32)), .val (.int (3 : Int32)), .val (.int (3 : Int32)), .val (.int (1 : Int32))] [(.int cb.toInt8.toInt32), (.int ((31 : Int32) * ((0 : Int32) + (ca.toInt8.toInt32 &&& (255 : Int32)))))]) _
  refine Go.of (fun _ k => XS.sipush X0.here hx rfl (hb hby d22_23) k) ?_
  show Go p e below s₁ (mkF m 26 #[.val (.int ((0 : Int32) + (ca.toInt8.toInt32 &&& (255 : Int32)))), .val (.ref x1), .val (.int (0 : Int32)), .val (.int (3 : Int32)), .val (.int (3 : Int32)), .val (.int (1 : Int32))] [(.int (255 : Int32)), (.int cb.toInt8.toInt32), (.int ((31 : Int32) * ((0 : Int32) + (ca.toInt8.toInt32 &&& (255 : Int32)))))]) _
  refine Go.of (fun _ k => XS.iand X0.here hx rfl (hb hby d22_26) rfl k) ?_
  show Go p e below s₁ (mkF m 27 #[.val (.int ((0 : Int32) + (ca.toInt8.toInt32 &&& (255 : Int32)))), .val (.ref x1), .val (.int (0 : Int32)), .val (.int (3 : Int32)), .val (.int (3 : Int32)), .val (.int (1 : Int32))] [(.int (cb.toInt8.toInt32 &&& (255 : Int32))), (.int ((31 : Int32) * ((0 : Int32) + (ca.toInt8.toInt32 &&& (255 : Int32)))))]) _
  refine Go.of (fun _ k => XS.iadd X0.here hx rfl (hb hby d22_27) rfl k) ?_
  show Go p e below s₁ (mkF m 28 #[.val (.int ((0 : Int32) + (ca.toInt8.toInt32 &&& (255 : Int32)))), .val (.ref x1), .val (.int (0 : Int32)), .val (.int (3 : Int32)), .val (.int (3 : Int32)), .val (.int (1 : Int32))] [(.int (((31 : Int32) * ((0 : Int32) + (ca.toInt8.toInt32 &&& (255 : Int32)))) + (cb.toInt8.toInt32 &&& (255 : Int32))))]) _
  refine Go.of (fun _ k => XS.istoreN X0.here hx rfl (hb hby d22_28) rfl (l' := #[.val (.int (((31 : Int32) * ((0 : Int32) + (ca.toInt8.toInt32 &&& (255 : Int32)))) + (cb.toInt8.toInt32 &&& (255 : Int32)))), .val (.ref x1), .val (.int (0 : Int32)), .val (.int (3 : Int32)), .val (.int (3 : Int32)), .val (.int (1 : Int32))]) rfl k) ?_
  show Go p e below s₁ (mkF m 29 #[.val (.int (((31 : Int32) * ((0 : Int32) + (ca.toInt8.toInt32 &&& (255 : Int32)))) + (cb.toInt8.toInt32 &&& (255 : Int32)))), .val (.ref x1), .val (.int (0 : Int32)), .val (.int (3 : Int32)), .val (.int (3 : Int32)), .val (.int (1 : Int32))] []) _
  refine Go.of (fun _ k => XS.iinc X0.here hx rfl (hb hby d22_29) rfl (l' := #[.val (.int (((31 : Int32) * ((0 : Int32) + (ca.toInt8.toInt32 &&& (255 : Int32)))) + (cb.toInt8.toInt32 &&& (255 : Int32)))), .val (.ref x1), .val (.int (0 : Int32)), .val (.int (3 : Int32)), .val (.int (3 : Int32)), .val (.int (2 : Int32))]) rfl k) ?_
  show Go p e below s₁ (mkF m 32 #[.val (.int (((31 : Int32) * ((0 : Int32) + (ca.toInt8.toInt32 &&& (255 : Int32)))) + (cb.toInt8.toInt32 &&& (255 : Int32)))), .val (.ref x1), .val (.int (0 : Int32)), .val (.int (3 : Int32)), .val (.int (3 : Int32)), .val (.int (2 : Int32))] []) _
  refine Go.of (fun _ k => XS.goto X0.here hx rfl (pc0 := 32) (pc' := 8) rfl (hb hby d22_32) (by decide) (by decide) k) ?_
  show Go p e below s₁ (mkF m 8 #[.val (.int (((31 : Int32) * ((0 : Int32) + (ca.toInt8.toInt32 &&& (255 : Int32)))) + (cb.toInt8.toInt32 &&& (255 : Int32)))), .val (.ref x1), .val (.int (0 : Int32)), .val (.int (3 : Int32)), .val (.int (3 : Int32)), .val (.int (2 : Int32))] []) _
  refine Go.of (fun _ k => XS.iload X0.here hx rfl (hb hby d22_8) rfl  k) ?_
  show Go p e below s₁ (mkF m 10 #[.val (.int (((31 : Int32) * ((0 : Int32) + (ca.toInt8.toInt32 &&& (255 : Int32)))) + (cb.toInt8.toInt32 &&& (255 : Int32)))), .val (.ref x1), .val (.int (0 : Int32)), .val (.int (3 : Int32)), .val (.int (3 : Int32)), .val (.int (2 : Int32))] [(.int (2 : Int32))]) _
  refine Go.of (fun _ k => XS.iload X0.here hx rfl (hb hby d22_10) rfl  k) ?_
  show Go p e below s₁ (mkF m 12 #[.val (.int (((31 : Int32) * ((0 : Int32) + (ca.toInt8.toInt32 &&& (255 : Int32)))) + (cb.toInt8.toInt32 &&& (255 : Int32)))), .val (.ref x1), .val (.int (0 : Int32)), .val (.int (3 : Int32)), .val (.int (3 : Int32)), .val (.int (2 : Int32))] [(.int (3 : Int32)), (.int (2 : Int32))]) _
  refine Go.of (fun _ k => XS.icmpNo X0.here hx rfl (hb hby d22_12) rfl (tlt (show (2 : Int32) < (3 : Int32) from (by decide))).2.1 k) ?_
  show Go p e below s₁ (mkF m 15 #[.val (.int (((31 : Int32) * ((0 : Int32) + (ca.toInt8.toInt32 &&& (255 : Int32)))) + (cb.toInt8.toInt32 &&& (255 : Int32)))), .val (.ref x1), .val (.int (0 : Int32)), .val (.int (3 : Int32)), .val (.int (3 : Int32)), .val (.int (2 : Int32))] []) _
  refine Go.of (fun _ k => XS.bipush X0.here hx rfl (hb hby d22_15) k) ?_
  show Go p e below s₁ (mkF m 17 #[.val (.int (((31 : Int32) * ((0 : Int32) + (ca.toInt8.toInt32 &&& (255 : Int32)))) + (cb.toInt8.toInt32 &&& (255 : Int32)))), .val (.ref x1), .val (.int (0 : Int32)), .val (.int (3 : Int32)), .val (.int (3 : Int32)), .val (.int (2 : Int32))] [(.int (31 : Int32))]) _
  refine Go.of (fun _ k => XS.iloadN X0.here hx rfl (hb hby d22_17) rfl  k) ?_
  show Go p e below s₁ (mkF m 18 #[.val (.int (((31 : Int32) * ((0 : Int32) + (ca.toInt8.toInt32 &&& (255 : Int32)))) + (cb.toInt8.toInt32 &&& (255 : Int32)))), .val (.ref x1), .val (.int (0 : Int32)), .val (.int (3 : Int32)), .val (.int (3 : Int32)), .val (.int (2 : Int32))] [(.int (((31 : Int32) * ((0 : Int32) + (ca.toInt8.toInt32 &&& (255 : Int32)))) + (cb.toInt8.toInt32 &&& (255 : Int32)))), (.int (31 : Int32))]) _
  refine Go.of (fun _ k => XS.imul X0.here hx rfl (hb hby d22_18) rfl k) ?_
  show Go p e below s₁ (mkF m 19 #[.val (.int (((31 : Int32) * ((0 : Int32) + (ca.toInt8.toInt32 &&& (255 : Int32)))) + (cb.toInt8.toInt32 &&& (255 : Int32)))), .val (.ref x1), .val (.int (0 : Int32)), .val (.int (3 : Int32)), .val (.int (3 : Int32)), .val (.int (2 : Int32))] [(.int ((31 : Int32) * (((31 : Int32) * ((0 : Int32) + (ca.toInt8.toInt32 &&& (255 : Int32)))) + (cb.toInt8.toInt32 &&& (255 : Int32)))))]) _
  refine Go.of (fun _ k => XS.aloadN X0.here hx rfl (hb hby d22_19) rfl rfl  k) ?_
  show Go p e below s₁ (mkF m 20 #[.val (.int (((31 : Int32) * ((0 : Int32) + (ca.toInt8.toInt32 &&& (255 : Int32)))) + (cb.toInt8.toInt32 &&& (255 : Int32)))), .val (.ref x1), .val (.int (0 : Int32)), .val (.int (3 : Int32)), .val (.int (3 : Int32)), .val (.int (2 : Int32))] [(.ref x1), (.int ((31 : Int32) * (((31 : Int32) * ((0 : Int32) + (ca.toInt8.toInt32 &&& (255 : Int32)))) + (cb.toInt8.toInt32 &&& (255 : Int32)))))]) _
  refine Go.of (fun _ k => XS.iload X0.here hx rfl (hb hby d22_20) rfl  k) ?_
  show Go p e below s₁ (mkF m 22 #[.val (.int (((31 : Int32) * ((0 : Int32) + (ca.toInt8.toInt32 &&& (255 : Int32)))) + (cb.toInt8.toInt32 &&& (255 : Int32)))), .val (.ref x1), .val (.int (0 : Int32)), .val (.int (3 : Int32)), .val (.int (3 : Int32)), .val (.int (2 : Int32))] [(.int (2 : Int32)), (.ref x1), (.int ((31 : Int32) * (((31 : Int32) * ((0 : Int32) + (ca.toInt8.toInt32 &&& (255 : Int32)))) + (cb.toInt8.toInt32 &&& (255 : Int32)))))]) _
  obtain ⟨cl3, A3, -, Sz3, -, H3, -⟩ := id V_a
  refine Go.of (fun _ k => X0.baloadBytes hx (j := (2 : Int32)) (v := (.int cc.toInt8.toInt32)) (by rw [e0]; exact A3.1) (State.isArrayOf_alike hZ.alike A3.2.1) A3.2.2 (inb_of Sz3 ⟨by decide, by decide⟩) (H3 2 (by rw [Sz3]; decide)) (g := (mkF m 22 #[.val (.int (((31 : Int32) * ((0 : Int32) + (ca.toInt8.toInt32 &&& (255 : Int32)))) + (cb.toInt8.toInt32 &&& (255 : Int32)))), .val (.ref x1), .val (.int (0 : Int32)), .val (.int (3 : Int32)), .val (.int (3 : Int32)), .val (.int (2 : Int32))] [(.int (2 : Int32)), (.ref x1), (.int ((31 : Int32) * (((31 : Int32) * ((0 : Int32) + (ca.toInt8.toInt32 &&& (255 : Int32)))) + (cb.toInt8.toInt32 &&& (255 : Int32)))))])) rfl rfl (hb hby d22_22) _ k) ?_
  show Go p e below s₁ (mkF m 23 #[.val (.int (((31 : Int32) * ((0 : Int32) + (ca.toInt8.toInt32 &&& (255 : Int32)))) + (cb.toInt8.toInt32 &&& (255 : Int32)))), .val (.ref x1), .val (.int (0 : Int32)), .val (.int (3 : Int32)), .val (.int (3 : Int32)), .val (.int (2 : Int32))] [(.int cc.toInt8.toInt32), (.int ((31 : Int32) * (((31 : Int32) * ((0 : Int32) + (ca.toInt8.toInt32 &&& (255 : Int32)))) + (cb.toInt8.toInt32 &&& (255 : Int32)))))]) _
  refine Go.of (fun _ k => XS.sipush X0.here hx rfl (hb hby d22_23) k) ?_
  show Go p e below s₁ (mkF m 26 #[.val (.int (((31 : Int32) * ((0 : Int32) + (ca.toInt8.toInt32 &&& (255 : Int32)))) + (cb.toInt8.toInt32 &&& (255 : Int32)))), .val (.ref x1), .val (.int (0 : Int32)), .val (.int (3 : Int32)), .val (.int (3 : Int32)), .val (.int (2 : Int32))] [(.int (255 : Int32)), (.int cc.toInt8.toInt32), (.int ((31 : Int32) * (((31 : Int32) * ((0 : Int32) + (ca.toInt8.toInt32 &&& (255 : Int32)))) + (cb.toInt8.toInt32 &&& (255 : Int32)))))]) _
  refine Go.of (fun _ k => XS.iand X0.here hx rfl (hb hby d22_26) rfl k) ?_
  show Go p e below s₁ (mkF m 27 #[.val (.int (((31 : Int32) * ((0 : Int32) + (ca.toInt8.toInt32 &&& (255 : Int32)))) + (cb.toInt8.toInt32 &&& (255 : Int32)))), .val (.ref x1), .val (.int (0 : Int32)), .val (.int (3 : Int32)), .val (.int (3 : Int32)), .val (.int (2 : Int32))] [(.int (cc.toInt8.toInt32 &&& (255 : Int32))), (.int ((31 : Int32) * (((31 : Int32) * ((0 : Int32) + (ca.toInt8.toInt32 &&& (255 : Int32)))) + (cb.toInt8.toInt32 &&& (255 : Int32)))))]) _
  refine Go.of (fun _ k => XS.iadd X0.here hx rfl (hb hby d22_27) rfl k) ?_
  show Go p e below s₁ (mkF m 28 #[.val (.int (((31 : Int32) * ((0 : Int32) + (ca.toInt8.toInt32 &&& (255 : Int32)))) + (cb.toInt8.toInt32 &&& (255 : Int32)))), .val (.ref x1), .val (.int (0 : Int32)), .val (.int (3 : Int32)), .val (.int (3 : Int32)), .val (.int (2 : Int32))] [(.int (((31 : Int32) * (((31 : Int32) * ((0 : Int32) + (ca.toInt8.toInt32 &&& (255 : Int32)))) + (cb.toInt8.toInt32 &&& (255 : Int32)))) + (cc.toInt8.toInt32 &&& (255 : Int32))))]) _
  refine Go.of (fun _ k => XS.istoreN X0.here hx rfl (hb hby d22_28) rfl (l' := #[.val (.int (((31 : Int32) * (((31 : Int32) * ((0 : Int32) + (ca.toInt8.toInt32 &&& (255 : Int32)))) + (cb.toInt8.toInt32 &&& (255 : Int32)))) + (cc.toInt8.toInt32 &&& (255 : Int32)))), .val (.ref x1), .val (.int (0 : Int32)), .val (.int (3 : Int32)), .val (.int (3 : Int32)), .val (.int (2 : Int32))]) rfl k) ?_
  show Go p e below s₁ (mkF m 29 #[.val (.int (((31 : Int32) * (((31 : Int32) * ((0 : Int32) + (ca.toInt8.toInt32 &&& (255 : Int32)))) + (cb.toInt8.toInt32 &&& (255 : Int32)))) + (cc.toInt8.toInt32 &&& (255 : Int32)))), .val (.ref x1), .val (.int (0 : Int32)), .val (.int (3 : Int32)), .val (.int (3 : Int32)), .val (.int (2 : Int32))] []) _
  refine Go.of (fun _ k => XS.iinc X0.here hx rfl (hb hby d22_29) rfl (l' := #[.val (.int (((31 : Int32) * (((31 : Int32) * ((0 : Int32) + (ca.toInt8.toInt32 &&& (255 : Int32)))) + (cb.toInt8.toInt32 &&& (255 : Int32)))) + (cc.toInt8.toInt32 &&& (255 : Int32)))), .val (.ref x1), .val (.int (0 : Int32)), .val (.int (3 : Int32)), .val (.int (3 : Int32)), .val (.int (3 : Int32))]) rfl k) ?_
  show Go p e below s₁ (mkF m 32 #[.val (.int (((31 : Int32) * (((31 : Int32) * ((0 : Int32) + (ca.toInt8.toInt32 &&& (255 : Int32)))) + (cb.toInt8.toInt32 &&& (255 : Int32)))) + (cc.toInt8.toInt32 &&& (255 : Int32)))), .val (.ref x1), .val (.int (0 : Int32)), .val (.int (3 : Int32)), .val (.int (3 : Int32)), .val (.int (3 : Int32))] []) _
  refine Go.of (fun _ k => XS.goto X0.here hx rfl (pc0 := 32) (pc' := 8) rfl (hb hby d22_32) (by decide) (by decide) k) ?_
  show Go p e below s₁ (mkF m 8 #[.val (.int (((31 : Int32) * (((31 : Int32) * ((0 : Int32) + (ca.toInt8.toInt32 &&& (255 : Int32)))) + (cb.toInt8.toInt32 &&& (255 : Int32)))) + (cc.toInt8.toInt32 &&& (255 : Int32)))), .val (.ref x1), .val (.int (0 : Int32)), .val (.int (3 : Int32)), .val (.int (3 : Int32)), .val (.int (3 : Int32))] []) _
  refine Go.of (fun _ k => XS.iload X0.here hx rfl (hb hby d22_8) rfl  k) ?_
  show Go p e below s₁ (mkF m 10 #[.val (.int (((31 : Int32) * (((31 : Int32) * ((0 : Int32) + (ca.toInt8.toInt32 &&& (255 : Int32)))) + (cb.toInt8.toInt32 &&& (255 : Int32)))) + (cc.toInt8.toInt32 &&& (255 : Int32)))), .val (.ref x1), .val (.int (0 : Int32)), .val (.int (3 : Int32)), .val (.int (3 : Int32)), .val (.int (3 : Int32))] [(.int (3 : Int32))]) _
  refine Go.of (fun _ k => XS.iload X0.here hx rfl (hb hby d22_10) rfl  k) ?_
  show Go p e below s₁ (mkF m 12 #[.val (.int (((31 : Int32) * (((31 : Int32) * ((0 : Int32) + (ca.toInt8.toInt32 &&& (255 : Int32)))) + (cb.toInt8.toInt32 &&& (255 : Int32)))) + (cc.toInt8.toInt32 &&& (255 : Int32)))), .val (.ref x1), .val (.int (0 : Int32)), .val (.int (3 : Int32)), .val (.int (3 : Int32)), .val (.int (3 : Int32))] [(.int (3 : Int32)), (.int (3 : Int32))]) _
  refine Go.of (fun _ k => XS.icmpYes X0.here hx rfl (pc0 := 12) (pc' := 35) rfl (hb hby d22_12) rfl (flt (show ¬ ((3 : Int32) < (3 : Int32)) from (by decide))).2.1 (by decide) (by decide) k) ?_
  show Go p e below s₁ (mkF m 35 #[.val (.int (((31 : Int32) * (((31 : Int32) * ((0 : Int32) + (ca.toInt8.toInt32 &&& (255 : Int32)))) + (cb.toInt8.toInt32 &&& (255 : Int32)))) + (cc.toInt8.toInt32 &&& (255 : Int32)))), .val (.ref x1), .val (.int (0 : Int32)), .val (.int (3 : Int32)), .val (.int (3 : Int32)), .val (.int (3 : Int32))] []) _
  refine Go.of (fun _ k => XS.iloadN X0.here hx rfl (hb hby d22_35) rfl  k) ?_
  show Go p e below s₁ (mkF m 36 #[.val (.int (((31 : Int32) * (((31 : Int32) * ((0 : Int32) + (ca.toInt8.toInt32 &&& (255 : Int32)))) + (cb.toInt8.toInt32 &&& (255 : Int32)))) + (cc.toInt8.toInt32 &&& (255 : Int32)))), .val (.ref x1), .val (.int (0 : Int32)), .val (.int (3 : Int32)), .val (.int (3 : Int32)), .val (.int (3 : Int32))] [(.int (((31 : Int32) * (((31 : Int32) * ((0 : Int32) + (ca.toInt8.toInt32 &&& (255 : Int32)))) + (cb.toInt8.toInt32 &&& (255 : Int32)))) + (cc.toInt8.toInt32 &&& (255 : Int32))))]) _
  refine Go.retI X0 hx hret hlk (hb hby d22_36) e0 (by decide) (by decide) ?_
  exact ⟨rfl, N0, rfl⟩
theorem own_ef_rmV3 (m : MethodId) (x1 : Addr) : entryFrame m #[(.ref x1), (.int (0 : Int32)), (.int (3 : Int32)), (.int (0 : Int32)), (.int (4 : Int32))] 5 = mkF m 0 #[.val (.ref x1), .val (.int (0 : Int32)), .val (.int (3 : Int32)), .val (.int (0 : Int32)), .val (.int (4 : Int32))] [] := by first | (simp [entryFrame, mkF, argsToLocals, Value.category]; done) | rfl
def Q_rmV3 (Z : State) (x1 : Addr) (kb : ClassId) (ca cb cc : Int32) (h0 : Heap) (n0 : Nat) : Option Value → Heap → List Loc → Prop := fun v h L => v = some (.int (fHs [ca, cb, cc])) ∧ Fr n0 L ∧ h = h0
set_option maxRecDepth 65536 in
set_option maxHeartbeats 40000000 in
theorem rmV3 (l : Launch) (Z : State) (a0 : Array Value) (hw : ∀ d ∈ tables_1, d.before a0 Z = true) (ws : List Jvm.Cond) (x1 : Addr) (kb : ClassId) (ca cb cc : Int32) (h0 : Heap) (n0 : Nat) (Z0 : n0 ≤ h0.size) (V_a : Arv Z h0 x1 kb .byte 3 (byt [ca, cb, cc]) (.int 0)) (fk : Z.vm.findClass "[B" = some kb) :
    Ctr l Z (⟨"jdk/internal/util/ArraysSupport", "vectorizedHashCode", "(Ljava/lang/Object;IIII)I"⟩ : MethodName) jdk_48_method_4_code 5 (some .int) ws ({ frames := 1, cells := 0, slots := 0, locals := 17 } : Room) #[(.ref x1), (.int (0 : Int32)), (.int (3 : Int32)), (.int (0 : Int32)), (.int (4 : Int32))] h0 (Q_rmV3 Z x1 kb ca cb cc h0 n0) := by
  refine Ctr.intro (plainFor_of_name own_pn5) ?_
  intro p e s m below meth c s₁ hx hby hml hown hnm hret hlk hZ X0 e0
  have hown : s.vm.findClass "jdk/internal/util/ArraysSupport" = some m.cls := hown
  have hml : c.maxLocals = 5 := hml
  have N0 := Fr.nil n0
  refine Go.cast (own_ef_rmV3 m x1) ?_
  show Go p e below s₁ (mkF m 0 #[.val (.ref x1), .val (.int (0 : Int32)), .val (.int (3 : Int32)), .val (.int (0 : Int32)), .val (.int (4 : Int32))] []) _
  refine Go.of (fun _ k => XS.iload X0.here hx rfl (hb hby d21_0) rfl  k) ?_
  show Go p e below s₁ (mkF m 2 #[.val (.ref x1), .val (.int (0 : Int32)), .val (.int (3 : Int32)), .val (.int (0 : Int32)), .val (.int (4 : Int32))] [(.int (4 : Int32))]) _
  refine Go.of (fun _ k => XS.tswIn X0.here hx rfl (pc0 := 2) (pc' := 44) (o := 42) rfl (hb hby d21_2) rfl (by decide) (by decide) (by decide) (by decide) k) ?_
  show Go p e below s₁ (mkF m 44 #[.val (.ref x1), .val (.int (0 : Int32)), .val (.int (3 : Int32)), .val (.int (0 : Int32)), .val (.int (4 : Int32))] []) _
  refine Go.of (fun _ k => XS.iloadN X0.here hx rfl (hb hby d21_44) rfl  k) ?_
  show Go p e below s₁ (mkF m 45 #[.val (.ref x1), .val (.int (0 : Int32)), .val (.int (3 : Int32)), .val (.int (0 : Int32)), .val (.int (4 : Int32))] [(.int (0 : Int32))]) _
  refine Go.of (fun _ k => XS.aloadN X0.here hx rfl (hb hby d21_45) rfl rfl  k) ?_
  show Go p e below s₁ (mkF m 46 #[.val (.ref x1), .val (.int (0 : Int32)), .val (.int (3 : Int32)), .val (.int (0 : Int32)), .val (.int (4 : Int32))] [(.ref x1), (.int (0 : Int32))]) _
  obtain ⟨T1, X1, e1, st1⟩ := castY X0 hx hZ hown (hw _ (List.mem_of_getElem? (i := 117) rfl)) e0 (own_insB fk V_a) (g := (mkF m 46 #[.val (.ref x1), .val (.int (0 : Int32)), .val (.int (3 : Int32)), .val (.int (0 : Int32)), .val (.int (4 : Int32))] [(.ref x1), (.int (0 : Int32))])) rfl rfl (hb hby d21_46)
  refine Go.of (fun _ k => st1 _ k) ?_
  show Go p e below T1 (mkF m 49 #[.val (.ref x1), .val (.int (0 : Int32)), .val (.int (3 : Int32)), .val (.int (0 : Int32)), .val (.int (4 : Int32))] [(.ref x1), (.int (0 : Int32))]) _
  refine Go.of (fun _ k => XS.iloadN X1.here hx rfl (hb hby d21_49) rfl  k) ?_
  show Go p e below T1 (mkF m 50 #[.val (.ref x1), .val (.int (0 : Int32)), .val (.int (3 : Int32)), .val (.int (0 : Int32)), .val (.int (4 : Int32))] [(.int (0 : Int32)), (.ref x1), (.int (0 : Int32))]) _
  refine Go.of (fun _ k => XS.iloadN X1.here hx rfl (hb hby d21_50) rfl  k) ?_
  show Go p e below T1 (mkF m 51 #[.val (.ref x1), .val (.int (0 : Int32)), .val (.int (3 : Int32)), .val (.int (0 : Int32)), .val (.int (4 : Int32))] [(.int (3 : Int32)), (.int (0 : Int32)), (.ref x1), (.int (0 : Int32))]) _
  obtain ⟨_, _, ⟨T2, L2, kq2, nq2⟩, -, X2, ⟨Lc2, hQ2, l2, y2, z2⟩, st2⟩ := Jvm.LawKit.callS X1 hx (y := (⟨"jdk/internal/util/ArraysSupport", "signedHashCode", "(I[BII)I"⟩ : MethodName)) hown (mvT hZ (hw _ (List.mem_of_getElem? (i := 119) rfl))) (mvT hZ (hw _ (List.mem_of_getElem? (i := 120) rfl))) (mvT hZ (hw _ (List.mem_of_getElem? (i := 115) rfl))) (mvT hZ (hw _ (List.mem_of_getElem? (i := 121) rfl))) (by decide) (backOf (W := 0) (rmSH3 l Z a0 hw [] x1 kb ca cb cc h0 n0 Z0 V_a) hZ (hw _ (List.mem_of_getElem? (i := 121) rfl)) (hw _ (List.mem_of_getElem? (i := 115) rfl)) (by decide) (by decide)) (g := (mkF m 51 #[.val (.ref x1), .val (.int (0 : Int32)), .val (.int (3 : Int32)), .val (.int (0 : Int32)), .val (.int (4 : Int32))] [(.int (3 : Int32)), (.int (0 : Int32)), (.ref x1), (.int (0 : Int32))])) rfl (by rw [hml]; rfl) (argsL := [(.int (0 : Int32)), (.ref x1), (.int (0 : Int32)), (.int (3 : Int32))]) (rest := []) (lenOf own_pd6 rfl) rfl (by show 2 * 0 + _ ≤ _; exact Nat.le_of_eq rfl) (hb hby d21_51) (fun _ _ => ⟨rfl, e1, (by decide : 0 + 0 ≤ _), (by decide : 0 + 0 ≤ _)⟩)
  dsimp only [Pt.U, Pt.locs, Pt.cells, Pt.slots] at X2 l2 y2 z2 st2 hQ2
  subst l2 y2 z2
  obtain ⟨rfl, Nq2, e2⟩ := hQ2
  have N2 := Fr.app N0 Nq2
  refine Go.of (fun _ k => st2 _ k) ?_
  show Go p e below T2 (mkF m 54 #[.val (.ref x1), .val (.int (0 : Int32)), .val (.int (3 : Int32)), .val (.int (0 : Int32)), .val (.int (4 : Int32))] [(.int (fHs [ca, cb, cc]))]) _
  refine Go.of (fun _ k => XS.goto X2.here hx rfl (pc0 := 54) (pc' := 157) rfl (hb hby d21_54) (by decide) (by decide) k) ?_
  show Go p e below T2 (mkF m 157 #[.val (.ref x1), .val (.int (0 : Int32)), .val (.int (3 : Int32)), .val (.int (0 : Int32)), .val (.int (4 : Int32))] [(.int (fHs [ca, cb, cc]))]) _
  refine Go.retI X2 hx hret hlk (hb hby d21_157) e2 (by decide) (by decide) ?_
  exact ⟨rfl, N2, rfl⟩
theorem d20_0 : decode jdk_43_method_21_code 0 = .ok (.aload_n 0, 1) := by decide +kernel
theorem d20_1 : decode jdk_43_method_21_code 1 = .ok (.arraylength, 1) := by decide +kernel
theorem d20_2 : decode jdk_43_method_21_code 2 = .ok (.lookupswitch 40 #[(0, 26), (1, 30)], 26) := by decide +kernel
theorem d20_28 : decode jdk_43_method_21_code 28 = .ok (.iconst 0, 1) := by decide +kernel
theorem d20_29 : decode jdk_43_method_21_code 29 = .ok (.goto 22, 3) := by decide +kernel
theorem d20_51 : decode jdk_43_method_21_code 51 = .ok (.ireturn, 1) := by decide +kernel
theorem own_pn6 : plainName "java/lang/StringLatin1" = true := by first | (simp [plainName, overriddenIn]; done) | decide +kernel
theorem own_ef_rmLH0 (m : MethodId) (x1 : Addr) : entryFrame m #[(.ref x1)] 1 = mkF m 0 #[.val (.ref x1)] [] := by first | (simp [entryFrame, mkF, argsToLocals, Value.category]; done) | rfl
def Q_rmLH0 (Z : State) (x1 : Addr) (kb : ClassId) (h0 : Heap) (n0 : Nat) : Option Value → Heap → List Loc → Prop := fun v h L => v = some (.int (fHs [])) ∧ Fr n0 L ∧ h = h0
set_option maxRecDepth 65536 in
set_option maxHeartbeats 40000000 in
theorem rmLH0 (l : Launch) (Z : State) (a0 : Array Value) (hw : ∀ d ∈ tables_1, d.before a0 Z = true) (ws : List Jvm.Cond) (x1 : Addr) (kb : ClassId) (h0 : Heap) (n0 : Nat) (Z0 : n0 ≤ h0.size) (V_a : Arv Z h0 x1 kb .byte 0 (byt []) (.int 0)) :
    Ctr l Z (⟨"java/lang/StringLatin1", "hashCode", "([B)I"⟩ : MethodName) jdk_43_method_21_code 1 (some .int) ws ({ frames := 0, cells := 0, slots := 0, locals := 0 } : Room) #[(.ref x1)] h0 (Q_rmLH0 Z x1 kb h0 n0) := by
  refine Ctr.intro (plainFor_of_name own_pn6) ?_
  intro p e s m below meth c s₁ hx hby hml hown hnm hret hlk hZ X0 e0
  have hown : s.vm.findClass "java/lang/StringLatin1" = some m.cls := hown
  have hml : c.maxLocals = 1 := hml
  have N0 := Fr.nil n0
  refine Go.cast (own_ef_rmLH0 m x1) ?_
  show Go p e below s₁ (mkF m 0 #[.val (.ref x1)] []) _
  refine Go.of (fun _ k => XS.aloadN X0.here hx rfl (hb hby d20_0) rfl rfl  k) ?_
  show Go p e below s₁ (mkF m 1 #[.val (.ref x1)] [(.ref x1)]) _
  obtain ⟨cl1, A1, -, Sz1, -, -, -⟩ := id V_a
  refine Go.of (fun _ k => X0.arraylength hx (by rw [e0]; exact A1.1) (State.isArrayOf_alike hZ.alike A1.2.1) (g := (mkF m 1 #[.val (.ref x1)] [(.ref x1)])) rfl rfl (hb hby d20_1) _ k) ?_
  rw [len_of Sz1 (by decide)]
  show Go p e below s₁ (mkF m 2 #[.val (.ref x1)] [(.int (0 : Int32))]) _
  refine Go.of (fun _ k => X0.lookupswitchHit hx (g := (mkF m 2 #[.val (.ref x1)] [(.int (0 : Int32))])) rfl rfl (hb hby d20_2) (by decide) (a := 0) (off := 26) (by decide) (show (0 : Int) ≤ ((2 : Nat) : Int) + (26) from by decide) _ k) ?_
  show Go p e below s₁ (mkF m 28 #[.val (.ref x1)] []) _
  refine Go.of (fun _ k => XS.iconst X0.here hx rfl (hb hby d20_28) k) ?_
  show Go p e below s₁ (mkF m 29 #[.val (.ref x1)] [(.int (0 : Int32))]) _
  refine Go.of (fun _ k => XS.goto X0.here hx rfl (pc0 := 29) (pc' := 51) rfl (hb hby d20_29) (by decide) (by decide) k) ?_
  show Go p e below s₁ (mkF m 51 #[.val (.ref x1)] [(.int (0 : Int32))]) _
  refine Go.retI X0 hx hret hlk (hb hby d20_51) e0 (by decide) (by decide) ?_
  exact ⟨rfl, N0, rfl⟩
theorem d20_32 : decode jdk_43_method_21_code 32 = .ok (.aload_n 0, 1) := by decide +kernel
theorem d20_33 : decode jdk_43_method_21_code 33 = .ok (.iconst 0, 1) := by decide +kernel
theorem d20_34 : decode jdk_43_method_21_code 34 = .ok (.baload, 1) := by decide +kernel
theorem d20_35 : decode jdk_43_method_21_code 35 = .ok (.sipush 255, 3) := by decide +kernel
theorem d20_38 : decode jdk_43_method_21_code 38 = .ok (.iand, 1) := by decide +kernel
theorem d20_39 : decode jdk_43_method_21_code 39 = .ok (.goto 12, 3) := by decide +kernel
theorem own_ef_rmLH1 (m : MethodId) (x1 : Addr) : entryFrame m #[(.ref x1)] 1 = mkF m 0 #[.val (.ref x1)] [] := by first | (simp [entryFrame, mkF, argsToLocals, Value.category]; done) | rfl
def Q_rmLH1 (Z : State) (x1 : Addr) (kb : ClassId) (ca : Int32) (h0 : Heap) (n0 : Nat) : Option Value → Heap → List Loc → Prop := fun v h L => v = some (.int (fHs [ca])) ∧ Fr n0 L ∧ h = h0
set_option maxRecDepth 65536 in
set_option maxHeartbeats 40000000 in
theorem rmLH1 (l : Launch) (Z : State) (a0 : Array Value) (hw : ∀ d ∈ tables_1, d.before a0 Z = true) (ws : List Jvm.Cond) (x1 : Addr) (kb : ClassId) (ca : Int32) (h0 : Heap) (n0 : Nat) (Z0 : n0 ≤ h0.size) (V_a : Arv Z h0 x1 kb .byte 1 (byt [ca]) (.int 0)) :
    Ctr l Z (⟨"java/lang/StringLatin1", "hashCode", "([B)I"⟩ : MethodName) jdk_43_method_21_code 1 (some .int) ws ({ frames := 0, cells := 0, slots := 0, locals := 0 } : Room) #[(.ref x1)] h0 (Q_rmLH1 Z x1 kb ca h0 n0) := by
  refine Ctr.intro (plainFor_of_name own_pn6) ?_
  intro p e s m below meth c s₁ hx hby hml hown hnm hret hlk hZ X0 e0
  have hown : s.vm.findClass "java/lang/StringLatin1" = some m.cls := hown
  have hml : c.maxLocals = 1 := hml
  have N0 := Fr.nil n0
  refine Go.cast (own_ef_rmLH1 m x1) ?_
  show Go p e below s₁ (mkF m 0 #[.val (.ref x1)] []) _
  refine Go.of (fun _ k => XS.aloadN X0.here hx rfl (hb hby d20_0) rfl rfl  k) ?_
  show Go p e below s₁ (mkF m 1 #[.val (.ref x1)] [(.ref x1)]) _
  obtain ⟨cl1, A1, -, Sz1, -, -, -⟩ := id V_a
  refine Go.of (fun _ k => X0.arraylength hx (by rw [e0]; exact A1.1) (State.isArrayOf_alike hZ.alike A1.2.1) (g := (mkF m 1 #[.val (.ref x1)] [(.ref x1)])) rfl rfl (hb hby d20_1) _ k) ?_
  rw [len_of Sz1 (by decide)]
  show Go p e below s₁ (mkF m 2 #[.val (.ref x1)] [(.int (1 : Int32))]) _
  refine Go.of (fun _ k => X0.lookupswitchHit hx (g := (mkF m 2 #[.val (.ref x1)] [(.int (1 : Int32))])) rfl rfl (hb hby d20_2) (by decide) (a := 1) (off := 30) (by decide) (show (0 : Int) ≤ ((2 : Nat) : Int) + (30) from by decide) _ k) ?_
  show Go p e below s₁ (mkF m 32 #[.val (.ref x1)] []) _
  refine Go.of (fun _ k => XS.aloadN X0.here hx rfl (hb hby d20_32) rfl rfl  k) ?_
  show Go p e below s₁ (mkF m 33 #[.val (.ref x1)] [(.ref x1)]) _
  refine Go.of (fun _ k => XS.iconst X0.here hx rfl (hb hby d20_33) k) ?_
  show Go p e below s₁ (mkF m 34 #[.val (.ref x1)] [(.int (0 : Int32)), (.ref x1)]) _
  obtain ⟨cl2, A2, -, Sz2, -, H2, -⟩ := id V_a
  refine Go.of (fun _ k => X0.baloadBytes hx (j := (0 : Int32)) (v := (.int ca.toInt8.toInt32)) (by rw [e0]; exact A2.1) (State.isArrayOf_alike hZ.alike A2.2.1) A2.2.2 (inb_of Sz2 ⟨by decide, by decide⟩) (H2 0 (by rw [Sz2]; decide)) (g := (mkF m 34 #[.val (.ref x1)] [(.int (0 : Int32)), (.ref x1)])) rfl rfl (hb hby d20_34) _ k) ?_
  show Go p e below s₁ (mkF m 35 #[.val (.ref x1)] [(.int ca.toInt8.toInt32)]) _
  refine Go.of (fun _ k => XS.sipush X0.here hx rfl (hb hby d20_35) k) ?_
  show Go p e below s₁ (mkF m 38 #[.val (.ref x1)] [(.int (255 : Int32)), (.int ca.toInt8.toInt32)]) _
  refine Go.of (fun _ k => XS.iand X0.here hx rfl (hb hby d20_38) rfl k) ?_
  show Go p e below s₁ (mkF m 39 #[.val (.ref x1)] [(.int (ca.toInt8.toInt32 &&& (255 : Int32)))]) _
  refine Go.of (fun _ k => XS.goto X0.here hx rfl (pc0 := 39) (pc' := 51) rfl (hb hby d20_39) (by decide) (by decide) k) ?_
  show Go p e below s₁ (mkF m 51 #[.val (.ref x1)] [(.int (ca.toInt8.toInt32 &&& (255 : Int32)))]) _
  refine Go.retI X0 hx hret hlk (hb hby d20_51) e0 (by decide) (by decide) ?_
  exact ⟨rfl, N0, rfl⟩
theorem d20_42 : decode jdk_43_method_21_code 42 = .ok (.aload_n 0, 1) := by decide +kernel
theorem d20_43 : decode jdk_43_method_21_code 43 = .ok (.iconst 0, 1) := by decide +kernel
theorem d20_44 : decode jdk_43_method_21_code 44 = .ok (.aload_n 0, 1) := by decide +kernel
theorem d20_45 : decode jdk_43_method_21_code 45 = .ok (.arraylength, 1) := by decide +kernel
theorem d20_46 : decode jdk_43_method_21_code 46 = .ok (.iconst 0, 1) := by decide +kernel
theorem d20_47 : decode jdk_43_method_21_code 47 = .ok (.iconst 4, 1) := by decide +kernel
theorem d20_48 : decode jdk_43_method_21_code 48 = .ok (.invokestatic 84, 3) := by decide +kernel
theorem own_pd7 : parseMethodDescriptor "(Ljava/lang/Object;IIII)I" = some ⟨[(.object "java/lang/Object"), .int, .int, .int, .int], some .int⟩ := by decide +kernel
theorem own_ef_rmLH2 (m : MethodId) (x1 : Addr) : entryFrame m #[(.ref x1)] 1 = mkF m 0 #[.val (.ref x1)] [] := by first | (simp [entryFrame, mkF, argsToLocals, Value.category]; done) | rfl
def Q_rmLH2 (Z : State) (x1 : Addr) (kb : ClassId) (ca cb : Int32) (h0 : Heap) (n0 : Nat) : Option Value → Heap → List Loc → Prop := fun v h L => v = some (.int (fHs [ca, cb])) ∧ Fr n0 L ∧ h = h0
set_option maxRecDepth 65536 in
set_option maxHeartbeats 40000000 in
theorem rmLH2 (l : Launch) (Z : State) (a0 : Array Value) (hw : ∀ d ∈ tables_1, d.before a0 Z = true) (ws : List Jvm.Cond) (x1 : Addr) (kb : ClassId) (ca cb : Int32) (h0 : Heap) (n0 : Nat) (Z0 : n0 ≤ h0.size) (V_a : Arv Z h0 x1 kb .byte 2 (byt [ca, cb]) (.int 0)) (fk : Z.vm.findClass "[B" = some kb) :
    Ctr l Z (⟨"java/lang/StringLatin1", "hashCode", "([B)I"⟩ : MethodName) jdk_43_method_21_code 1 (some .int) ws ({ frames := 2, cells := 0, slots := 0, locals := 33 } : Room) #[(.ref x1)] h0 (Q_rmLH2 Z x1 kb ca cb h0 n0) := by
  refine Ctr.intro (plainFor_of_name own_pn6) ?_
  intro p e s m below meth c s₁ hx hby hml hown hnm hret hlk hZ X0 e0
  have hown : s.vm.findClass "java/lang/StringLatin1" = some m.cls := hown
  have hml : c.maxLocals = 1 := hml
  have N0 := Fr.nil n0
  refine Go.cast (own_ef_rmLH2 m x1) ?_
  show Go p e below s₁ (mkF m 0 #[.val (.ref x1)] []) _
  refine Go.of (fun _ k => XS.aloadN X0.here hx rfl (hb hby d20_0) rfl rfl  k) ?_
  show Go p e below s₁ (mkF m 1 #[.val (.ref x1)] [(.ref x1)]) _
  obtain ⟨cl1, A1, -, Sz1, -, -, -⟩ := id V_a
  refine Go.of (fun _ k => X0.arraylength hx (by rw [e0]; exact A1.1) (State.isArrayOf_alike hZ.alike A1.2.1) (g := (mkF m 1 #[.val (.ref x1)] [(.ref x1)])) rfl rfl (hb hby d20_1) _ k) ?_
  rw [len_of Sz1 (by decide)]
  show Go p e below s₁ (mkF m 2 #[.val (.ref x1)] [(.int (2 : Int32))]) _
  refine Go.of (fun _ k => X0.lookupswitchMiss hx (g := (mkF m 2 #[.val (.ref x1)] [(.int (2 : Int32))])) rfl rfl (hb hby d20_2) (by decide) (by decide) (show (0 : Int) ≤ ((2 : Nat) : Int) + (40) from by decide) _ k) ?_
  show Go p e below s₁ (mkF m 42 #[.val (.ref x1)] []) _
  refine Go.of (fun _ k => XS.aloadN X0.here hx rfl (hb hby d20_42) rfl rfl  k) ?_
  show Go p e below s₁ (mkF m 43 #[.val (.ref x1)] [(.ref x1)]) _
  refine Go.of (fun _ k => XS.iconst X0.here hx rfl (hb hby d20_43) k) ?_
  show Go p e below s₁ (mkF m 44 #[.val (.ref x1)] [(.int (0 : Int32)), (.ref x1)]) _
  refine Go.of (fun _ k => XS.aloadN X0.here hx rfl (hb hby d20_44) rfl rfl  k) ?_
  show Go p e below s₁ (mkF m 45 #[.val (.ref x1)] [(.ref x1), (.int (0 : Int32)), (.ref x1)]) _
  obtain ⟨cl2, A2, -, Sz2, -, -, -⟩ := id V_a
  refine Go.of (fun _ k => X0.arraylength hx (by rw [e0]; exact A2.1) (State.isArrayOf_alike hZ.alike A2.2.1) (g := (mkF m 45 #[.val (.ref x1)] [(.ref x1), (.int (0 : Int32)), (.ref x1)])) rfl rfl (hb hby d20_45) _ k) ?_
  rw [len_of Sz2 (by decide)]
  show Go p e below s₁ (mkF m 46 #[.val (.ref x1)] [(.int (2 : Int32)), (.int (0 : Int32)), (.ref x1)]) _
  refine Go.of (fun _ k => XS.iconst X0.here hx rfl (hb hby d20_46) k) ?_
  show Go p e below s₁ (mkF m 47 #[.val (.ref x1)] [(.int (0 : Int32)), (.int (2 : Int32)), (.int (0 : Int32)), (.ref x1)]) _
  refine Go.of (fun _ k => XS.iconst X0.here hx rfl (hb hby d20_47) k) ?_
  show Go p e below s₁ (mkF m 48 #[.val (.ref x1)] [(.int (4 : Int32)), (.int (0 : Int32)), (.int (2 : Int32)), (.int (0 : Int32)), (.ref x1)]) _
  obtain ⟨_, _, ⟨T3, L3, kq3, nq3⟩, -, X3, ⟨Lc3, hQ3, l3, y3, z3⟩, st3⟩ := Jvm.LawKit.callS X0 hx (y := (⟨"jdk/internal/util/ArraysSupport", "vectorizedHashCode", "(Ljava/lang/Object;IIII)I"⟩ : MethodName)) hown (mvT hZ (hw _ (List.mem_of_getElem? (i := 113) rfl))) (mvT hZ (hw _ (List.mem_of_getElem? (i := 114) rfl))) (mvT hZ (hw _ (List.mem_of_getElem? (i := 115) rfl))) (mvT hZ (hw _ (List.mem_of_getElem? (i := 116) rfl))) (by decide) (backOf (W := 0) (rmV2 l Z a0 hw [] x1 kb ca cb h0 n0 Z0 V_a fk) hZ (hw _ (List.mem_of_getElem? (i := 116) rfl)) (hw _ (List.mem_of_getElem? (i := 115) rfl)) (by decide) (by decide)) (g := (mkF m 48 #[.val (.ref x1)] [(.int (4 : Int32)), (.int (0 : Int32)), (.int (2 : Int32)), (.int (0 : Int32)), (.ref x1)])) rfl (by rw [hml]; rfl) (argsL := [(.ref x1), (.int (0 : Int32)), (.int (2 : Int32)), (.int (0 : Int32)), (.int (4 : Int32))]) (rest := []) (lenOf own_pd7 rfl) rfl (by show 2 * 0 + _ ≤ _; exact Nat.le_of_eq rfl) (hb hby d20_48) (fun _ _ => ⟨rfl, e0, (by decide : 0 + 0 ≤ _), (by decide : 0 + 0 ≤ _)⟩)
  dsimp only [Pt.U, Pt.locs, Pt.cells, Pt.slots] at X3 l3 y3 z3 st3 hQ3
  subst l3 y3 z3
  obtain ⟨rfl, Nq3, e3⟩ := hQ3
  have N3 := Fr.app N0 Nq3
  refine Go.of (fun _ k => st3 _ k) ?_
  show Go p e below T3 (mkF m 51 #[.val (.ref x1)] [(.int (fHs [ca, cb]))]) _
  refine Go.retI X3 hx hret hlk (hb hby d20_51) e3 (by decide) (by decide) ?_
  exact ⟨rfl, N3, rfl⟩
theorem own_ef_rmLH3 (m : MethodId) (x1 : Addr) : entryFrame m #[(.ref x1)] 1 = mkF m 0 #[.val (.ref x1)] [] := by first | (simp [entryFrame, mkF, argsToLocals, Value.category]; done) | rfl
def Q_rmLH3 (Z : State) (x1 : Addr) (kb : ClassId) (ca cb cc : Int32) (h0 : Heap) (n0 : Nat) : Option Value → Heap → List Loc → Prop := fun v h L => v = some (.int (fHs [ca, cb, cc])) ∧ Fr n0 L ∧ h = h0
set_option maxRecDepth 65536 in
set_option maxHeartbeats 40000000 in
theorem rmLH3 (l : Launch) (Z : State) (a0 : Array Value) (hw : ∀ d ∈ tables_1, d.before a0 Z = true) (ws : List Jvm.Cond) (x1 : Addr) (kb : ClassId) (ca cb cc : Int32) (h0 : Heap) (n0 : Nat) (Z0 : n0 ≤ h0.size) (V_a : Arv Z h0 x1 kb .byte 3 (byt [ca, cb, cc]) (.int 0)) (fk : Z.vm.findClass "[B" = some kb) :
    Ctr l Z (⟨"java/lang/StringLatin1", "hashCode", "([B)I"⟩ : MethodName) jdk_43_method_21_code 1 (some .int) ws ({ frames := 2, cells := 0, slots := 0, locals := 33 } : Room) #[(.ref x1)] h0 (Q_rmLH3 Z x1 kb ca cb cc h0 n0) := by
  refine Ctr.intro (plainFor_of_name own_pn6) ?_
  intro p e s m below meth c s₁ hx hby hml hown hnm hret hlk hZ X0 e0
  have hown : s.vm.findClass "java/lang/StringLatin1" = some m.cls := hown
  have hml : c.maxLocals = 1 := hml
  have N0 := Fr.nil n0
  refine Go.cast (own_ef_rmLH3 m x1) ?_
  show Go p e below s₁ (mkF m 0 #[.val (.ref x1)] []) _
  refine Go.of (fun _ k => XS.aloadN X0.here hx rfl (hb hby d20_0) rfl rfl  k) ?_
  show Go p e below s₁ (mkF m 1 #[.val (.ref x1)] [(.ref x1)]) _
  obtain ⟨cl1, A1, -, Sz1, -, -, -⟩ := id V_a
  refine Go.of (fun _ k => X0.arraylength hx (by rw [e0]; exact A1.1) (State.isArrayOf_alike hZ.alike A1.2.1) (g := (mkF m 1 #[.val (.ref x1)] [(.ref x1)])) rfl rfl (hb hby d20_1) _ k) ?_
  rw [len_of Sz1 (by decide)]
  show Go p e below s₁ (mkF m 2 #[.val (.ref x1)] [(.int (3 : Int32))]) _
  refine Go.of (fun _ k => X0.lookupswitchMiss hx (g := (mkF m 2 #[.val (.ref x1)] [(.int (3 : Int32))])) rfl rfl (hb hby d20_2) (by decide) (by decide) (show (0 : Int) ≤ ((2 : Nat) : Int) + (40) from by decide) _ k) ?_
  show Go p e below s₁ (mkF m 42 #[.val (.ref x1)] []) _
  refine Go.of (fun _ k => XS.aloadN X0.here hx rfl (hb hby d20_42) rfl rfl  k) ?_
  show Go p e below s₁ (mkF m 43 #[.val (.ref x1)] [(.ref x1)]) _
  refine Go.of (fun _ k => XS.iconst X0.here hx rfl (hb hby d20_43) k) ?_
  show Go p e below s₁ (mkF m 44 #[.val (.ref x1)] [(.int (0 : Int32)), (.ref x1)]) _
  refine Go.of (fun _ k => XS.aloadN X0.here hx rfl (hb hby d20_44) rfl rfl  k) ?_
  show Go p e below s₁ (mkF m 45 #[.val (.ref x1)] [(.ref x1), (.int (0 : Int32)), (.ref x1)]) _
  obtain ⟨cl2, A2, -, Sz2, -, -, -⟩ := id V_a
  refine Go.of (fun _ k => X0.arraylength hx (by rw [e0]; exact A2.1) (State.isArrayOf_alike hZ.alike A2.2.1) (g := (mkF m 45 #[.val (.ref x1)] [(.ref x1), (.int (0 : Int32)), (.ref x1)])) rfl rfl (hb hby d20_45) _ k) ?_
  rw [len_of Sz2 (by decide)]
  show Go p e below s₁ (mkF m 46 #[.val (.ref x1)] [(.int (3 : Int32)), (.int (0 : Int32)), (.ref x1)]) _
  refine Go.of (fun _ k => XS.iconst X0.here hx rfl (hb hby d20_46) k) ?_
  show Go p e below s₁ (mkF m 47 #[.val (.ref x1)] [(.int (0 : Int32)), (.int (3 : Int32)), (.int (0 : Int32)), (.ref x1)]) _
  refine Go.of (fun _ k => XS.iconst X0.here hx rfl (hb hby d20_47) k) ?_
  show Go p e below s₁ (mkF m 48 #[.val (.ref x1)] [(.int (4 : Int32)), (.int (0 : Int32)), (.int (3 : Int32)), (.int (0 : Int32)), (.ref x1)]) _
  obtain ⟨_, _, ⟨T3, L3, kq3, nq3⟩, -, X3, ⟨Lc3, hQ3, l3, y3, z3⟩, st3⟩ := Jvm.LawKit.callS X0 hx (y := (⟨"jdk/internal/util/ArraysSupport", "vectorizedHashCode", "(Ljava/lang/Object;IIII)I"⟩ : MethodName)) hown (mvT hZ (hw _ (List.mem_of_getElem? (i := 113) rfl))) (mvT hZ (hw _ (List.mem_of_getElem? (i := 114) rfl))) (mvT hZ (hw _ (List.mem_of_getElem? (i := 115) rfl))) (mvT hZ (hw _ (List.mem_of_getElem? (i := 116) rfl))) (by decide) (backOf (W := 0) (rmV3 l Z a0 hw [] x1 kb ca cb cc h0 n0 Z0 V_a fk) hZ (hw _ (List.mem_of_getElem? (i := 116) rfl)) (hw _ (List.mem_of_getElem? (i := 115) rfl)) (by decide) (by decide)) (g := (mkF m 48 #[.val (.ref x1)] [(.int (4 : Int32)), (.int (0 : Int32)), (.int (3 : Int32)), (.int (0 : Int32)), (.ref x1)])) rfl (by rw [hml]; rfl) (argsL := [(.ref x1), (.int (0 : Int32)), (.int (3 : Int32)), (.int (0 : Int32)), (.int (4 : Int32))]) (rest := []) (lenOf own_pd7 rfl) rfl (by show 2 * 0 + _ ≤ _; exact Nat.le_of_eq rfl) (hb hby d20_48) (fun _ _ => ⟨rfl, e0, (by decide : 0 + 0 ≤ _), (by decide : 0 + 0 ≤ _)⟩)
  dsimp only [Pt.U, Pt.locs, Pt.cells, Pt.slots] at X3 l3 y3 z3 st3 hQ3
  subst l3 y3 z3
  obtain ⟨rfl, Nq3, e3⟩ := hQ3
  have N3 := Fr.app N0 Nq3
  refine Go.of (fun _ k => st3 _ k) ?_
  show Go p e below T3 (mkF m 51 #[.val (.ref x1)] [(.int (fHs [ca, cb, cc]))]) _
  refine Go.retI X3 hx hret hlk (hb hby d20_51) e3 (by decide) (by decide) ?_
  exact ⟨rfl, N3, rfl⟩
def Q_rmHS (x0 : Addr) (cs : List Int32) (h0 : Heap) (n0 : Nat) : Option Value → Heap → List Loc → Prop := fun v h L => v = some (.int (fHs cs)) ∧ Fr n0 L ∧ Keep h0 h [x0]
theorem d18_0 : decode jdk_42_method_78_code 0 = .ok (.aload_n 0, 1) := by decide +kernel
theorem d18_1 : decode jdk_42_method_78_code 1 = .ok (.getfield 19, 3) := by decide +kernel
theorem d18_4 : decode jdk_42_method_78_code 4 = .ok (.istore_n 1, 1) := by decide +kernel
theorem d18_5 : decode jdk_42_method_78_code 5 = .ok (.iload_n 1, 1) := by decide +kernel
theorem d18_6 : decode jdk_42_method_78_code 6 = .ok (.ifCond .ne 52, 3) := by decide +kernel
theorem d18_9 : decode jdk_42_method_78_code 9 = .ok (.aload_n 0, 1) := by decide +kernel
theorem d18_10 : decode jdk_42_method_78_code 10 = .ok (.getfield 23, 3) := by decide +kernel
theorem d18_13 : decode jdk_42_method_78_code 13 = .ok (.ifCond .ne 45, 3) := by decide +kernel
theorem d18_16 : decode jdk_42_method_78_code 16 = .ok (.aload_n 0, 1) := by decide +kernel
theorem d18_17 : decode jdk_42_method_78_code 17 = .ok (.invokevirtual 492, 3) := by decide +kernel
theorem own_pd8 : parseMethodDescriptor "()Z" = some ⟨[], some .boolean⟩ := by decide +kernel
theorem d18_20 : decode jdk_42_method_78_code 20 = .ok (.ifCond .eq 13, 3) := by decide +kernel
theorem d18_23 : decode jdk_42_method_78_code 23 = .ok (.aload_n 0, 1) := by decide +kernel
theorem d18_24 : decode jdk_42_method_78_code 24 = .ok (.getfield 9, 3) := by decide +kernel
theorem d18_27 : decode jdk_42_method_78_code 27 = .ok (.invokestatic 628, 3) := by decide +kernel
theorem own_pd9 : parseMethodDescriptor "([B)I" = some ⟨[(.array .byte)], some .int⟩ := by decide +kernel
theorem d18_30 : decode jdk_42_method_78_code 30 = .ok (.goto 10, 3) := by decide +kernel
theorem d18_40 : decode jdk_42_method_78_code 40 = .ok (.istore_n 1, 1) := by decide +kernel
theorem d18_41 : decode jdk_42_method_78_code 41 = .ok (.iload_n 1, 1) := by decide +kernel
theorem d18_42 : decode jdk_42_method_78_code 42 = .ok (.ifCond .ne 11, 3) := by decide +kernel
theorem d18_45 : decode jdk_42_method_78_code 45 = .ok (.aload_n 0, 1) := by decide +kernel
theorem d18_46 : decode jdk_42_method_78_code 46 = .ok (.iconst 1, 1) := by decide +kernel
theorem d18_47 : decode jdk_42_method_78_code 47 = .ok (.putfield 23, 3) := by decide +kernel
theorem d18_50 : decode jdk_42_method_78_code 50 = .ok (.goto 8, 3) := by decide +kernel
theorem d18_58 : decode jdk_42_method_78_code 58 = .ok (.iload_n 1, 1) := by decide +kernel
theorem d18_59 : decode jdk_42_method_78_code 59 = .ok (.ireturn, 1) := by decide +kernel
theorem d18_53 : decode jdk_42_method_78_code 53 = .ok (.aload_n 0, 1) := by decide +kernel
theorem d18_54 : decode jdk_42_method_78_code 54 = .ok (.iload_n 1, 1) := by decide +kernel
theorem d18_55 : decode jdk_42_method_78_code 55 = .ok (.putfield 19, 3) := by decide +kernel
theorem own_ef_rmHS0 (m : MethodId) (x0 : Addr) : entryFrame m #[(.ref x0)] 2 = mkF m 0 #[.val (.ref x0), .unset] [] := by first | (simp [entryFrame, mkF, argsToLocals, Value.category]; done) | rfl
set_option maxRecDepth 65536 in
set_option maxHeartbeats 40000000 in
theorem rmHS0 (l : Launch) (Z : State) (a0 : Array Value) (hw : ∀ d ∈ tables_1, d.before a0 Z = true) (ws : List Jvm.Cond) (x0 ts : Addr) (kb : ClassId) (zc : Int32) (h0 : Heap) (n0 : Nat) (Z0 : n0 ≤ h0.size) (OL : Old Z n0 h0) (O2 : Sta Z Z.heap "java/lang/String" "COMPACT_STRINGS" "Z" (.int zc)) (hzc : ¬ zc = 0) (g0 : n0 ≤ x0) (E_x0 : Exa Z h0 x0 "java/lang/String") (F_coder : Fld Z h0 x0 "java/lang/String" "coder" "B" (.int (0 : Int32))) (F_hash : Fld Z h0 x0 "java/lang/String" "hash" "I" (.int (0 : Int32))) (F_hashIsZero : Fld Z h0 x0 "java/lang/String" "hashIsZero" "Z" (.int (0 : Int32))) (F_value : Fld Z h0 x0 "java/lang/String" "value" "[B" (.ref ts)) (V_a : Arv Z h0 ts kb .byte 0 (byt []) (.int 0)) (fk : ([] : List Int32) ≠ [] → Z.vm.findClass "[B" = some kb) :
    Ctr l Z (⟨"java/lang/String", "hashCode", "()I"⟩ : MethodName) jdk_42_method_78_code 2 (some .int) ws ({ frames := 4, cells := 0, slots := 0, locals := 120 } : Room) #[(.ref x0)] h0 (Q_rmHS x0 ([] : List Int32) h0 n0) := by
  refine Ctr.intro (plainFor_of_name own_pn0) ?_
  intro p e s m below meth c s₁ hx hby hml hown hnm hret hlk hZ X0 e0
  have hown : s.vm.findClass "java/lang/String" = some m.cls := hown
  have hml : c.maxLocals = 2 := hml
  have N0 := Fr.nil n0
  refine Go.cast (own_ef_rmHS0 m x0) ?_
  have KK := Keep.refl h0 [x0]
  show Go p e below s₁ (mkF m 0 #[.val (.ref x0), .unset] []) _
  refine Go.of (fun _ k => XS.aloadN X0.here hx rfl (hb hby d18_0) rfl rfl  k) ?_
  show Go p e below s₁ (mkF m 1 #[.val (.ref x0), .unset] [(.ref x0)]) _
  obtain ⟨T1, X1, e1, st1⟩ := getF X0 hx hZ hown (host := "") (Or.inl (hw _ (List.mem_of_getElem? (i := 101) rfl))) Via.refl e0 F_hash (g := (mkF m 1 #[.val (.ref x0), .unset] [(.ref x0)])) rfl rfl (hb hby d18_1)
  refine Go.of (fun _ k => st1 _ k) ?_
  show Go p e below T1 (mkF m 4 #[.val (.ref x0), .unset] [(.int (0 : Int32))]) _
  refine Go.of (fun _ k => XS.istoreN X1.here hx rfl (hb hby d18_4) rfl (l' := #[.val (.ref x0), .val (.int (0 : Int32))]) rfl k) ?_
  show Go p e below T1 (mkF m 5 #[.val (.ref x0), .val (.int (0 : Int32))] []) _
  refine Go.of (fun _ k => XS.iloadN X1.here hx rfl (hb hby d18_5) rfl  k) ?_
  show Go p e below T1 (mkF m 6 #[.val (.ref x0), .val (.int (0 : Int32))] [(.int (0 : Int32))]) _
  refine Go.of (fun _ k => XS.ifNo X1.here hx rfl (hb hby d18_6) rfl ((if0 _ _).trans (teq (show (0 : Int32) = (0 : Int32) from (by decide))).2) k) ?_
  show Go p e below T1 (mkF m 9 #[.val (.ref x0), .val (.int (0 : Int32))] []) _
  refine Go.of (fun _ k => XS.aloadN X1.here hx rfl (hb hby d18_9) rfl rfl  k) ?_
  show Go p e below T1 (mkF m 10 #[.val (.ref x0), .val (.int (0 : Int32))] [(.ref x0)]) _
  obtain ⟨T2, X2, e2, st2⟩ := getF X1 hx hZ hown (host := "") (Or.inl (hw _ (List.mem_of_getElem? (i := 103) rfl))) Via.refl e1 F_hashIsZero (g := (mkF m 10 #[.val (.ref x0), .val (.int (0 : Int32))] [(.ref x0)])) rfl rfl (hb hby d18_10)
  refine Go.of (fun _ k => st2 _ k) ?_
  show Go p e below T2 (mkF m 13 #[.val (.ref x0), .val (.int (0 : Int32))] [(.int (0 : Int32))]) _
  refine Go.of (fun _ k => XS.ifNo X2.here hx rfl (hb hby d18_13) rfl ((if0 _ _).trans (teq (show (0 : Int32) = (0 : Int32) from (by decide))).2) k) ?_
  show Go p e below T2 (mkF m 16 #[.val (.ref x0), .val (.int (0 : Int32))] []) _
  refine Go.of (fun _ k => XS.aloadN X2.here hx rfl (hb hby d18_16) rfl rfl  k) ?_
  show Go p e below T2 (mkF m 17 #[.val (.ref x0), .val (.int (0 : Int32))] [(.ref x0)]) _
  obtain ⟨cq3, kq3, q3a, q3b, q3c⟩ := isOf hZ e2 E_x0
  obtain ⟨_, _, ⟨T3, L3, kq3, nq3⟩, -, X3, ⟨Lc3, hQ3, l3, y3, z3⟩, st3⟩ := X2.virtualBack hx (y := (⟨"java/lang/String", "isLatin1", "()Z"⟩ : MethodName)) (z := (⟨"java/lang/String", "isLatin1", "()Z"⟩ : MethodName)) hown (mvT hZ (hw _ (List.mem_of_getElem? (i := 105) rfl))) (mvT hZ (hw _ (List.mem_of_getElem? (i := 106) rfl))) (notFace_of_selects (args := #[]) (mvT hZ (hw _ (List.mem_of_getElem? (i := 108) rfl)))) (mvT hZ (hw _ (List.mem_of_getElem? (i := 108) rfl))) (mvT hZ (hw _ (List.mem_of_getElem? (i := 107) rfl))) (by decide) (backOf (W := 0) (rm19 l Z a0 hw [] x0 zc h0 n0 Z0 OL O2 hzc F_coder) hZ (hw _ (List.mem_of_getElem? (i := 109) rfl)) (hw _ (List.mem_of_getElem? (i := 12) rfl)) (by decide) (by decide)) q3a q3c (g := (mkF m 17 #[.val (.ref x0), .val (.int (0 : Int32))] [(.ref x0)])) rfl (by rw [hml]; rfl) (Steps.refl _) (argsL := []) (rest := []) (lenOf own_pd8 rfl) rfl (by show 2 * 0 + _ ≤ _; exact Nat.le_of_eq rfl) (hb hby d18_17) (fun _ _ => ⟨rfl, e2, (by decide : 0 + 0 ≤ _), (by decide : 0 + 0 ≤ _)⟩)
  dsimp only [Pt.U, Pt.locs, Pt.cells, Pt.slots] at X3 l3 y3 z3 st3 hQ3
  subst l3 y3 z3
  obtain ⟨rfl, Nq3, e3⟩ := hQ3
  have N3 := Fr.app N0 Nq3
  refine Go.of (fun _ k => st3.trans k) ?_
  show Go p e below T3 (mkF m 20 #[.val (.ref x0), .val (.int (0 : Int32))] [(.int (1 : Int32))]) _
  refine Go.of (fun _ k => XS.ifNo X3.here hx rfl (hb hby d18_20) rfl ((if0 _ _).trans (feq (show ¬ ((1 : Int32) = (0 : Int32)) from (by decide))).1) k) ?_
  show Go p e below T3 (mkF m 23 #[.val (.ref x0), .val (.int (0 : Int32))] []) _
  refine Go.of (fun _ k => XS.aloadN X3.here hx rfl (hb hby d18_23) rfl rfl  k) ?_
  show Go p e below T3 (mkF m 24 #[.val (.ref x0), .val (.int (0 : Int32))] [(.ref x0)]) _
  obtain ⟨T4, X4, e4, st4⟩ := getF X3 hx hZ hown (host := "") (Or.inl (hw _ (List.mem_of_getElem? (i := 30) rfl))) Via.refl e3 F_value (g := (mkF m 24 #[.val (.ref x0), .val (.int (0 : Int32))] [(.ref x0)])) rfl rfl (hb hby d18_24)
  refine Go.of (fun _ k => st4 _ k) ?_
  show Go p e below T4 (mkF m 27 #[.val (.ref x0), .val (.int (0 : Int32))] [(.ref ts)]) _
  obtain ⟨_, _, ⟨T5, L5, kq5, nq5⟩, -, X5, ⟨Lc5, hQ5, l5, y5, z5⟩, st5⟩ := Jvm.LawKit.callS X4 hx (y := (⟨"java/lang/StringLatin1", "hashCode", "([B)I"⟩ : MethodName)) hown (mvT hZ (hw _ (List.mem_of_getElem? (i := 110) rfl))) (mvT hZ (hw _ (List.mem_of_getElem? (i := 111) rfl))) (mvT hZ (hw _ (List.mem_of_getElem? (i := 77) rfl))) (mvT hZ (hw _ (List.mem_of_getElem? (i := 112) rfl))) (by decide) (backOf (W := 0) (rmLH0 l Z a0 hw [] ts kb  h0 n0 Z0 V_a) hZ (hw _ (List.mem_of_getElem? (i := 112) rfl)) (hw _ (List.mem_of_getElem? (i := 77) rfl)) (by decide) (by decide)) (g := (mkF m 27 #[.val (.ref x0), .val (.int (0 : Int32))] [(.ref ts)])) rfl (by rw [hml]; rfl) (argsL := [(.ref ts)]) (rest := []) (lenOf own_pd9 rfl) rfl (by show 2 * 0 + _ ≤ _; exact Nat.le_of_eq rfl) (hb hby d18_27) (fun _ _ => ⟨rfl, e4, (by decide : 0 + 0 ≤ _), (by decide : 0 + 0 ≤ _)⟩)
  dsimp only [Pt.U, Pt.locs, Pt.cells, Pt.slots] at X5 l5 y5 z5 st5 hQ5
  subst l5 y5 z5
  obtain ⟨rfl, Nq5, e5⟩ := hQ5
  have N5 := Fr.app N3 Nq5
  refine Go.of (fun _ k => st5 _ k) ?_
  show Go p e below T5 (mkF m 30 #[.val (.ref x0), .val (.int (0 : Int32))] [(.int (fHs []))]) _
  refine Go.of (fun _ k => XS.goto X5.here hx rfl (pc0 := 30) (pc' := 40) rfl (hb hby d18_30) (by decide) (by decide) k) ?_
  show Go p e below T5 (mkF m 40 #[.val (.ref x0), .val (.int (0 : Int32))] [(.int (fHs []))]) _
  refine Go.of (fun _ k => XS.istoreN X5.here hx rfl (hb hby d18_40) rfl (l' := #[.val (.ref x0), .val (.int (fHs []))]) rfl k) ?_
  show Go p e below T5 (mkF m 41 #[.val (.ref x0), .val (.int (fHs []))] []) _
  refine Go.of (fun _ k => XS.iloadN X5.here hx rfl (hb hby d18_41) rfl  k) ?_
  show Go p e below T5 (mkF m 42 #[.val (.ref x0), .val (.int (fHs []))] [(.int (fHs []))]) _
  by_cases hc42_3 : (fHs []) = (0 : Int32)
  · refine Go.of (fun _ k => XS.ifNo X5.here hx rfl (hb hby d18_42) rfl ((if0 _ _).trans (teq hc42_3).2) k) ?_
    show Go p e below T5 (mkF m 45 #[.val (.ref x0), .val (.int (fHs []))] []) _
    refine Go.of (fun _ k => XS.aloadN X5.here hx rfl (hb hby d18_45) rfl rfl  k) ?_
    show Go p e below T5 (mkF m 46 #[.val (.ref x0), .val (.int (fHs []))] [(.ref x0)]) _
    refine Go.of (fun _ k => XS.iconst X5.here hx rfl (hb hby d18_46) k) ?_
    show Go p e below T5 (mkF m 47 #[.val (.ref x0), .val (.int (fHs []))] [(.int (1 : Int32)), (.ref x0)]) _
    obtain ⟨T6, h6, X6, e6, W6, st6⟩ := putFN X5 hx hZ hown (hw _ (List.mem_of_getElem? (i := 103) rfl)) Via.refl e5 F_hashIsZero E_x0 (Or.inl (hw _ (List.mem_of_getElem? (i := 104) rfl))) (hw _ (List.mem_of_getElem? (i := 11) rfl)) (ty := .boolean) (v' := (.int (1 : Int32))) (by decide) rfl (by decide) (g := (mkF m 47 #[.val (.ref x0), .val (.int (fHs []))] [(.int (1 : Int32)), (.ref x0)])) rfl rfl (hb hby d18_47)
    have N6 := Fr.snoc X6 N5 g0
    have F_hashIsZero := F_hashIsZero.same W6
    have KK := KK.wr W6 (Or.inl (List.mem_of_getElem? (i := 0) rfl))
    have E_x0 := E_x0.wr W6
    have F_coder := F_coder.other W6 (Or.inr (slot_ne (Or.inr (hw _ (List.mem_of_getElem? (i := 27) rfl))) (Or.inl (hw _ (List.mem_of_getElem? (i := 104) rfl))) (by decide) (t := .byte) (t' := .boolean) (by decide) (by decide)))
    have F_hash := F_hash.other W6 (Or.inr (slot_ne (Or.inl (hw _ (List.mem_of_getElem? (i := 102) rfl))) (Or.inl (hw _ (List.mem_of_getElem? (i := 104) rfl))) (by decide) (t := .int) (t' := .boolean) (by decide) (by decide)))
    have F_value := F_value.other W6 (Or.inr (slot_ne (Or.inr (hw _ (List.mem_of_getElem? (i := 26) rfl))) (Or.inl (hw _ (List.mem_of_getElem? (i := 104) rfl))) (by decide) (t := (.array .byte)) (t' := .boolean) (by decide) (by decide)))
    refine Go.of (fun _ k => st6 _ k) ?_
    show Go p e below T6 (mkF m 50 #[.val (.ref x0), .val (.int (fHs []))] []) _
    refine Go.of (fun _ k => XS.goto X6.here hx rfl (pc0 := 50) (pc' := 58) rfl (hb hby d18_50) (by decide) (by decide) k) ?_
    show Go p e below T6 (mkF m 58 #[.val (.ref x0), .val (.int (fHs []))] []) _
    refine Go.of (fun _ k => XS.iloadN X6.here hx rfl (hb hby d18_58) rfl  k) ?_
    show Go p e below T6 (mkF m 59 #[.val (.ref x0), .val (.int (fHs []))] [(.int (fHs []))]) _
    refine Go.retI X6 hx hret hlk (hb hby d18_59) e6 (by decide) (by decide) ?_
    exact ⟨rfl, N6, KK⟩
  · refine Go.of (fun _ k => XS.ifYes X5.here hx rfl (pc0 := 42) (pc' := 53) rfl (hb hby d18_42) rfl ((if0 _ _).trans (feq hc42_3).2) (by decide) (by decide) k) ?_
    show Go p e below T5 (mkF m 53 #[.val (.ref x0), .val (.int (fHs []))] []) _
    refine Go.of (fun _ k => XS.aloadN X5.here hx rfl (hb hby d18_53) rfl rfl  k) ?_
    show Go p e below T5 (mkF m 54 #[.val (.ref x0), .val (.int (fHs []))] [(.ref x0)]) _
    refine Go.of (fun _ k => XS.iloadN X5.here hx rfl (hb hby d18_54) rfl  k) ?_
    show Go p e below T5 (mkF m 55 #[.val (.ref x0), .val (.int (fHs []))] [(.int (fHs [])), (.ref x0)]) _
    obtain ⟨T7, h7, X7, e7, W7, st7⟩ := putF X5 hx hZ hown (host := "") (Or.inl (hw _ (List.mem_of_getElem? (i := 101) rfl))) Via.refl e5 F_hash E_x0 (Or.inl (hw _ (List.mem_of_getElem? (i := 102) rfl))) (hw _ (List.mem_of_getElem? (i := 11) rfl)) (ty := .int) (by decide) rfl rfl (g := (mkF m 55 #[.val (.ref x0), .val (.int (fHs []))] [(.int (fHs [])), (.ref x0)])) rfl rfl (hb hby d18_55)
    have N7 := Fr.snoc X7 N5 g0
    have F_hash := F_hash.same W7
    have KK := KK.wr W7 (Or.inl (List.mem_of_getElem? (i := 0) rfl))
    have E_x0 := E_x0.wr W7
    have F_coder := F_coder.other W7 (Or.inr (slot_ne (Or.inr (hw _ (List.mem_of_getElem? (i := 27) rfl))) (Or.inl (hw _ (List.mem_of_getElem? (i := 102) rfl))) (by decide) (t := .byte) (t' := .int) (by decide) (by decide)))
    have F_hashIsZero := F_hashIsZero.other W7 (Or.inr (slot_ne (Or.inl (hw _ (List.mem_of_getElem? (i := 104) rfl))) (Or.inl (hw _ (List.mem_of_getElem? (i := 102) rfl))) (by decide) (t := .boolean) (t' := .int) (by decide) (by decide)))
    have F_value := F_value.other W7 (Or.inr (slot_ne (Or.inr (hw _ (List.mem_of_getElem? (i := 26) rfl))) (Or.inl (hw _ (List.mem_of_getElem? (i := 102) rfl))) (by decide) (t := (.array .byte)) (t' := .int) (by decide) (by decide)))
    refine Go.of (fun _ k => st7 _ k) ?_
    show Go p e below T7 (mkF m 58 #[.val (.ref x0), .val (.int (fHs []))] []) _
    refine Go.of (fun _ k => XS.iloadN X7.here hx rfl (hb hby d18_58) rfl  k) ?_
    show Go p e below T7 (mkF m 59 #[.val (.ref x0), .val (.int (fHs []))] [(.int (fHs []))]) _
    refine Go.retI X7 hx hret hlk (hb hby d18_59) e7 (by decide) (by decide) ?_
    exact ⟨rfl, N7, KK⟩
theorem own_ef_rmHS1 (m : MethodId) (x0 : Addr) : entryFrame m #[(.ref x0)] 2 = mkF m 0 #[.val (.ref x0), .unset] [] := by first | (simp [entryFrame, mkF, argsToLocals, Value.category]; done) | rfl
set_option maxRecDepth 65536 in
set_option maxHeartbeats 40000000 in
theorem rmHS1 (l : Launch) (Z : State) (a0 : Array Value) (hw : ∀ d ∈ tables_1, d.before a0 Z = true) (ws : List Jvm.Cond) (x0 ts : Addr) (kb : ClassId) (zc : Int32) (ca : Int32) (h0 : Heap) (n0 : Nat) (Z0 : n0 ≤ h0.size) (OL : Old Z n0 h0) (O2 : Sta Z Z.heap "java/lang/String" "COMPACT_STRINGS" "Z" (.int zc)) (hzc : ¬ zc = 0) (g0 : n0 ≤ x0) (E_x0 : Exa Z h0 x0 "java/lang/String") (F_coder : Fld Z h0 x0 "java/lang/String" "coder" "B" (.int (0 : Int32))) (F_hash : Fld Z h0 x0 "java/lang/String" "hash" "I" (.int (0 : Int32))) (F_hashIsZero : Fld Z h0 x0 "java/lang/String" "hashIsZero" "Z" (.int (0 : Int32))) (F_value : Fld Z h0 x0 "java/lang/String" "value" "[B" (.ref ts)) (V_a : Arv Z h0 ts kb .byte 1 (byt [ca]) (.int 0)) (fk : ([ca] : List Int32) ≠ [] → Z.vm.findClass "[B" = some kb) :
    Ctr l Z (⟨"java/lang/String", "hashCode", "()I"⟩ : MethodName) jdk_42_method_78_code 2 (some .int) ws ({ frames := 4, cells := 0, slots := 0, locals := 120 } : Room) #[(.ref x0)] h0 (Q_rmHS x0 ([ca] : List Int32) h0 n0) := by
  refine Ctr.intro (plainFor_of_name own_pn0) ?_
  intro p e s m below meth c s₁ hx hby hml hown hnm hret hlk hZ X0 e0
  have hown : s.vm.findClass "java/lang/String" = some m.cls := hown
  have hml : c.maxLocals = 2 := hml
  have N0 := Fr.nil n0
  refine Go.cast (own_ef_rmHS1 m x0) ?_
  have KK := Keep.refl h0 [x0]
  show Go p e below s₁ (mkF m 0 #[.val (.ref x0), .unset] []) _
  refine Go.of (fun _ k => XS.aloadN X0.here hx rfl (hb hby d18_0) rfl rfl  k) ?_
  show Go p e below s₁ (mkF m 1 #[.val (.ref x0), .unset] [(.ref x0)]) _
  obtain ⟨T1, X1, e1, st1⟩ := getF X0 hx hZ hown (host := "") (Or.inl (hw _ (List.mem_of_getElem? (i := 101) rfl))) Via.refl e0 F_hash (g := (mkF m 1 #[.val (.ref x0), .unset] [(.ref x0)])) rfl rfl (hb hby d18_1)
  refine Go.of (fun _ k => st1 _ k) ?_
  show Go p e below T1 (mkF m 4 #[.val (.ref x0), .unset] [(.int (0 : Int32))]) _
  refine Go.of (fun _ k => XS.istoreN X1.here hx rfl (hb hby d18_4) rfl (l' := #[.val (.ref x0), .val (.int (0 : Int32))]) rfl k) ?_
  show Go p e below T1 (mkF m 5 #[.val (.ref x0), .val (.int (0 : Int32))] []) _
  refine Go.of (fun _ k => XS.iloadN X1.here hx rfl (hb hby d18_5) rfl  k) ?_
  show Go p e below T1 (mkF m 6 #[.val (.ref x0), .val (.int (0 : Int32))] [(.int (0 : Int32))]) _
  refine Go.of (fun _ k => XS.ifNo X1.here hx rfl (hb hby d18_6) rfl ((if0 _ _).trans (teq (show (0 : Int32) = (0 : Int32) from (by decide))).2) k) ?_
  show Go p e below T1 (mkF m 9 #[.val (.ref x0), .val (.int (0 : Int32))] []) _
  refine Go.of (fun _ k => XS.aloadN X1.here hx rfl (hb hby d18_9) rfl rfl  k) ?_
  show Go p e below T1 (mkF m 10 #[.val (.ref x0), .val (.int (0 : Int32))] [(.ref x0)]) _
  obtain ⟨T2, X2, e2, st2⟩ := getF X1 hx hZ hown (host := "") (Or.inl (hw _ (List.mem_of_getElem? (i := 103) rfl))) Via.refl e1 F_hashIsZero (g := (mkF m 10 #[.val (.ref x0), .val (.int (0 : Int32))] [(.ref x0)])) rfl rfl (hb hby d18_10)
  refine Go.of (fun _ k => st2 _ k) ?_
  show Go p e below T2 (mkF m 13 #[.val (.ref x0), .val (.int (0 : Int32))] [(.int (0 : Int32))]) _
  refine Go.of (fun _ k => XS.ifNo X2.here hx rfl (hb hby d18_13) rfl ((if0 _ _).trans (teq (show (0 : Int32) = (0 : Int32) from (by decide))).2) k) ?_
  show Go p e below T2 (mkF m 16 #[.val (.ref x0), .val (.int (0 : Int32))] []) _
  refine Go.of (fun _ k => XS.aloadN X2.here hx rfl (hb hby d18_16) rfl rfl  k) ?_
  show Go p e below T2 (mkF m 17 #[.val (.ref x0), .val (.int (0 : Int32))] [(.ref x0)]) _
  obtain ⟨cq3, kq3, q3a, q3b, q3c⟩ := isOf hZ e2 E_x0
  obtain ⟨_, _, ⟨T3, L3, kq3, nq3⟩, -, X3, ⟨Lc3, hQ3, l3, y3, z3⟩, st3⟩ := X2.virtualBack hx (y := (⟨"java/lang/String", "isLatin1", "()Z"⟩ : MethodName)) (z := (⟨"java/lang/String", "isLatin1", "()Z"⟩ : MethodName)) hown (mvT hZ (hw _ (List.mem_of_getElem? (i := 105) rfl))) (mvT hZ (hw _ (List.mem_of_getElem? (i := 106) rfl))) (notFace_of_selects (args := #[]) (mvT hZ (hw _ (List.mem_of_getElem? (i := 108) rfl)))) (mvT hZ (hw _ (List.mem_of_getElem? (i := 108) rfl))) (mvT hZ (hw _ (List.mem_of_getElem? (i := 107) rfl))) (by decide) (backOf (W := 0) (rm19 l Z a0 hw [] x0 zc h0 n0 Z0 OL O2 hzc F_coder) hZ (hw _ (List.mem_of_getElem? (i := 109) rfl)) (hw _ (List.mem_of_getElem? (i := 12) rfl)) (by decide) (by decide)) q3a q3c (g := (mkF m 17 #[.val (.ref x0), .val (.int (0 : Int32))] [(.ref x0)])) rfl (by rw [hml]; rfl) (Steps.refl _) (argsL := []) (rest := []) (lenOf own_pd8 rfl) rfl (by show 2 * 0 + _ ≤ _; exact Nat.le_of_eq rfl) (hb hby d18_17) (fun _ _ => ⟨rfl, e2, (by decide : 0 + 0 ≤ _), (by decide : 0 + 0 ≤ _)⟩)
  dsimp only [Pt.U, Pt.locs, Pt.cells, Pt.slots] at X3 l3 y3 z3 st3 hQ3
  subst l3 y3 z3
  obtain ⟨rfl, Nq3, e3⟩ := hQ3
  have N3 := Fr.app N0 Nq3
  refine Go.of (fun _ k => st3.trans k) ?_
  show Go p e below T3 (mkF m 20 #[.val (.ref x0), .val (.int (0 : Int32))] [(.int (1 : Int32))]) _
  refine Go.of (fun _ k => XS.ifNo X3.here hx rfl (hb hby d18_20) rfl ((if0 _ _).trans (feq (show ¬ ((1 : Int32) = (0 : Int32)) from (by decide))).1) k) ?_
  show Go p e below T3 (mkF m 23 #[.val (.ref x0), .val (.int (0 : Int32))] []) _
  refine Go.of (fun _ k => XS.aloadN X3.here hx rfl (hb hby d18_23) rfl rfl  k) ?_
  show Go p e below T3 (mkF m 24 #[.val (.ref x0), .val (.int (0 : Int32))] [(.ref x0)]) _
  obtain ⟨T4, X4, e4, st4⟩ := getF X3 hx hZ hown (host := "") (Or.inl (hw _ (List.mem_of_getElem? (i := 30) rfl))) Via.refl e3 F_value (g := (mkF m 24 #[.val (.ref x0), .val (.int (0 : Int32))] [(.ref x0)])) rfl rfl (hb hby d18_24)
  refine Go.of (fun _ k => st4 _ k) ?_
  show Go p e below T4 (mkF m 27 #[.val (.ref x0), .val (.int (0 : Int32))] [(.ref ts)]) _
  obtain ⟨_, _, ⟨T5, L5, kq5, nq5⟩, -, X5, ⟨Lc5, hQ5, l5, y5, z5⟩, st5⟩ := Jvm.LawKit.callS X4 hx (y := (⟨"java/lang/StringLatin1", "hashCode", "([B)I"⟩ : MethodName)) hown (mvT hZ (hw _ (List.mem_of_getElem? (i := 110) rfl))) (mvT hZ (hw _ (List.mem_of_getElem? (i := 111) rfl))) (mvT hZ (hw _ (List.mem_of_getElem? (i := 77) rfl))) (mvT hZ (hw _ (List.mem_of_getElem? (i := 112) rfl))) (by decide) (backOf (W := 0) (rmLH1 l Z a0 hw [] ts kb ca h0 n0 Z0 V_a) hZ (hw _ (List.mem_of_getElem? (i := 112) rfl)) (hw _ (List.mem_of_getElem? (i := 77) rfl)) (by decide) (by decide)) (g := (mkF m 27 #[.val (.ref x0), .val (.int (0 : Int32))] [(.ref ts)])) rfl (by rw [hml]; rfl) (argsL := [(.ref ts)]) (rest := []) (lenOf own_pd9 rfl) rfl (by show 2 * 0 + _ ≤ _; exact Nat.le_of_eq rfl) (hb hby d18_27) (fun _ _ => ⟨rfl, e4, (by decide : 0 + 0 ≤ _), (by decide : 0 + 0 ≤ _)⟩)
  dsimp only [Pt.U, Pt.locs, Pt.cells, Pt.slots] at X5 l5 y5 z5 st5 hQ5
  subst l5 y5 z5
  obtain ⟨rfl, Nq5, e5⟩ := hQ5
  have N5 := Fr.app N3 Nq5
  refine Go.of (fun _ k => st5 _ k) ?_
  show Go p e below T5 (mkF m 30 #[.val (.ref x0), .val (.int (0 : Int32))] [(.int (fHs [ca]))]) _
  refine Go.of (fun _ k => XS.goto X5.here hx rfl (pc0 := 30) (pc' := 40) rfl (hb hby d18_30) (by decide) (by decide) k) ?_
  show Go p e below T5 (mkF m 40 #[.val (.ref x0), .val (.int (0 : Int32))] [(.int (fHs [ca]))]) _
  refine Go.of (fun _ k => XS.istoreN X5.here hx rfl (hb hby d18_40) rfl (l' := #[.val (.ref x0), .val (.int (fHs [ca]))]) rfl k) ?_
  show Go p e below T5 (mkF m 41 #[.val (.ref x0), .val (.int (fHs [ca]))] []) _
  refine Go.of (fun _ k => XS.iloadN X5.here hx rfl (hb hby d18_41) rfl  k) ?_
  show Go p e below T5 (mkF m 42 #[.val (.ref x0), .val (.int (fHs [ca]))] [(.int (fHs [ca]))]) _
  by_cases hc42_3 : (fHs [ca]) = (0 : Int32)
  · refine Go.of (fun _ k => XS.ifNo X5.here hx rfl (hb hby d18_42) rfl ((if0 _ _).trans (teq hc42_3).2) k) ?_
    show Go p e below T5 (mkF m 45 #[.val (.ref x0), .val (.int (fHs [ca]))] []) _
    refine Go.of (fun _ k => XS.aloadN X5.here hx rfl (hb hby d18_45) rfl rfl  k) ?_
    show Go p e below T5 (mkF m 46 #[.val (.ref x0), .val (.int (fHs [ca]))] [(.ref x0)]) _
    refine Go.of (fun _ k => XS.iconst X5.here hx rfl (hb hby d18_46) k) ?_
    show Go p e below T5 (mkF m 47 #[.val (.ref x0), .val (.int (fHs [ca]))] [(.int (1 : Int32)), (.ref x0)]) _
    obtain ⟨T6, h6, X6, e6, W6, st6⟩ := putFN X5 hx hZ hown (hw _ (List.mem_of_getElem? (i := 103) rfl)) Via.refl e5 F_hashIsZero E_x0 (Or.inl (hw _ (List.mem_of_getElem? (i := 104) rfl))) (hw _ (List.mem_of_getElem? (i := 11) rfl)) (ty := .boolean) (v' := (.int (1 : Int32))) (by decide) rfl (by decide) (g := (mkF m 47 #[.val (.ref x0), .val (.int (fHs [ca]))] [(.int (1 : Int32)), (.ref x0)])) rfl rfl (hb hby d18_47)
    have N6 := Fr.snoc X6 N5 g0
    have F_hashIsZero := F_hashIsZero.same W6
    have KK := KK.wr W6 (Or.inl (List.mem_of_getElem? (i := 0) rfl))
    have E_x0 := E_x0.wr W6
    have F_coder := F_coder.other W6 (Or.inr (slot_ne (Or.inr (hw _ (List.mem_of_getElem? (i := 27) rfl))) (Or.inl (hw _ (List.mem_of_getElem? (i := 104) rfl))) (by decide) (t := .byte) (t' := .boolean) (by decide) (by decide)))
    have F_hash := F_hash.other W6 (Or.inr (slot_ne (Or.inl (hw _ (List.mem_of_getElem? (i := 102) rfl))) (Or.inl (hw _ (List.mem_of_getElem? (i := 104) rfl))) (by decide) (t := .int) (t' := .boolean) (by decide) (by decide)))
    have F_value := F_value.other W6 (Or.inr (slot_ne (Or.inr (hw _ (List.mem_of_getElem? (i := 26) rfl))) (Or.inl (hw _ (List.mem_of_getElem? (i := 104) rfl))) (by decide) (t := (.array .byte)) (t' := .boolean) (by decide) (by decide)))
    refine Go.of (fun _ k => st6 _ k) ?_
    show Go p e below T6 (mkF m 50 #[.val (.ref x0), .val (.int (fHs [ca]))] []) _
    refine Go.of (fun _ k => XS.goto X6.here hx rfl (pc0 := 50) (pc' := 58) rfl (hb hby d18_50) (by decide) (by decide) k) ?_
    show Go p e below T6 (mkF m 58 #[.val (.ref x0), .val (.int (fHs [ca]))] []) _
    refine Go.of (fun _ k => XS.iloadN X6.here hx rfl (hb hby d18_58) rfl  k) ?_
    show Go p e below T6 (mkF m 59 #[.val (.ref x0), .val (.int (fHs [ca]))] [(.int (fHs [ca]))]) _
    refine Go.retI X6 hx hret hlk (hb hby d18_59) e6 (by decide) (by decide) ?_
    exact ⟨rfl, N6, KK⟩
  · refine Go.of (fun _ k => XS.ifYes X5.here hx rfl (pc0 := 42) (pc' := 53) rfl (hb hby d18_42) rfl ((if0 _ _).trans (feq hc42_3).2) (by decide) (by decide) k) ?_
    show Go p e below T5 (mkF m 53 #[.val (.ref x0), .val (.int (fHs [ca]))] []) _
    refine Go.of (fun _ k => XS.aloadN X5.here hx rfl (hb hby d18_53) rfl rfl  k) ?_
    show Go p e below T5 (mkF m 54 #[.val (.ref x0), .val (.int (fHs [ca]))] [(.ref x0)]) _
    refine Go.of (fun _ k => XS.iloadN X5.here hx rfl (hb hby d18_54) rfl  k) ?_
    show Go p e below T5 (mkF m 55 #[.val (.ref x0), .val (.int (fHs [ca]))] [(.int (fHs [ca])), (.ref x0)]) _
    obtain ⟨T7, h7, X7, e7, W7, st7⟩ := putF X5 hx hZ hown (host := "") (Or.inl (hw _ (List.mem_of_getElem? (i := 101) rfl))) Via.refl e5 F_hash E_x0 (Or.inl (hw _ (List.mem_of_getElem? (i := 102) rfl))) (hw _ (List.mem_of_getElem? (i := 11) rfl)) (ty := .int) (by decide) rfl rfl (g := (mkF m 55 #[.val (.ref x0), .val (.int (fHs [ca]))] [(.int (fHs [ca])), (.ref x0)])) rfl rfl (hb hby d18_55)
    have N7 := Fr.snoc X7 N5 g0
    have F_hash := F_hash.same W7
    have KK := KK.wr W7 (Or.inl (List.mem_of_getElem? (i := 0) rfl))
    have E_x0 := E_x0.wr W7
    have F_coder := F_coder.other W7 (Or.inr (slot_ne (Or.inr (hw _ (List.mem_of_getElem? (i := 27) rfl))) (Or.inl (hw _ (List.mem_of_getElem? (i := 102) rfl))) (by decide) (t := .byte) (t' := .int) (by decide) (by decide)))
    have F_hashIsZero := F_hashIsZero.other W7 (Or.inr (slot_ne (Or.inl (hw _ (List.mem_of_getElem? (i := 104) rfl))) (Or.inl (hw _ (List.mem_of_getElem? (i := 102) rfl))) (by decide) (t := .boolean) (t' := .int) (by decide) (by decide)))
    have F_value := F_value.other W7 (Or.inr (slot_ne (Or.inr (hw _ (List.mem_of_getElem? (i := 26) rfl))) (Or.inl (hw _ (List.mem_of_getElem? (i := 102) rfl))) (by decide) (t := (.array .byte)) (t' := .int) (by decide) (by decide)))
    refine Go.of (fun _ k => st7 _ k) ?_
    show Go p e below T7 (mkF m 58 #[.val (.ref x0), .val (.int (fHs [ca]))] []) _
    refine Go.of (fun _ k => XS.iloadN X7.here hx rfl (hb hby d18_58) rfl  k) ?_
    show Go p e below T7 (mkF m 59 #[.val (.ref x0), .val (.int (fHs [ca]))] [(.int (fHs [ca]))]) _
    refine Go.retI X7 hx hret hlk (hb hby d18_59) e7 (by decide) (by decide) ?_
    exact ⟨rfl, N7, KK⟩
theorem own_ef_rmHS2 (m : MethodId) (x0 : Addr) : entryFrame m #[(.ref x0)] 2 = mkF m 0 #[.val (.ref x0), .unset] [] := by first | (simp [entryFrame, mkF, argsToLocals, Value.category]; done) | rfl
set_option maxRecDepth 65536 in
set_option maxHeartbeats 40000000 in
theorem rmHS2 (l : Launch) (Z : State) (a0 : Array Value) (hw : ∀ d ∈ tables_1, d.before a0 Z = true) (ws : List Jvm.Cond) (x0 ts : Addr) (kb : ClassId) (zc : Int32) (ca cb : Int32) (h0 : Heap) (n0 : Nat) (Z0 : n0 ≤ h0.size) (OL : Old Z n0 h0) (O2 : Sta Z Z.heap "java/lang/String" "COMPACT_STRINGS" "Z" (.int zc)) (hzc : ¬ zc = 0) (g0 : n0 ≤ x0) (E_x0 : Exa Z h0 x0 "java/lang/String") (F_coder : Fld Z h0 x0 "java/lang/String" "coder" "B" (.int (0 : Int32))) (F_hash : Fld Z h0 x0 "java/lang/String" "hash" "I" (.int (0 : Int32))) (F_hashIsZero : Fld Z h0 x0 "java/lang/String" "hashIsZero" "Z" (.int (0 : Int32))) (F_value : Fld Z h0 x0 "java/lang/String" "value" "[B" (.ref ts)) (V_a : Arv Z h0 ts kb .byte 2 (byt [ca, cb]) (.int 0)) (fk : ([ca, cb] : List Int32) ≠ [] → Z.vm.findClass "[B" = some kb) :
    Ctr l Z (⟨"java/lang/String", "hashCode", "()I"⟩ : MethodName) jdk_42_method_78_code 2 (some .int) ws ({ frames := 4, cells := 0, slots := 0, locals := 120 } : Room) #[(.ref x0)] h0 (Q_rmHS x0 ([ca, cb] : List Int32) h0 n0) := by
  refine Ctr.intro (plainFor_of_name own_pn0) ?_
  intro p e s m below meth c s₁ hx hby hml hown hnm hret hlk hZ X0 e0
  have hown : s.vm.findClass "java/lang/String" = some m.cls := hown
  have hml : c.maxLocals = 2 := hml
  have N0 := Fr.nil n0
  refine Go.cast (own_ef_rmHS2 m x0) ?_
  have KK := Keep.refl h0 [x0]
  show Go p e below s₁ (mkF m 0 #[.val (.ref x0), .unset] []) _
  refine Go.of (fun _ k => XS.aloadN X0.here hx rfl (hb hby d18_0) rfl rfl  k) ?_
  show Go p e below s₁ (mkF m 1 #[.val (.ref x0), .unset] [(.ref x0)]) _
  obtain ⟨T1, X1, e1, st1⟩ := getF X0 hx hZ hown (host := "") (Or.inl (hw _ (List.mem_of_getElem? (i := 101) rfl))) Via.refl e0 F_hash (g := (mkF m 1 #[.val (.ref x0), .unset] [(.ref x0)])) rfl rfl (hb hby d18_1)
  refine Go.of (fun _ k => st1 _ k) ?_
  show Go p e below T1 (mkF m 4 #[.val (.ref x0), .unset] [(.int (0 : Int32))]) _
  refine Go.of (fun _ k => XS.istoreN X1.here hx rfl (hb hby d18_4) rfl (l' := #[.val (.ref x0), .val (.int (0 : Int32))]) rfl k) ?_
  show Go p e below T1 (mkF m 5 #[.val (.ref x0), .val (.int (0 : Int32))] []) _
  refine Go.of (fun _ k => XS.iloadN X1.here hx rfl (hb hby d18_5) rfl  k) ?_
  show Go p e below T1 (mkF m 6 #[.val (.ref x0), .val (.int (0 : Int32))] [(.int (0 : Int32))]) _
  refine Go.of (fun _ k => XS.ifNo X1.here hx rfl (hb hby d18_6) rfl ((if0 _ _).trans (teq (show (0 : Int32) = (0 : Int32) from (by decide))).2) k) ?_
  show Go p e below T1 (mkF m 9 #[.val (.ref x0), .val (.int (0 : Int32))] []) _
  refine Go.of (fun _ k => XS.aloadN X1.here hx rfl (hb hby d18_9) rfl rfl  k) ?_
  show Go p e below T1 (mkF m 10 #[.val (.ref x0), .val (.int (0 : Int32))] [(.ref x0)]) _
  obtain ⟨T2, X2, e2, st2⟩ := getF X1 hx hZ hown (host := "") (Or.inl (hw _ (List.mem_of_getElem? (i := 103) rfl))) Via.refl e1 F_hashIsZero (g := (mkF m 10 #[.val (.ref x0), .val (.int (0 : Int32))] [(.ref x0)])) rfl rfl (hb hby d18_10)
  refine Go.of (fun _ k => st2 _ k) ?_
  show Go p e below T2 (mkF m 13 #[.val (.ref x0), .val (.int (0 : Int32))] [(.int (0 : Int32))]) _
  refine Go.of (fun _ k => XS.ifNo X2.here hx rfl (hb hby d18_13) rfl ((if0 _ _).trans (teq (show (0 : Int32) = (0 : Int32) from (by decide))).2) k) ?_
  show Go p e below T2 (mkF m 16 #[.val (.ref x0), .val (.int (0 : Int32))] []) _
  refine Go.of (fun _ k => XS.aloadN X2.here hx rfl (hb hby d18_16) rfl rfl  k) ?_
  show Go p e below T2 (mkF m 17 #[.val (.ref x0), .val (.int (0 : Int32))] [(.ref x0)]) _
  obtain ⟨cq3, kq3, q3a, q3b, q3c⟩ := isOf hZ e2 E_x0
  obtain ⟨_, _, ⟨T3, L3, kq3, nq3⟩, -, X3, ⟨Lc3, hQ3, l3, y3, z3⟩, st3⟩ := X2.virtualBack hx (y := (⟨"java/lang/String", "isLatin1", "()Z"⟩ : MethodName)) (z := (⟨"java/lang/String", "isLatin1", "()Z"⟩ : MethodName)) hown (mvT hZ (hw _ (List.mem_of_getElem? (i := 105) rfl))) (mvT hZ (hw _ (List.mem_of_getElem? (i := 106) rfl))) (notFace_of_selects (args := #[]) (mvT hZ (hw _ (List.mem_of_getElem? (i := 108) rfl)))) (mvT hZ (hw _ (List.mem_of_getElem? (i := 108) rfl))) (mvT hZ (hw _ (List.mem_of_getElem? (i := 107) rfl))) (by decide) (backOf (W := 0) (rm19 l Z a0 hw [] x0 zc h0 n0 Z0 OL O2 hzc F_coder) hZ (hw _ (List.mem_of_getElem? (i := 109) rfl)) (hw _ (List.mem_of_getElem? (i := 12) rfl)) (by decide) (by decide)) q3a q3c (g := (mkF m 17 #[.val (.ref x0), .val (.int (0 : Int32))] [(.ref x0)])) rfl (by rw [hml]; rfl) (Steps.refl _) (argsL := []) (rest := []) (lenOf own_pd8 rfl) rfl (by show 2 * 0 + _ ≤ _; exact Nat.le_of_eq rfl) (hb hby d18_17) (fun _ _ => ⟨rfl, e2, (by decide : 0 + 0 ≤ _), (by decide : 0 + 0 ≤ _)⟩)
  dsimp only [Pt.U, Pt.locs, Pt.cells, Pt.slots] at X3 l3 y3 z3 st3 hQ3
  subst l3 y3 z3
  obtain ⟨rfl, Nq3, e3⟩ := hQ3
  have N3 := Fr.app N0 Nq3
  refine Go.of (fun _ k => st3.trans k) ?_
  show Go p e below T3 (mkF m 20 #[.val (.ref x0), .val (.int (0 : Int32))] [(.int (1 : Int32))]) _
  refine Go.of (fun _ k => XS.ifNo X3.here hx rfl (hb hby d18_20) rfl ((if0 _ _).trans (feq (show ¬ ((1 : Int32) = (0 : Int32)) from (by decide))).1) k) ?_
  show Go p e below T3 (mkF m 23 #[.val (.ref x0), .val (.int (0 : Int32))] []) _
  refine Go.of (fun _ k => XS.aloadN X3.here hx rfl (hb hby d18_23) rfl rfl  k) ?_
  show Go p e below T3 (mkF m 24 #[.val (.ref x0), .val (.int (0 : Int32))] [(.ref x0)]) _
  obtain ⟨T4, X4, e4, st4⟩ := getF X3 hx hZ hown (host := "") (Or.inl (hw _ (List.mem_of_getElem? (i := 30) rfl))) Via.refl e3 F_value (g := (mkF m 24 #[.val (.ref x0), .val (.int (0 : Int32))] [(.ref x0)])) rfl rfl (hb hby d18_24)
  refine Go.of (fun _ k => st4 _ k) ?_
  show Go p e below T4 (mkF m 27 #[.val (.ref x0), .val (.int (0 : Int32))] [(.ref ts)]) _
  obtain ⟨_, _, ⟨T5, L5, kq5, nq5⟩, -, X5, ⟨Lc5, hQ5, l5, y5, z5⟩, st5⟩ := Jvm.LawKit.callS X4 hx (y := (⟨"java/lang/StringLatin1", "hashCode", "([B)I"⟩ : MethodName)) hown (mvT hZ (hw _ (List.mem_of_getElem? (i := 110) rfl))) (mvT hZ (hw _ (List.mem_of_getElem? (i := 111) rfl))) (mvT hZ (hw _ (List.mem_of_getElem? (i := 77) rfl))) (mvT hZ (hw _ (List.mem_of_getElem? (i := 112) rfl))) (by decide) (backOf (W := 0) (rmLH2 l Z a0 hw [] ts kb ca cb h0 n0 Z0 V_a (fk (by simp))) hZ (hw _ (List.mem_of_getElem? (i := 112) rfl)) (hw _ (List.mem_of_getElem? (i := 77) rfl)) (by decide) (by decide)) (g := (mkF m 27 #[.val (.ref x0), .val (.int (0 : Int32))] [(.ref ts)])) rfl (by rw [hml]; rfl) (argsL := [(.ref ts)]) (rest := []) (lenOf own_pd9 rfl) rfl (by show 2 * 0 + _ ≤ _; exact Nat.le_of_eq rfl) (hb hby d18_27) (fun _ _ => ⟨rfl, e4, (by decide : 0 + 0 ≤ _), (by decide : 0 + 0 ≤ _)⟩)
  dsimp only [Pt.U, Pt.locs, Pt.cells, Pt.slots] at X5 l5 y5 z5 st5 hQ5
  subst l5 y5 z5
  obtain ⟨rfl, Nq5, e5⟩ := hQ5
  have N5 := Fr.app N3 Nq5
  refine Go.of (fun _ k => st5 _ k) ?_
  show Go p e below T5 (mkF m 30 #[.val (.ref x0), .val (.int (0 : Int32))] [(.int (fHs [ca, cb]))]) _
  refine Go.of (fun _ k => XS.goto X5.here hx rfl (pc0 := 30) (pc' := 40) rfl (hb hby d18_30) (by decide) (by decide) k) ?_
  show Go p e below T5 (mkF m 40 #[.val (.ref x0), .val (.int (0 : Int32))] [(.int (fHs [ca, cb]))]) _
  refine Go.of (fun _ k => XS.istoreN X5.here hx rfl (hb hby d18_40) rfl (l' := #[.val (.ref x0), .val (.int (fHs [ca, cb]))]) rfl k) ?_
  show Go p e below T5 (mkF m 41 #[.val (.ref x0), .val (.int (fHs [ca, cb]))] []) _
  refine Go.of (fun _ k => XS.iloadN X5.here hx rfl (hb hby d18_41) rfl  k) ?_
  show Go p e below T5 (mkF m 42 #[.val (.ref x0), .val (.int (fHs [ca, cb]))] [(.int (fHs [ca, cb]))]) _
  by_cases hc42_3 : (fHs [ca, cb]) = (0 : Int32)
  · refine Go.of (fun _ k => XS.ifNo X5.here hx rfl (hb hby d18_42) rfl ((if0 _ _).trans (teq hc42_3).2) k) ?_
    show Go p e below T5 (mkF m 45 #[.val (.ref x0), .val (.int (fHs [ca, cb]))] []) _
    refine Go.of (fun _ k => XS.aloadN X5.here hx rfl (hb hby d18_45) rfl rfl  k) ?_
    show Go p e below T5 (mkF m 46 #[.val (.ref x0), .val (.int (fHs [ca, cb]))] [(.ref x0)]) _
    refine Go.of (fun _ k => XS.iconst X5.here hx rfl (hb hby d18_46) k) ?_
    show Go p e below T5 (mkF m 47 #[.val (.ref x0), .val (.int (fHs [ca, cb]))] [(.int (1 : Int32)), (.ref x0)]) _
    obtain ⟨T6, h6, X6, e6, W6, st6⟩ := putFN X5 hx hZ hown (hw _ (List.mem_of_getElem? (i := 103) rfl)) Via.refl e5 F_hashIsZero E_x0 (Or.inl (hw _ (List.mem_of_getElem? (i := 104) rfl))) (hw _ (List.mem_of_getElem? (i := 11) rfl)) (ty := .boolean) (v' := (.int (1 : Int32))) (by decide) rfl (by decide) (g := (mkF m 47 #[.val (.ref x0), .val (.int (fHs [ca, cb]))] [(.int (1 : Int32)), (.ref x0)])) rfl rfl (hb hby d18_47)
    have N6 := Fr.snoc X6 N5 g0
    have F_hashIsZero := F_hashIsZero.same W6
    have KK := KK.wr W6 (Or.inl (List.mem_of_getElem? (i := 0) rfl))
    have E_x0 := E_x0.wr W6
    have F_coder := F_coder.other W6 (Or.inr (slot_ne (Or.inr (hw _ (List.mem_of_getElem? (i := 27) rfl))) (Or.inl (hw _ (List.mem_of_getElem? (i := 104) rfl))) (by decide) (t := .byte) (t' := .boolean) (by decide) (by decide)))
    have F_hash := F_hash.other W6 (Or.inr (slot_ne (Or.inl (hw _ (List.mem_of_getElem? (i := 102) rfl))) (Or.inl (hw _ (List.mem_of_getElem? (i := 104) rfl))) (by decide) (t := .int) (t' := .boolean) (by decide) (by decide)))
    have F_value := F_value.other W6 (Or.inr (slot_ne (Or.inr (hw _ (List.mem_of_getElem? (i := 26) rfl))) (Or.inl (hw _ (List.mem_of_getElem? (i := 104) rfl))) (by decide) (t := (.array .byte)) (t' := .boolean) (by decide) (by decide)))
    refine Go.of (fun _ k => st6 _ k) ?_
    show Go p e below T6 (mkF m 50 #[.val (.ref x0), .val (.int (fHs [ca, cb]))] []) _
    refine Go.of (fun _ k => XS.goto X6.here hx rfl (pc0 := 50) (pc' := 58) rfl (hb hby d18_50) (by decide) (by decide) k) ?_
    show Go p e below T6 (mkF m 58 #[.val (.ref x0), .val (.int (fHs [ca, cb]))] []) _
    refine Go.of (fun _ k => XS.iloadN X6.here hx rfl (hb hby d18_58) rfl  k) ?_
    show Go p e below T6 (mkF m 59 #[.val (.ref x0), .val (.int (fHs [ca, cb]))] [(.int (fHs [ca, cb]))]) _
    refine Go.retI X6 hx hret hlk (hb hby d18_59) e6 (by decide) (by decide) ?_
    exact ⟨rfl, N6, KK⟩
  · refine Go.of (fun _ k => XS.ifYes X5.here hx rfl (pc0 := 42) (pc' := 53) rfl (hb hby d18_42) rfl ((if0 _ _).trans (feq hc42_3).2) (by decide) (by decide) k) ?_
    show Go p e below T5 (mkF m 53 #[.val (.ref x0), .val (.int (fHs [ca, cb]))] []) _
    refine Go.of (fun _ k => XS.aloadN X5.here hx rfl (hb hby d18_53) rfl rfl  k) ?_
    show Go p e below T5 (mkF m 54 #[.val (.ref x0), .val (.int (fHs [ca, cb]))] [(.ref x0)]) _
    refine Go.of (fun _ k => XS.iloadN X5.here hx rfl (hb hby d18_54) rfl  k) ?_
    show Go p e below T5 (mkF m 55 #[.val (.ref x0), .val (.int (fHs [ca, cb]))] [(.int (fHs [ca, cb])), (.ref x0)]) _
    obtain ⟨T7, h7, X7, e7, W7, st7⟩ := putF X5 hx hZ hown (host := "") (Or.inl (hw _ (List.mem_of_getElem? (i := 101) rfl))) Via.refl e5 F_hash E_x0 (Or.inl (hw _ (List.mem_of_getElem? (i := 102) rfl))) (hw _ (List.mem_of_getElem? (i := 11) rfl)) (ty := .int) (by decide) rfl rfl (g := (mkF m 55 #[.val (.ref x0), .val (.int (fHs [ca, cb]))] [(.int (fHs [ca, cb])), (.ref x0)])) rfl rfl (hb hby d18_55)
    have N7 := Fr.snoc X7 N5 g0
    have F_hash := F_hash.same W7
    have KK := KK.wr W7 (Or.inl (List.mem_of_getElem? (i := 0) rfl))
    have E_x0 := E_x0.wr W7
    have F_coder := F_coder.other W7 (Or.inr (slot_ne (Or.inr (hw _ (List.mem_of_getElem? (i := 27) rfl))) (Or.inl (hw _ (List.mem_of_getElem? (i := 102) rfl))) (by decide) (t := .byte) (t' := .int) (by decide) (by decide)))
    have F_hashIsZero := F_hashIsZero.other W7 (Or.inr (slot_ne (Or.inl (hw _ (List.mem_of_getElem? (i := 104) rfl))) (Or.inl (hw _ (List.mem_of_getElem? (i := 102) rfl))) (by decide) (t := .boolean) (t' := .int) (by decide) (by decide)))
    have F_value := F_value.other W7 (Or.inr (slot_ne (Or.inr (hw _ (List.mem_of_getElem? (i := 26) rfl))) (Or.inl (hw _ (List.mem_of_getElem? (i := 102) rfl))) (by decide) (t := (.array .byte)) (t' := .int) (by decide) (by decide)))
    refine Go.of (fun _ k => st7 _ k) ?_
    show Go p e below T7 (mkF m 58 #[.val (.ref x0), .val (.int (fHs [ca, cb]))] []) _
    refine Go.of (fun _ k => XS.iloadN X7.here hx rfl (hb hby d18_58) rfl  k) ?_
    show Go p e below T7 (mkF m 59 #[.val (.ref x0), .val (.int (fHs [ca, cb]))] [(.int (fHs [ca, cb]))]) _
    refine Go.retI X7 hx hret hlk (hb hby d18_59) e7 (by decide) (by decide) ?_
    exact ⟨rfl, N7, KK⟩
theorem own_ef_rmHS3 (m : MethodId) (x0 : Addr) : entryFrame m #[(.ref x0)] 2 = mkF m 0 #[.val (.ref x0), .unset] [] := by first | (simp [entryFrame, mkF, argsToLocals, Value.category]; done) | rfl
set_option maxRecDepth 65536 in
set_option maxHeartbeats 40000000 in
theorem rmHS3 (l : Launch) (Z : State) (a0 : Array Value) (hw : ∀ d ∈ tables_1, d.before a0 Z = true) (ws : List Jvm.Cond) (x0 ts : Addr) (kb : ClassId) (zc : Int32) (ca cb cc : Int32) (h0 : Heap) (n0 : Nat) (Z0 : n0 ≤ h0.size) (OL : Old Z n0 h0) (O2 : Sta Z Z.heap "java/lang/String" "COMPACT_STRINGS" "Z" (.int zc)) (hzc : ¬ zc = 0) (g0 : n0 ≤ x0) (E_x0 : Exa Z h0 x0 "java/lang/String") (F_coder : Fld Z h0 x0 "java/lang/String" "coder" "B" (.int (0 : Int32))) (F_hash : Fld Z h0 x0 "java/lang/String" "hash" "I" (.int (0 : Int32))) (F_hashIsZero : Fld Z h0 x0 "java/lang/String" "hashIsZero" "Z" (.int (0 : Int32))) (F_value : Fld Z h0 x0 "java/lang/String" "value" "[B" (.ref ts)) (V_a : Arv Z h0 ts kb .byte 3 (byt [ca, cb, cc]) (.int 0)) (fk : ([ca, cb, cc] : List Int32) ≠ [] → Z.vm.findClass "[B" = some kb) :
    Ctr l Z (⟨"java/lang/String", "hashCode", "()I"⟩ : MethodName) jdk_42_method_78_code 2 (some .int) ws ({ frames := 4, cells := 0, slots := 0, locals := 120 } : Room) #[(.ref x0)] h0 (Q_rmHS x0 ([ca, cb, cc] : List Int32) h0 n0) := by
  refine Ctr.intro (plainFor_of_name own_pn0) ?_
  intro p e s m below meth c s₁ hx hby hml hown hnm hret hlk hZ X0 e0
  have hown : s.vm.findClass "java/lang/String" = some m.cls := hown
  have hml : c.maxLocals = 2 := hml
  have N0 := Fr.nil n0
  refine Go.cast (own_ef_rmHS3 m x0) ?_
  have KK := Keep.refl h0 [x0]
  show Go p e below s₁ (mkF m 0 #[.val (.ref x0), .unset] []) _
  refine Go.of (fun _ k => XS.aloadN X0.here hx rfl (hb hby d18_0) rfl rfl  k) ?_
  show Go p e below s₁ (mkF m 1 #[.val (.ref x0), .unset] [(.ref x0)]) _
  obtain ⟨T1, X1, e1, st1⟩ := getF X0 hx hZ hown (host := "") (Or.inl (hw _ (List.mem_of_getElem? (i := 101) rfl))) Via.refl e0 F_hash (g := (mkF m 1 #[.val (.ref x0), .unset] [(.ref x0)])) rfl rfl (hb hby d18_1)
  refine Go.of (fun _ k => st1 _ k) ?_
  show Go p e below T1 (mkF m 4 #[.val (.ref x0), .unset] [(.int (0 : Int32))]) _
  refine Go.of (fun _ k => XS.istoreN X1.here hx rfl (hb hby d18_4) rfl (l' := #[.val (.ref x0), .val (.int (0 : Int32))]) rfl k) ?_
  show Go p e below T1 (mkF m 5 #[.val (.ref x0), .val (.int (0 : Int32))] []) _
  refine Go.of (fun _ k => XS.iloadN X1.here hx rfl (hb hby d18_5) rfl  k) ?_
  show Go p e below T1 (mkF m 6 #[.val (.ref x0), .val (.int (0 : Int32))] [(.int (0 : Int32))]) _
  refine Go.of (fun _ k => XS.ifNo X1.here hx rfl (hb hby d18_6) rfl ((if0 _ _).trans (teq (show (0 : Int32) = (0 : Int32) from (by decide))).2) k) ?_
  show Go p e below T1 (mkF m 9 #[.val (.ref x0), .val (.int (0 : Int32))] []) _
  refine Go.of (fun _ k => XS.aloadN X1.here hx rfl (hb hby d18_9) rfl rfl  k) ?_
  show Go p e below T1 (mkF m 10 #[.val (.ref x0), .val (.int (0 : Int32))] [(.ref x0)]) _
  obtain ⟨T2, X2, e2, st2⟩ := getF X1 hx hZ hown (host := "") (Or.inl (hw _ (List.mem_of_getElem? (i := 103) rfl))) Via.refl e1 F_hashIsZero (g := (mkF m 10 #[.val (.ref x0), .val (.int (0 : Int32))] [(.ref x0)])) rfl rfl (hb hby d18_10)
  refine Go.of (fun _ k => st2 _ k) ?_
  show Go p e below T2 (mkF m 13 #[.val (.ref x0), .val (.int (0 : Int32))] [(.int (0 : Int32))]) _
  refine Go.of (fun _ k => XS.ifNo X2.here hx rfl (hb hby d18_13) rfl ((if0 _ _).trans (teq (show (0 : Int32) = (0 : Int32) from (by decide))).2) k) ?_
  show Go p e below T2 (mkF m 16 #[.val (.ref x0), .val (.int (0 : Int32))] []) _
  refine Go.of (fun _ k => XS.aloadN X2.here hx rfl (hb hby d18_16) rfl rfl  k) ?_
  show Go p e below T2 (mkF m 17 #[.val (.ref x0), .val (.int (0 : Int32))] [(.ref x0)]) _
  obtain ⟨cq3, kq3, q3a, q3b, q3c⟩ := isOf hZ e2 E_x0
  obtain ⟨_, _, ⟨T3, L3, kq3, nq3⟩, -, X3, ⟨Lc3, hQ3, l3, y3, z3⟩, st3⟩ := X2.virtualBack hx (y := (⟨"java/lang/String", "isLatin1", "()Z"⟩ : MethodName)) (z := (⟨"java/lang/String", "isLatin1", "()Z"⟩ : MethodName)) hown (mvT hZ (hw _ (List.mem_of_getElem? (i := 105) rfl))) (mvT hZ (hw _ (List.mem_of_getElem? (i := 106) rfl))) (notFace_of_selects (args := #[]) (mvT hZ (hw _ (List.mem_of_getElem? (i := 108) rfl)))) (mvT hZ (hw _ (List.mem_of_getElem? (i := 108) rfl))) (mvT hZ (hw _ (List.mem_of_getElem? (i := 107) rfl))) (by decide) (backOf (W := 0) (rm19 l Z a0 hw [] x0 zc h0 n0 Z0 OL O2 hzc F_coder) hZ (hw _ (List.mem_of_getElem? (i := 109) rfl)) (hw _ (List.mem_of_getElem? (i := 12) rfl)) (by decide) (by decide)) q3a q3c (g := (mkF m 17 #[.val (.ref x0), .val (.int (0 : Int32))] [(.ref x0)])) rfl (by rw [hml]; rfl) (Steps.refl _) (argsL := []) (rest := []) (lenOf own_pd8 rfl) rfl (by show 2 * 0 + _ ≤ _; exact Nat.le_of_eq rfl) (hb hby d18_17) (fun _ _ => ⟨rfl, e2, (by decide : 0 + 0 ≤ _), (by decide : 0 + 0 ≤ _)⟩)
  dsimp only [Pt.U, Pt.locs, Pt.cells, Pt.slots] at X3 l3 y3 z3 st3 hQ3
  subst l3 y3 z3
  obtain ⟨rfl, Nq3, e3⟩ := hQ3
  have N3 := Fr.app N0 Nq3
  refine Go.of (fun _ k => st3.trans k) ?_
  show Go p e below T3 (mkF m 20 #[.val (.ref x0), .val (.int (0 : Int32))] [(.int (1 : Int32))]) _
  refine Go.of (fun _ k => XS.ifNo X3.here hx rfl (hb hby d18_20) rfl ((if0 _ _).trans (feq (show ¬ ((1 : Int32) = (0 : Int32)) from (by decide))).1) k) ?_
  show Go p e below T3 (mkF m 23 #[.val (.ref x0), .val (.int (0 : Int32))] []) _
  refine Go.of (fun _ k => XS.aloadN X3.here hx rfl (hb hby d18_23) rfl rfl  k) ?_
  show Go p e below T3 (mkF m 24 #[.val (.ref x0), .val (.int (0 : Int32))] [(.ref x0)]) _
  obtain ⟨T4, X4, e4, st4⟩ := getF X3 hx hZ hown (host := "") (Or.inl (hw _ (List.mem_of_getElem? (i := 30) rfl))) Via.refl e3 F_value (g := (mkF m 24 #[.val (.ref x0), .val (.int (0 : Int32))] [(.ref x0)])) rfl rfl (hb hby d18_24)
  refine Go.of (fun _ k => st4 _ k) ?_
  show Go p e below T4 (mkF m 27 #[.val (.ref x0), .val (.int (0 : Int32))] [(.ref ts)]) _
  obtain ⟨_, _, ⟨T5, L5, kq5, nq5⟩, -, X5, ⟨Lc5, hQ5, l5, y5, z5⟩, st5⟩ := Jvm.LawKit.callS X4 hx (y := (⟨"java/lang/StringLatin1", "hashCode", "([B)I"⟩ : MethodName)) hown (mvT hZ (hw _ (List.mem_of_getElem? (i := 110) rfl))) (mvT hZ (hw _ (List.mem_of_getElem? (i := 111) rfl))) (mvT hZ (hw _ (List.mem_of_getElem? (i := 77) rfl))) (mvT hZ (hw _ (List.mem_of_getElem? (i := 112) rfl))) (by decide) (backOf (W := 0) (rmLH3 l Z a0 hw [] ts kb ca cb cc h0 n0 Z0 V_a (fk (by simp))) hZ (hw _ (List.mem_of_getElem? (i := 112) rfl)) (hw _ (List.mem_of_getElem? (i := 77) rfl)) (by decide) (by decide)) (g := (mkF m 27 #[.val (.ref x0), .val (.int (0 : Int32))] [(.ref ts)])) rfl (by rw [hml]; rfl) (argsL := [(.ref ts)]) (rest := []) (lenOf own_pd9 rfl) rfl (by show 2 * 0 + _ ≤ _; exact Nat.le_of_eq rfl) (hb hby d18_27) (fun _ _ => ⟨rfl, e4, (by decide : 0 + 0 ≤ _), (by decide : 0 + 0 ≤ _)⟩)
  dsimp only [Pt.U, Pt.locs, Pt.cells, Pt.slots] at X5 l5 y5 z5 st5 hQ5
  subst l5 y5 z5
  obtain ⟨rfl, Nq5, e5⟩ := hQ5
  have N5 := Fr.app N3 Nq5
  refine Go.of (fun _ k => st5 _ k) ?_
  show Go p e below T5 (mkF m 30 #[.val (.ref x0), .val (.int (0 : Int32))] [(.int (fHs [ca, cb, cc]))]) _
  refine Go.of (fun _ k => XS.goto X5.here hx rfl (pc0 := 30) (pc' := 40) rfl (hb hby d18_30) (by decide) (by decide) k) ?_
  show Go p e below T5 (mkF m 40 #[.val (.ref x0), .val (.int (0 : Int32))] [(.int (fHs [ca, cb, cc]))]) _
  refine Go.of (fun _ k => XS.istoreN X5.here hx rfl (hb hby d18_40) rfl (l' := #[.val (.ref x0), .val (.int (fHs [ca, cb, cc]))]) rfl k) ?_
  show Go p e below T5 (mkF m 41 #[.val (.ref x0), .val (.int (fHs [ca, cb, cc]))] []) _
  refine Go.of (fun _ k => XS.iloadN X5.here hx rfl (hb hby d18_41) rfl  k) ?_
  show Go p e below T5 (mkF m 42 #[.val (.ref x0), .val (.int (fHs [ca, cb, cc]))] [(.int (fHs [ca, cb, cc]))]) _
  by_cases hc42_3 : (fHs [ca, cb, cc]) = (0 : Int32)
  · refine Go.of (fun _ k => XS.ifNo X5.here hx rfl (hb hby d18_42) rfl ((if0 _ _).trans (teq hc42_3).2) k) ?_
    show Go p e below T5 (mkF m 45 #[.val (.ref x0), .val (.int (fHs [ca, cb, cc]))] []) _
    refine Go.of (fun _ k => XS.aloadN X5.here hx rfl (hb hby d18_45) rfl rfl  k) ?_
    show Go p e below T5 (mkF m 46 #[.val (.ref x0), .val (.int (fHs [ca, cb, cc]))] [(.ref x0)]) _
    refine Go.of (fun _ k => XS.iconst X5.here hx rfl (hb hby d18_46) k) ?_
    show Go p e below T5 (mkF m 47 #[.val (.ref x0), .val (.int (fHs [ca, cb, cc]))] [(.int (1 : Int32)), (.ref x0)]) _
    obtain ⟨T6, h6, X6, e6, W6, st6⟩ := putFN X5 hx hZ hown (hw _ (List.mem_of_getElem? (i := 103) rfl)) Via.refl e5 F_hashIsZero E_x0 (Or.inl (hw _ (List.mem_of_getElem? (i := 104) rfl))) (hw _ (List.mem_of_getElem? (i := 11) rfl)) (ty := .boolean) (v' := (.int (1 : Int32))) (by decide) rfl (by decide) (g := (mkF m 47 #[.val (.ref x0), .val (.int (fHs [ca, cb, cc]))] [(.int (1 : Int32)), (.ref x0)])) rfl rfl (hb hby d18_47)
    have N6 := Fr.snoc X6 N5 g0
    have F_hashIsZero := F_hashIsZero.same W6
    have KK := KK.wr W6 (Or.inl (List.mem_of_getElem? (i := 0) rfl))
    have E_x0 := E_x0.wr W6
    have F_coder := F_coder.other W6 (Or.inr (slot_ne (Or.inr (hw _ (List.mem_of_getElem? (i := 27) rfl))) (Or.inl (hw _ (List.mem_of_getElem? (i := 104) rfl))) (by decide) (t := .byte) (t' := .boolean) (by decide) (by decide)))
    have F_hash := F_hash.other W6 (Or.inr (slot_ne (Or.inl (hw _ (List.mem_of_getElem? (i := 102) rfl))) (Or.inl (hw _ (List.mem_of_getElem? (i := 104) rfl))) (by decide) (t := .int) (t' := .boolean) (by decide) (by decide)))
    have F_value := F_value.other W6 (Or.inr (slot_ne (Or.inr (hw _ (List.mem_of_getElem? (i := 26) rfl))) (Or.inl (hw _ (List.mem_of_getElem? (i := 104) rfl))) (by decide) (t := (.array .byte)) (t' := .boolean) (by decide) (by decide)))
    refine Go.of (fun _ k => st6 _ k) ?_
    show Go p e below T6 (mkF m 50 #[.val (.ref x0), .val (.int (fHs [ca, cb, cc]))] []) _
    refine Go.of (fun _ k => XS.goto X6.here hx rfl (pc0 := 50) (pc' := 58) rfl (hb hby d18_50) (by decide) (by decide) k) ?_
    show Go p e below T6 (mkF m 58 #[.val (.ref x0), .val (.int (fHs [ca, cb, cc]))] []) _
    refine Go.of (fun _ k => XS.iloadN X6.here hx rfl (hb hby d18_58) rfl  k) ?_
    show Go p e below T6 (mkF m 59 #[.val (.ref x0), .val (.int (fHs [ca, cb, cc]))] [(.int (fHs [ca, cb, cc]))]) _
    refine Go.retI X6 hx hret hlk (hb hby d18_59) e6 (by decide) (by decide) ?_
    exact ⟨rfl, N6, KK⟩
  · refine Go.of (fun _ k => XS.ifYes X5.here hx rfl (pc0 := 42) (pc' := 53) rfl (hb hby d18_42) rfl ((if0 _ _).trans (feq hc42_3).2) (by decide) (by decide) k) ?_
    show Go p e below T5 (mkF m 53 #[.val (.ref x0), .val (.int (fHs [ca, cb, cc]))] []) _
    refine Go.of (fun _ k => XS.aloadN X5.here hx rfl (hb hby d18_53) rfl rfl  k) ?_
    show Go p e below T5 (mkF m 54 #[.val (.ref x0), .val (.int (fHs [ca, cb, cc]))] [(.ref x0)]) _
    refine Go.of (fun _ k => XS.iloadN X5.here hx rfl (hb hby d18_54) rfl  k) ?_
    show Go p e below T5 (mkF m 55 #[.val (.ref x0), .val (.int (fHs [ca, cb, cc]))] [(.int (fHs [ca, cb, cc])), (.ref x0)]) _
    obtain ⟨T7, h7, X7, e7, W7, st7⟩ := putF X5 hx hZ hown (host := "") (Or.inl (hw _ (List.mem_of_getElem? (i := 101) rfl))) Via.refl e5 F_hash E_x0 (Or.inl (hw _ (List.mem_of_getElem? (i := 102) rfl))) (hw _ (List.mem_of_getElem? (i := 11) rfl)) (ty := .int) (by decide) rfl rfl (g := (mkF m 55 #[.val (.ref x0), .val (.int (fHs [ca, cb, cc]))] [(.int (fHs [ca, cb, cc])), (.ref x0)])) rfl rfl (hb hby d18_55)
    have N7 := Fr.snoc X7 N5 g0
    have F_hash := F_hash.same W7
    have KK := KK.wr W7 (Or.inl (List.mem_of_getElem? (i := 0) rfl))
    have E_x0 := E_x0.wr W7
    have F_coder := F_coder.other W7 (Or.inr (slot_ne (Or.inr (hw _ (List.mem_of_getElem? (i := 27) rfl))) (Or.inl (hw _ (List.mem_of_getElem? (i := 102) rfl))) (by decide) (t := .byte) (t' := .int) (by decide) (by decide)))
    have F_hashIsZero := F_hashIsZero.other W7 (Or.inr (slot_ne (Or.inl (hw _ (List.mem_of_getElem? (i := 104) rfl))) (Or.inl (hw _ (List.mem_of_getElem? (i := 102) rfl))) (by decide) (t := .boolean) (t' := .int) (by decide) (by decide)))
    have F_value := F_value.other W7 (Or.inr (slot_ne (Or.inr (hw _ (List.mem_of_getElem? (i := 26) rfl))) (Or.inl (hw _ (List.mem_of_getElem? (i := 102) rfl))) (by decide) (t := (.array .byte)) (t' := .int) (by decide) (by decide)))
    refine Go.of (fun _ k => st7 _ k) ?_
    show Go p e below T7 (mkF m 58 #[.val (.ref x0), .val (.int (fHs [ca, cb, cc]))] []) _
    refine Go.of (fun _ k => XS.iloadN X7.here hx rfl (hb hby d18_58) rfl  k) ?_
    show Go p e below T7 (mkF m 59 #[.val (.ref x0), .val (.int (fHs [ca, cb, cc]))] [(.int (fHs [ca, cb, cc]))]) _
    refine Go.retI X7 hx hret hlk (hb hby d18_59) e7 (by decide) (by decide) ?_
    exact ⟨rfl, N7, KK⟩
theorem rmHS (l : Launch) (Z : State) (a0 : Array Value) (hw : ∀ d ∈ tables_1, d.before a0 Z = true) (ws : List Jvm.Cond) (x0 ts : Addr) (kb : ClassId) (zc : Int32) (cs : List Int32) (h0 : Heap) (n0 : Nat) (Z0 : n0 ≤ h0.size) (OL : Old Z n0 h0) (O2 : Sta Z Z.heap "java/lang/String" "COMPACT_STRINGS" "Z" (.int zc)) (hzc : ¬ zc = 0) (g0 : n0 ≤ x0) (E_x0 : Exa Z h0 x0 "java/lang/String") (F_coder : Fld Z h0 x0 "java/lang/String" "coder" "B" (.int (0 : Int32))) (F_hash : Fld Z h0 x0 "java/lang/String" "hash" "I" (.int (0 : Int32))) (F_hashIsZero : Fld Z h0 x0 "java/lang/String" "hashIsZero" "Z" (.int (0 : Int32))) (F_value : Fld Z h0 x0 "java/lang/String" "value" "[B" (.ref ts)) (V_a : Arv Z h0 ts kb .byte (Int32.ofNat cs.length) (byt cs) (.int 0)) (fk : cs ≠ [] → Z.vm.findClass "[B" = some kb) (hl : cs.length ≤ 3) :
    Ctr l Z (⟨"java/lang/String", "hashCode", "()I"⟩ : MethodName) jdk_42_method_78_code 2 (some .int) ws ({ frames := 4, cells := 0, slots := 0, locals := 120 } : Room) #[(.ref x0)] h0 (Q_rmHS x0 cs h0 n0) := by
  rcases cs with _ | ⟨ca, _ | ⟨cb, _ | ⟨cc, _ | ⟨cd, r⟩⟩⟩⟩
  · have V : Arv Z h0 ts kb .byte (0 : Int32) (byt []) (.int 0) := V_a
    exact rmHS0 l Z a0 hw ws x0 ts kb zc  h0 n0 Z0 OL O2 hzc g0 E_x0 F_coder F_hash F_hashIsZero F_value V fk
  · have V : Arv Z h0 ts kb .byte (1 : Int32) (byt [ca]) (.int 0) := V_a
    exact rmHS1 l Z a0 hw ws x0 ts kb zc ca h0 n0 Z0 OL O2 hzc g0 E_x0 F_coder F_hash F_hashIsZero F_value V fk
  · have V : Arv Z h0 ts kb .byte (2 : Int32) (byt [ca, cb]) (.int 0) := V_a
    exact rmHS2 l Z a0 hw ws x0 ts kb zc ca cb h0 n0 Z0 OL O2 hzc g0 E_x0 F_coder F_hash F_hashIsZero F_value V fk
  · have V : Arv Z h0 ts kb .byte (3 : Int32) (byt [ca, cb, cc]) (.int 0) := V_a
    exact rmHS3 l Z a0 hw ws x0 ts kb zc ca cb cc h0 n0 Z0 OL O2 hzc g0 E_x0 F_coder F_hash F_hashIsZero F_value V fk
  · exact absurd hl (by simp)
theorem d17_0 : decode prog_52_method_4_code 0 = .ok (.bipush 31, 2) := by decide +kernel
theorem d17_2 : decode prog_52_method_4_code 2 = .ok (.aload_n 0, 1) := by decide +kernel
theorem d17_3 : decode prog_52_method_4_code 3 = .ok (.getfield 7, 3) := by decide +kernel
theorem d17_6 : decode prog_52_method_4_code 6 = .ok (.invokevirtual 27, 3) := by decide +kernel
theorem own_pd10 : parseMethodDescriptor "()I" = some ⟨[], some .int⟩ := by decide +kernel
theorem d17_9 : decode prog_52_method_4_code 9 = .ok (.imul, 1) := by decide +kernel
theorem d17_10 : decode prog_52_method_4_code 10 = .ok (.aload_n 0, 1) := by decide +kernel
theorem d17_11 : decode prog_52_method_4_code 11 = .ok (.getfield 13, 3) := by decide +kernel
theorem d17_14 : decode prog_52_method_4_code 14 = .ok (.invokevirtual 27, 3) := by decide +kernel
theorem d17_17 : decode prog_52_method_4_code 17 = .ok (.iadd, 1) := by decide +kernel
theorem d17_18 : decode prog_52_method_4_code 18 = .ok (.ireturn, 1) := by decide +kernel
theorem own_ef_rm17 (m : MethodId) (x0 : Addr) : entryFrame m #[(.ref x0)] 1 = mkF m 0 #[.val (.ref x0)] [] := by first | (simp [entryFrame, mkF, argsToLocals, Value.category]; done) | rfl
def Q_rm17 (Z : State) (x0 u1 u2 tu1 tu2 : Addr) (ku1 ku2 : ClassId) (cs ds : List Int32) (zc : Int32) (h0 : Heap) (n0 : Nat) : Option Value → Heap → List Loc → Prop := fun v h L => v = some (.int ((31 : Int32) * fHs cs + fHs ds)) ∧ Fr n0 L ∧ Keep h0 h [u1, u2]
set_option maxRecDepth 65536 in
set_option maxHeartbeats 40000000 in
theorem rm17 (l : Launch) (Z : State) (a0 : Array Value) (hw : ∀ d ∈ tables_1, d.before a0 Z = true) (ws : List Jvm.Cond) (x0 u1 u2 tu1 tu2 : Addr) (ku1 ku2 : ClassId) (cs ds : List Int32) (zc : Int32) (h0 : Heap) (n0 : Nat) (Z0 : n0 ≤ h0.size) (OL : Old Z n0 h0) (O2 : Sta Z Z.heap "java/lang/String" "COMPACT_STRINGS" "Z" (.int zc)) (hzc : ¬ zc = 0) (E_x0 : Exa Z h0 x0 "com/example/cascadex/cascadex/Letter$OfText") (Fa1 : Fld Z h0 x0 "com/example/cascadex/cascadex/Letter$OfText" "type" "Ljava/lang/String;" (.ref u1)) (Fa2 : Fld Z h0 x0 "com/example/cascadex/cascadex/Letter$OfText" "text" "Ljava/lang/String;" (.ref u2)) (Es_u1 : Exa Z h0 u1 "java/lang/String") (Fc_u1 : Fld Z h0 u1 "java/lang/String" "coder" "B" (.int 0)) (Fv_u1 : Fld Z h0 u1 "java/lang/String" "value" "[B" (.ref tu1)) (Vs_u1 : Arv Z h0 tu1 ku1 .byte (Int32.ofNat cs.length) (byt cs) (.int 0)) (hp_u1 : ∀ c ∈ cs, chr c) (hl_u1 : cs.length ≤ 3) (Fh_u1 : Fld Z h0 u1 "java/lang/String" "hash" "I" (.int 0)) (Fz_u1 : Fld Z h0 u1 "java/lang/String" "hashIsZero" "Z" (.int 0)) (fk_u1 : cs ≠ [] → Z.vm.findClass "[B" = some ku1) (ge_u1 : n0 ≤ u1) (Es_u2 : Exa Z h0 u2 "java/lang/String") (Fc_u2 : Fld Z h0 u2 "java/lang/String" "coder" "B" (.int 0)) (Fv_u2 : Fld Z h0 u2 "java/lang/String" "value" "[B" (.ref tu2)) (Vs_u2 : Arv Z h0 tu2 ku2 .byte (Int32.ofNat ds.length) (byt ds) (.int 0)) (hp_u2 : ∀ c ∈ ds, chr c) (hl_u2 : ds.length ≤ 3) (Fh_u2 : Fld Z h0 u2 "java/lang/String" "hash" "I" (.int 0)) (Fz_u2 : Fld Z h0 u2 "java/lang/String" "hashIsZero" "Z" (.int 0)) (fk_u2 : ds ≠ [] → Z.vm.findClass "[B" = some ku2) (ge_u2 : n0 ≤ u2) (neu : u1 ≠ u2) :
    Ctr l Z (⟨"com/example/cascadex/cascadex/Letter$OfText", "hashCode", "()I"⟩ : MethodName) prog_52_method_4_code 1 (some .int) ws ({ frames := 5, cells := 0, slots := 0, locals := 134 } : Room) #[(.ref x0)] h0 (Q_rm17 Z x0 u1 u2 tu1 tu2 ku1 ku2 cs ds zc h0 n0) := by
  refine Ctr.intro (plainFor_of_name own_pn3) ?_
  intro p e s m below meth c s₁ hx hby hml hown hnm hret hlk hZ X0 e0
  have hown : s.vm.findClass "com/example/cascadex/cascadex/Letter$OfText" = some m.cls := hown
  have hml : c.maxLocals = 1 := hml
  have N0 := Fr.nil n0
  refine Go.cast (own_ef_rm17 m x0) ?_
  have KK := Keep.refl h0 [u1, u2]
  have nx1 := Exa.ne E_x0 Es_u1 (by decide)
  have nx2 := Exa.ne E_x0 Es_u2 (by decide)
  have nv_x0_tu1 := Exa.neArv E_x0 Vs_u1 (hw _ (List.mem_of_getElem? (i := 1) rfl))
  have nv_x0_tu2 := Exa.neArv E_x0 Vs_u2 (hw _ (List.mem_of_getElem? (i := 1) rfl))
  have nv_u1_tu1 := Exa.neArv Es_u1 Vs_u1 (hw _ (List.mem_of_getElem? (i := 11) rfl))
  have nv_u1_tu2 := Exa.neArv Es_u1 Vs_u2 (hw _ (List.mem_of_getElem? (i := 11) rfl))
  have nv_u2_tu1 := Exa.neArv Es_u2 Vs_u1 (hw _ (List.mem_of_getElem? (i := 11) rfl))
  have nv_u2_tu2 := Exa.neArv Es_u2 Vs_u2 (hw _ (List.mem_of_getElem? (i := 11) rfl))
  show Go p e below s₁ (mkF m 0 #[.val (.ref x0)] []) _
  refine Go.of (fun _ k => XS.bipush X0.here hx rfl (hb hby d17_0) k) ?_
  show Go p e below s₁ (mkF m 2 #[.val (.ref x0)] [(.int (31 : Int32))]) _
  refine Go.of (fun _ k => XS.aloadN X0.here hx rfl (hb hby d17_2) rfl rfl  k) ?_
  show Go p e below s₁ (mkF m 3 #[.val (.ref x0)] [(.ref x0), (.int (31 : Int32))]) _
  obtain ⟨T1, X1, e1, st1⟩ := getF X0 hx hZ hown (host := "") (Or.inl (hw _ (List.mem_of_getElem? (i := 55) rfl))) Via.refl e0 Fa1 (g := (mkF m 3 #[.val (.ref x0)] [(.ref x0), (.int (31 : Int32))])) rfl rfl (hb hby d17_3)
  refine Go.of (fun _ k => st1 _ k) ?_
  show Go p e below T1 (mkF m 6 #[.val (.ref x0)] [(.ref u1), (.int (31 : Int32))]) _
  obtain ⟨cq2, kq2, q2a, q2b, q2c⟩ := isOf hZ e1 Es_u1
  obtain ⟨_, _, ⟨T2, L2, kq2, nq2⟩, -, X2, ⟨Lc2, hQ2, l2, y2, z2⟩, st2⟩ := X1.virtualBack hx (y := (⟨"java/lang/String", "hashCode", "()I"⟩ : MethodName)) (z := (⟨"java/lang/String", "hashCode", "()I"⟩ : MethodName)) hown (mvT hZ (hw _ (List.mem_of_getElem? (i := 96) rfl))) (mvT hZ (hw _ (List.mem_of_getElem? (i := 97) rfl))) (notFace_of_selects (args := #[]) (mvT hZ (hw _ (List.mem_of_getElem? (i := 99) rfl)))) (mvT hZ (hw _ (List.mem_of_getElem? (i := 99) rfl))) (mvT hZ (hw _ (List.mem_of_getElem? (i := 98) rfl))) (by decide) (backOf (W := 1) (rmHS l Z a0 hw [] u1 tu1 ku1 zc cs h0 n0 Z0 OL O2 hzc ge_u1 Es_u1 Fc_u1 Fh_u1 Fz_u1 Fv_u1 Vs_u1 fk_u1 hl_u1) hZ (hw _ (List.mem_of_getElem? (i := 100) rfl)) (hw _ (List.mem_of_getElem? (i := 12) rfl)) (by decide) (by decide)) q2a q2c (g := (mkF m 6 #[.val (.ref x0)] [(.ref u1), (.int (31 : Int32))])) rfl (by rw [hml]; rfl) (Steps.refl _) (argsL := []) (rest := [(.int (31 : Int32))]) (lenOf own_pd10 rfl) rfl (by show 2 * 0 + _ ≤ _; exact Nat.le_of_eq rfl) (hb hby d17_6) (fun _ _ => ⟨rfl, e1, (by decide : 0 + 0 ≤ _), (by decide : 0 + 0 ≤ _)⟩)
  dsimp only [Pt.U, Pt.locs, Pt.cells, Pt.slots] at X2 l2 y2 z2 st2 hQ2
  subst l2 y2 z2
  obtain ⟨rfl, Nq2, Kq2⟩ := hQ2
  have N2 := Fr.app N0 Nq2
  have Z0 := Nat.le_trans Z0 Kq2.1
  have OL := OL.keep Kq2 (allS ge_u1 all0)
  have KK := KK.trans Kq2 (allS (Or.inl (List.mem_of_getElem? (i := 0) rfl)) all0)
  have Fa1 := Fa1.keep Kq2 (ninS nx1 nin0)
  have Fa2 := Fa2.keep Kq2 (ninS nx1 nin0)
  have E_x0 := E_x0.keep Kq2
  have Es_u1 := Es_u1.keep Kq2
  have Vs_u1 := Vs_u1.keep Kq2 (ninS (Ne.symm nv_u1_tu1) nin0)
  have Es_u2 := Es_u2.keep Kq2
  have Fc_u2 := Fc_u2.keep Kq2 (ninS (Ne.symm neu) nin0)
  have Fv_u2 := Fv_u2.keep Kq2 (ninS (Ne.symm neu) nin0)
  have Fh_u2 := Fh_u2.keep Kq2 (ninS (Ne.symm neu) nin0)
  have Fz_u2 := Fz_u2.keep Kq2 (ninS (Ne.symm neu) nin0)
  have Vs_u2 := Vs_u2.keep Kq2 (ninS (Ne.symm nv_u1_tu2) nin0)
  refine Go.of (fun _ k => st2.trans k) ?_
  show Go p e below T2 (mkF m 9 #[.val (.ref x0)] [(.int (fHs cs)), (.int (31 : Int32))]) _
  refine Go.of (fun _ k => XS.imul X2.here hx rfl (hb hby d17_9) rfl k) ?_
  show Go p e below T2 (mkF m 10 #[.val (.ref x0)] [(.int ((31 : Int32) * (fHs cs)))]) _
  refine Go.of (fun _ k => XS.aloadN X2.here hx rfl (hb hby d17_10) rfl rfl  k) ?_
  show Go p e below T2 (mkF m 11 #[.val (.ref x0)] [(.ref x0), (.int ((31 : Int32) * (fHs cs)))]) _
  obtain ⟨T3, X3, e3, st3⟩ := getF X2 hx hZ hown (host := "") (Or.inl (hw _ (List.mem_of_getElem? (i := 57) rfl))) Via.refl rfl Fa2 (g := (mkF m 11 #[.val (.ref x0)] [(.ref x0), (.int ((31 : Int32) * (fHs cs)))])) rfl rfl (hb hby d17_11)
  refine Go.of (fun _ k => st3 _ k) ?_
  show Go p e below T3 (mkF m 14 #[.val (.ref x0)] [(.ref u2), (.int ((31 : Int32) * (fHs cs)))]) _
  obtain ⟨cq4, kq4, q4a, q4b, q4c⟩ := isOf hZ e3 Es_u2
  obtain ⟨_, _, ⟨T4, L4, kq4, nq4⟩, -, X4, ⟨Lc4, hQ4, l4, y4, z4⟩, st4⟩ := X3.virtualBack hx (y := (⟨"java/lang/String", "hashCode", "()I"⟩ : MethodName)) (z := (⟨"java/lang/String", "hashCode", "()I"⟩ : MethodName)) hown (mvT hZ (hw _ (List.mem_of_getElem? (i := 96) rfl))) (mvT hZ (hw _ (List.mem_of_getElem? (i := 97) rfl))) (notFace_of_selects (args := #[]) (mvT hZ (hw _ (List.mem_of_getElem? (i := 99) rfl)))) (mvT hZ (hw _ (List.mem_of_getElem? (i := 99) rfl))) (mvT hZ (hw _ (List.mem_of_getElem? (i := 98) rfl))) (by decide) (backOf (W := 1) (rmHS l Z a0 hw [] u2 tu2 ku2 zc ds T2.heap n0 Z0 OL O2 hzc ge_u2 Es_u2 Fc_u2 Fh_u2 Fz_u2 Fv_u2 Vs_u2 fk_u2 hl_u2) hZ (hw _ (List.mem_of_getElem? (i := 100) rfl)) (hw _ (List.mem_of_getElem? (i := 12) rfl)) (by decide) (by decide)) q4a q4c (g := (mkF m 14 #[.val (.ref x0)] [(.ref u2), (.int ((31 : Int32) * (fHs cs)))])) rfl (by rw [hml]; rfl) (Steps.refl _) (argsL := []) (rest := [(.int ((31 : Int32) * (fHs cs)))]) (lenOf own_pd10 rfl) rfl (by show 2 * 0 + _ ≤ _; exact Nat.le_of_eq rfl) (hb hby d17_14) (fun _ _ => ⟨rfl, e3, (by decide : 0 + 0 ≤ _), (by decide : 0 + 0 ≤ _)⟩)
  dsimp only [Pt.U, Pt.locs, Pt.cells, Pt.slots] at X4 l4 y4 z4 st4 hQ4
  subst l4 y4 z4
  obtain ⟨rfl, Nq4, Kq4⟩ := hQ4
  have N4 := Fr.app N2 Nq4
  have Z0 := Nat.le_trans Z0 Kq4.1
  have OL := OL.keep Kq4 (allS ge_u2 all0)
  have KK := KK.trans Kq4 (allS (Or.inl (List.mem_of_getElem? (i := 1) rfl)) all0)
  have Fa1 := Fa1.keep Kq4 (ninS nx2 nin0)
  have Fa2 := Fa2.keep Kq4 (ninS nx2 nin0)
  have E_x0 := E_x0.keep Kq4
  have Es_u1 := Es_u1.keep Kq4
  have Vs_u1 := Vs_u1.keep Kq4 (ninS (Ne.symm nv_u2_tu1) nin0)
  have Es_u2 := Es_u2.keep Kq4
  have Vs_u2 := Vs_u2.keep Kq4 (ninS (Ne.symm nv_u2_tu2) nin0)
  refine Go.of (fun _ k => st4.trans k) ?_
  show Go p e below T4 (mkF m 17 #[.val (.ref x0)] [(.int (fHs ds)), (.int ((31 : Int32) * (fHs cs)))]) _
  refine Go.of (fun _ k => XS.iadd X4.here hx rfl (hb hby d17_17) rfl k) ?_
  show Go p e below T4 (mkF m 18 #[.val (.ref x0)] [(.int (((31 : Int32) * (fHs cs)) + (fHs ds)))]) _
  refine Go.retI X4 hx hret hlk (hb hby d17_18) rfl (by decide) (by decide) ?_
  exact ⟨rfl, N4, KK⟩
theorem own_fs {x y : Int32} : ¬ (fSame x y = 0) ↔ fStr x = fStr y := by unfold fSame; split <;> simp_all
theorem own_fs0 {x y : Int32} : (fSame x y = 0) ↔ ¬ fStr x = fStr y := by unfold fSame; split <;> simp_all
theorem own_hh {a b c d : Int32} (h1 : ¬ (fSame a b = 0)) (h2 : ¬ (fSame c d = 0)) : (31 : Int32) * fHs (fStr a) + fHs (fStr c) = (31 : Int32) * fHs (fStr b) + fHs (fStr d) := by rw [own_fs.mp h1, own_fs.mp h2]
theorem own_pd11 : parseMethodDescriptor "(I)Ljava/lang/String;" = some ⟨[.int], some (.object "java/lang/String")⟩ := by decide +kernel
theorem own_pd12 : parseMethodDescriptor "(Ljava/lang/String;Ljava/lang/String;)V" = some ⟨[(.object "java/lang/String"), (.object "java/lang/String")], none⟩ := by decide +kernel
theorem own_pd13 : parseMethodDescriptor "(Ljava/lang/String;)V" = some ⟨[(.object "java/lang/String")], none⟩ := by decide +kernel
theorem own_pd14 : parseMethodDescriptor "(II)Z" = some ⟨[.int, .int], some .boolean⟩ := by decide +kernel
theorem own_ef_rm0 (m : MethodId) (x0 : Int32) (x1 : Int32) (x2 : Int32) (x3 : Int32) (x4 : Int32) : entryFrame m #[(.int x0), (.int x1), (.int x2), (.int x3), (.int x4)] maxLocals = mkF m 0 #[.val (.int x0), .val (.int x1), .val (.int x2), .val (.int x3), .val (.int x4), .unset, .unset, .unset, .unset, .unset, .unset, .unset, .unset] [] := by first | (simp [entryFrame, mkF, argsToLocals, Value.category, maxLocals]; done) | rfl
def Q_rm0 (Z : State) (x0 x1 x2 x3 x4 zc : Int32) (h0 : Heap) (n0 : Nat) : Option Value → Heap → List Loc → Prop := fun v h L => v = some (.int 1) ∧ Fr n0 L
set_option maxRecDepth 65536 in
set_option maxHeartbeats 40000000 in
theorem rm0 (l : Launch) (Z : State) (a0 : Array Value) (hw : ∀ d ∈ tables_1, d.before a0 Z = true) (ws : List Jvm.Cond) (x0 x1 x2 x3 x4 zc : Int32) (h0 : Heap) (n0 : Nat) (Z0 : n0 ≤ h0.size) (OL : Old Z n0 h0) (O2 : Sta Z Z.heap "java/lang/String" "COMPACT_STRINGS" "Z" (.int zc)) (hzc : ¬ zc = 0) :
    CtrW l Z EL x code maxLocals ret ws room_1 #[(.int x0), (.int x1), (.int x2), (.int x3), (.int x4)] h0 (Q_rm0 Z x0 x1 x2 x3 x4 zc h0 n0) := by
  refine CtrW.intro (plainFor_of_name own_pn1) ?_
  intro p e s m below meth c s₁ hx hby hml hown hnm hret hlk hZ X0 e0 hs0 hC0
  have hown : (s.setVm s.vm).vm.findClass "com/example/cascadex/cascadex/OfTextEqualsPinLaw" = some m.cls := hown
  have hml : c.maxLocals = 13 := hml
  have N0 := Fr.nil n0
  refine Go.cast (own_ef_rm0 m x0 x1 x2 x3 x4) ?_
  have hS : s.Since s.vm 0 := own_since s
  have hk : 0 ≤ h0.size := Nat.zero_le _
  have HR := CHr.refl hC0
  have hEL := own_EL hw
  show Go p e below s₁ (mkF m 0 #[.val (.int x0), .val (.int x1), .val (.int x2), .val (.int x3), .val (.int x4), .unset, .unset, .unset, .unset, .unset, .unset, .unset, .unset] []) _
  have J14 : ∀ (y2 : Int32), Go p e below s₁ (mkF m 14 #[.val (.int x0), .val (.int x1), .val (.int x2), .val (.int x3), .val (.int x4), .val (.int y2), .unset, .unset, .unset, .unset, .unset, .unset, .unset] []) (KQW s (Q_rm0 Z x0 x1 x2 x3 x4 zc h0 n0) room_1.cells room_1.slots) := by
    intro y2 
    have J28 : ∀ (z2 : Int32), Go p e below s₁ (mkF m 28 #[.val (.int x0), .val (.int x1), .val (.int x2), .val (.int x3), .val (.int x4), .val (.int y2), .val (.int z2), .unset, .unset, .unset, .unset, .unset, .unset] []) (KQW s (Q_rm0 Z x0 x1 x2 x3 x4 zc h0 n0) room_1.cells room_1.slots) := by
      intro z2 
      refine Go.of (fun _ k => XS.iload X0.here hx rfl (hb hby at_28) rfl  k) ?_
      show Go p e below s₁ (mkF m 30 #[.val (.int x0), .val (.int x1), .val (.int x2), .val (.int x3), .val (.int x4), .val (.int y2), .val (.int z2), .unset, .unset, .unset, .unset, .unset, .unset] [(.int x4)]) _
      refine Go.of (fun _ k => XS.iconst X0.here hx rfl (hb hby at_30) k) ?_
      show Go p e below s₁ (mkF m 31 #[.val (.int x0), .val (.int x1), .val (.int x2), .val (.int x3), .val (.int x4), .val (.int y2), .val (.int z2), .unset, .unset, .unset, .unset, .unset, .unset] [(.int (2 : Int32)), (.int x4)]) _
      refine Go.of (fun _ k => XS.iushr X0.here hx rfl (hb hby at_31) rfl k) ?_
      show Go p e below s₁ (mkF m 32 #[.val (.int x0), .val (.int x1), .val (.int x2), .val (.int x3), .val (.int x4), .val (.int y2), .val (.int z2), .unset, .unset, .unset, .unset, .unset, .unset] [(.int ((x4.toUInt32 >>> ((2 : Int32) &&& 31).toUInt32).toInt32))]) _
      refine Go.of (fun _ k => XS.iconst X0.here hx rfl (hb hby at_32) k) ?_
      show Go p e below s₁ (mkF m 33 #[.val (.int x0), .val (.int x1), .val (.int x2), .val (.int x3), .val (.int x4), .val (.int y2), .val (.int z2), .unset, .unset, .unset, .unset, .unset, .unset] [(.int (3 : Int32)), (.int ((x4.toUInt32 >>> ((2 : Int32) &&& 31).toUInt32).toInt32))]) _
      refine Go.of (fun _ k => XS.iand X0.here hx rfl (hb hby at_33) rfl k) ?_
      show Go p e below s₁ (mkF m 34 #[.val (.int x0), .val (.int x1), .val (.int x2), .val (.int x3), .val (.int x4), .val (.int y2), .val (.int z2), .unset, .unset, .unset, .unset, .unset, .unset] [(.int (((x4.toUInt32 >>> ((2 : Int32) &&& 31).toUInt32).toInt32) &&& (3 : Int32)))]) _
      refine Go.of (fun _ k => XS.istore X0.here hx rfl (hb hby at_34) rfl (l' := #[.val (.int x0), .val (.int x1), .val (.int x2), .val (.int x3), .val (.int x4), .val (.int y2), .val (.int z2), .val (.int (((x4.toUInt32 >>> ((2 : Int32) &&& 31).toUInt32).toInt32) &&& (3 : Int32))), .unset, .unset, .unset, .unset, .unset]) rfl k) ?_
      show Go p e below s₁ (mkF m 36 #[.val (.int x0), .val (.int x1), .val (.int x2), .val (.int x3), .val (.int x4), .val (.int y2), .val (.int z2), .val (.int (((x4.toUInt32 >>> ((2 : Int32) &&& 31).toUInt32).toInt32) &&& (3 : Int32))), .unset, .unset, .unset, .unset, .unset] []) _
      generalize h_kd : (((x4.toUInt32 >>> ((2 : Int32) &&& 31).toUInt32).toInt32) &&& (3 : Int32)) = kd
      obtain ⟨T1, h1, X1, e1, E1, A1, D1, -, st1⟩ := newO X0 hx hZ hown (hw _ (List.mem_of_getElem? (i := 0) rfl)) (hw _ (List.mem_of_getElem? (i := 1) rfl)) (hw _ (List.mem_of_getElem? (i := 2) rfl)) e0 (g := (mkF m 36 #[.val (.int x0), .val (.int x1), .val (.int x2), .val (.int x3), .val (.int x4), .val (.int y2), .val (.int z2), .val (.int kd), .unset, .unset, .unset, .unset, .unset] [])) rfl (hb hby at_36) (by decide) (by decide)
      obtain ⟨ad1, g1⟩ : ∃ z, z = h0.size := ⟨_, rfl⟩
      rw [← g1] at A1 D1 st1
      have ge_ad1 : n0 ≤ ad1 := Nat.le_trans Z0 (Nat.le_of_eq g1.symm)
      have HR := HR.trans (CHr.ext E1 HR.1)
      have hk := Nat.le_trans hk E1.1
      have Z0 := Nat.le_trans Z0 E1.1
      have OL := OL.ext E1
      have E_ad1 := A1
      have F_type_ad1 : Fld Z h1 ad1 "com/example/cascadex/cascadex/Letter$OfText" "type" "Ljava/lang/String;" .null := D1 (Or.inr (hw _ (List.mem_of_getElem? (i := 56) rfl))) (ty := (.object "java/lang/String")) (by decide)
      have F_text_ad1 : Fld Z h1 ad1 "com/example/cascadex/cascadex/Letter$OfText" "text" "Ljava/lang/String;" .null := D1 (Or.inr (hw _ (List.mem_of_getElem? (i := 58) rfl))) (ty := (.object "java/lang/String")) (by decide)
      refine Go.of (fun _ k => st1 _ k) ?_
      show Go p e below T1 (mkF m 39 #[.val (.int x0), .val (.int x1), .val (.int x2), .val (.int x3), .val (.int x4), .val (.int y2), .val (.int z2), .val (.int kd), .unset, .unset, .unset, .unset, .unset] [(.ref ad1)]) _
      refine Go.of (fun _ k => XS.dup X1.here hx rfl (hb hby at_39) rfl rfl k) ?_
      show Go p e below T1 (mkF m 40 #[.val (.int x0), .val (.int x1), .val (.int x2), .val (.int x3), .val (.int x4), .val (.int y2), .val (.int z2), .val (.int kd), .unset, .unset, .unset, .unset, .unset] [(.ref ad1), (.ref ad1)]) _
      refine Go.of (fun _ k => XS.iloadN X1.here hx rfl (hb hby at_40) rfl  k) ?_
      show Go p e below T1 (mkF m 41 #[.val (.int x0), .val (.int x1), .val (.int x2), .val (.int x3), .val (.int x4), .val (.int y2), .val (.int z2), .val (.int kd), .unset, .unset, .unset, .unset, .unset] [(.int x0), (.ref ad1), (.ref ad1)]) _
      obtain ⟨_, _, ⟨T2, L2, kq2, nq2⟩, -, X2, hS2, hg2, ⟨Lc2, hQ2, l2, y2, z2, hC2⟩, st2⟩ := callSS X1 hx (y := (⟨"com/example/cascadex/cascadex/OfTextEqualsPinLaw", "str", "(I)Ljava/lang/String;"⟩ : MethodName)) hown (mvT hZ (hw _ (List.mem_of_getElem? (i := 3) rfl))) (mvT hZ (hw _ (List.mem_of_getElem? (i := 4) rfl))) (mvT hZ (hw _ (List.mem_of_getElem? (i := 5) rfl))) (mvT hZ (hw _ (List.mem_of_getElem? (i := 6) rfl))) (by decide) (backOfSH (W := 2) (rm1 l Z a0 hw [] x0 zc h1 n0 Z0 OL O2 hzc) hZ (hw _ (List.mem_of_getElem? (i := 6) rfl)) (hw _ (List.mem_of_getElem? (i := 5) rfl)) (by decide) (by decide) hEL HR.1) (g := (mkF m 41 #[.val (.int x0), .val (.int x1), .val (.int x2), .val (.int x3), .val (.int x4), .val (.int y2), .val (.int z2), .val (.int kd), .unset, .unset, .unset, .unset, .unset] [(.int x0), (.ref ad1), (.ref ad1)])) rfl (by rw [hml]; rfl) (argsL := [(.int x0)]) (rest := [(.ref ad1), (.ref ad1)]) (lenOf own_pd11 rfl) rfl (by show 2 * 0 + _ ≤ _; exact Nat.le_of_eq rfl) (hb hby at_41) (fun _ _ => ⟨rfl, e1, (by decide : 1 + 6 ≤ _), (by decide : 2 + 19 ≤ _)⟩)
      dsimp only [Pt.U, Pt.locs, Pt.cells, Pt.slots] at X2 l2 y2 z2 st2 hQ2 hS2 hg2 hC2
      subst l2 y2 z2
      obtain ⟨X2, hS, hZ, hown⟩ := rebS hS (by rw [e1]; exact hk) X2 hS2 hg2 hZ hown
      have HR := HR.trans hC2
      have hk : T2.heap.size ≤ T2.heap.size := Nat.le_refl _
      obtain ⟨s1, ts1, ks1, rfl, Nq2, Kq2, ge_s1, sz_s1, Es_s1, Fc_s1, Fh_s1, Fz_s1, Fv_s1, Vs_s1, fk_s1⟩ := hQ2
      have N2 := Fr.app N0 Nq2
      have ne_ad1_s1 : ad1 ≠ s1 := Nat.ne_of_lt (Nat.lt_of_lt_of_le E_ad1.lt sz_s1)
      have Z0 := Nat.le_trans Z0 Kq2.1
      have OL := OL.keep Kq2 all0
      have E_ad1 := E_ad1.keep Kq2
      have F_type_ad1 := F_type_ad1.keep Kq2 nin0
      have F_text_ad1 := F_text_ad1.keep Kq2 nin0
      have nv_ad1_ts1 := Exa.neArv E_ad1 Vs_s1 (hw _ (List.mem_of_getElem? (i := 1) rfl))
      have nv_s1_ts1 := Exa.neArv Es_s1 Vs_s1 (hw _ (List.mem_of_getElem? (i := 11) rfl))
      refine Go.of (fun _ k => st2.trans k) ?_
      show Go p e below T2 (mkF m 44 #[.val (.int x0), .val (.int x1), .val (.int x2), .val (.int x3), .val (.int x4), .val (.int y2), .val (.int z2), .val (.int kd), .unset, .unset, .unset, .unset, .unset] [(.ref s1), (.ref ad1), (.ref ad1)]) _
      refine Go.of (fun _ k => XS.iloadN X2.here hx rfl (hb hby at_44) rfl  k) ?_
      show Go p e below T2 (mkF m 45 #[.val (.int x0), .val (.int x1), .val (.int x2), .val (.int x3), .val (.int x4), .val (.int y2), .val (.int z2), .val (.int kd), .unset, .unset, .unset, .unset, .unset] [(.int x1), (.ref s1), (.ref ad1), (.ref ad1)]) _
      obtain ⟨_, _, ⟨T3, L3, kq3, nq3⟩, -, X3, hS3, hg3, ⟨Lc3, hQ3, l3, y3, z3, hC3⟩, st3⟩ := callSS X2 hx (y := (⟨"com/example/cascadex/cascadex/OfTextEqualsPinLaw", "str", "(I)Ljava/lang/String;"⟩ : MethodName)) hown (mvT hZ (hw _ (List.mem_of_getElem? (i := 3) rfl))) (mvT hZ (hw _ (List.mem_of_getElem? (i := 4) rfl))) (mvT hZ (hw _ (List.mem_of_getElem? (i := 5) rfl))) (mvT hZ (hw _ (List.mem_of_getElem? (i := 6) rfl))) (by decide) (backOfSH (W := 3) (rm1 l Z a0 hw [] x1 zc T2.heap n0 Z0 OL O2 hzc) hZ (hw _ (List.mem_of_getElem? (i := 6) rfl)) (hw _ (List.mem_of_getElem? (i := 5) rfl)) (by decide) (by decide) hEL HR.1) (g := (mkF m 45 #[.val (.int x0), .val (.int x1), .val (.int x2), .val (.int x3), .val (.int x4), .val (.int y2), .val (.int z2), .val (.int kd), .unset, .unset, .unset, .unset, .unset] [(.int x1), (.ref s1), (.ref ad1), (.ref ad1)])) rfl (by rw [hml]; rfl) (argsL := [(.int x1)]) (rest := [(.ref s1), (.ref ad1), (.ref ad1)]) (lenOf own_pd11 rfl) rfl (by show 2 * 0 + _ ≤ _; exact Nat.le_of_eq rfl) (hb hby at_45) (fun _ _ => ⟨rfl, rfl, (by decide : 7 + 6 ≤ _), (by decide : 21 + 19 ≤ _)⟩)
      dsimp only [Pt.U, Pt.locs, Pt.cells, Pt.slots] at X3 l3 y3 z3 st3 hQ3 hS3 hg3 hC3
      subst l3 y3 z3
      obtain ⟨X3, hS, hZ, hown⟩ := rebS hS hk X3 hS3 hg3 hZ hown
      have HR := HR.trans hC3
      have hk : T3.heap.size ≤ T3.heap.size := Nat.le_refl _
      obtain ⟨s2, ts2, ks2, rfl, Nq3, Kq3, ge_s2, sz_s2, Es_s2, Fc_s2, Fh_s2, Fz_s2, Fv_s2, Vs_s2, fk_s2⟩ := hQ3
      have N3 := Fr.app N2 Nq3
      have ne_ad1_s2 : ad1 ≠ s2 := Nat.ne_of_lt (Nat.lt_of_lt_of_le E_ad1.lt sz_s2)
      have ne_s1_s2 : s1 ≠ s2 := Nat.ne_of_lt (Nat.lt_of_lt_of_le Es_s1.lt sz_s2)
      have ne_ts1_s2 : ts1 ≠ s2 := Nat.ne_of_lt (Nat.lt_of_lt_of_le Vs_s1.lt sz_s2)
      have Z0 := Nat.le_trans Z0 Kq3.1
      have OL := OL.keep Kq3 all0
      have E_ad1 := E_ad1.keep Kq3
      have F_type_ad1 := F_type_ad1.keep Kq3 nin0
      have F_text_ad1 := F_text_ad1.keep Kq3 nin0
      have Es_s1 := Es_s1.keep Kq3
      have Fc_s1 := Fc_s1.keep Kq3 nin0
      have Fv_s1 := Fv_s1.keep Kq3 nin0
      have Fh_s1 := Fh_s1.keep Kq3 nin0
      have Fz_s1 := Fz_s1.keep Kq3 nin0
      have Vs_s1 := Vs_s1.keep Kq3 nin0
      have nv_ad1_ts2 := Exa.neArv E_ad1 Vs_s2 (hw _ (List.mem_of_getElem? (i := 1) rfl))
      have nv_s1_ts2 := Exa.neArv Es_s1 Vs_s2 (hw _ (List.mem_of_getElem? (i := 11) rfl))
      have nv_s2_ts2 := Exa.neArv Es_s2 Vs_s2 (hw _ (List.mem_of_getElem? (i := 11) rfl))
      refine Go.of (fun _ k => st3.trans k) ?_
      show Go p e below T3 (mkF m 48 #[.val (.int x0), .val (.int x1), .val (.int x2), .val (.int x3), .val (.int x4), .val (.int y2), .val (.int z2), .val (.int kd), .unset, .unset, .unset, .unset, .unset] [(.ref s2), (.ref s1), (.ref ad1), (.ref ad1)]) _
      obtain ⟨_, _, ⟨T4, L4, kq4, nq4⟩, -, X4, ⟨Lc4, hQ4, l4, y4, z4⟩, st4⟩ := X3.specialBack hx (y := (⟨"com/example/cascadex/cascadex/Letter$OfText", "<init>", "(Ljava/lang/String;Ljava/lang/String;)V"⟩ : MethodName)) rfl hown (mvT hZ (hw _ (List.mem_of_getElem? (i := 46) rfl))) (mvT hZ (hw _ (List.mem_of_getElem? (i := 47) rfl))) (mvT hZ (hw _ (List.mem_of_getElem? (i := 48) rfl))) (by decide) (backOf (W := 1) (rm10 l Z a0 hw [] ad1 s1 s2 T3.heap n0 Z0 ge_ad1 E_ad1 F_type_ad1 F_text_ad1) hZ (hw _ (List.mem_of_getElem? (i := 48) rfl)) (hw _ (List.mem_of_getElem? (i := 2) rfl)) (by decide) (by decide)) (g := (mkF m 48 #[.val (.int x0), .val (.int x1), .val (.int x2), .val (.int x3), .val (.int x4), .val (.int y2), .val (.int z2), .val (.int kd), .unset, .unset, .unset, .unset, .unset] [(.ref s2), (.ref s1), (.ref ad1), (.ref ad1)])) rfl (by rw [hml]; rfl) (Steps.refl _) (a := ad1) (argsL := [(.ref s1), (.ref s2)]) (rest := [(.ref ad1)]) (lenOf own_pd12 rfl) rfl (by show 2 * 0 + _ ≤ _; exact Nat.le_of_eq rfl) (hb hby at_48) (fun _ _ => ⟨rfl, rfl, (by decide : 13 + 0 ≤ _), (by decide : 40 + 0 ≤ _)⟩)
      dsimp only [Pt.U, Pt.locs, Pt.cells, Pt.slots] at X4 l4 y4 z4 st4 hQ4
      subst l4 y4 z4
      obtain ⟨rfl, Nq4, Kq4, fq4_0, fq4_1, fq4_2⟩ := hQ4
      have N4 := Fr.app N3 Nq4
      have sf_ad1 := Safe.exa (EL := EL) hZ.alike E_ad1 (by decide) (by decide)
      have HR := HR.trans (CHr.keep Kq4 (sfS sf_ad1 sf0) HR.1)
      have hk := Nat.le_trans hk Kq4.1
      have Z0 := Nat.le_trans Z0 Kq4.1
      have OL := OL.keep Kq4 (allS ge_ad1 all0)
      have Es_s1 := Es_s1.keep Kq4
      have Fc_s1 := Fc_s1.keep Kq4 (ninS (Ne.symm ne_ad1_s1) nin0)
      have Fv_s1 := Fv_s1.keep Kq4 (ninS (Ne.symm ne_ad1_s1) nin0)
      have Fh_s1 := Fh_s1.keep Kq4 (ninS (Ne.symm ne_ad1_s1) nin0)
      have Fz_s1 := Fz_s1.keep Kq4 (ninS (Ne.symm ne_ad1_s1) nin0)
      have Vs_s1 := Vs_s1.keep Kq4 (ninS (Ne.symm nv_ad1_ts1) nin0)
      have Es_s2 := Es_s2.keep Kq4
      have Fc_s2 := Fc_s2.keep Kq4 (ninS (Ne.symm ne_ad1_s2) nin0)
      have Fv_s2 := Fv_s2.keep Kq4 (ninS (Ne.symm ne_ad1_s2) nin0)
      have Fh_s2 := Fh_s2.keep Kq4 (ninS (Ne.symm ne_ad1_s2) nin0)
      have Fz_s2 := Fz_s2.keep Kq4 (ninS (Ne.symm ne_ad1_s2) nin0)
      have Vs_s2 := Vs_s2.keep Kq4 (ninS (Ne.symm nv_ad1_ts2) nin0)
      have E_ad1 := fq4_0
      have F_type_ad1 := fq4_1
      have F_text_ad1 := fq4_2
      refine Go.of (fun _ k => st4.trans k) ?_
      show Go p e below T4 (mkF m 51 #[.val (.int x0), .val (.int x1), .val (.int x2), .val (.int x3), .val (.int x4), .val (.int y2), .val (.int z2), .val (.int kd), .unset, .unset, .unset, .unset, .unset] [(.ref ad1)]) _
      refine Go.of (fun _ k => XS.astore X4.here hx rfl (hb hby at_51) rfl rfl (l' := #[.val (.int x0), .val (.int x1), .val (.int x2), .val (.int x3), .val (.int x4), .val (.int y2), .val (.int z2), .val (.int kd), .val (.ref ad1), .unset, .unset, .unset, .unset]) rfl k) ?_
      show Go p e below T4 (mkF m 53 #[.val (.int x0), .val (.int x1), .val (.int x2), .val (.int x3), .val (.int x4), .val (.int y2), .val (.int z2), .val (.int kd), .val (.ref ad1), .unset, .unset, .unset, .unset] []) _
      refine Go.of (fun _ k => XS.iload X4.here hx rfl (hb hby at_53) rfl  k) ?_
      show Go p e below T4 (mkF m 55 #[.val (.int x0), .val (.int x1), .val (.int x2), .val (.int x3), .val (.int x4), .val (.int y2), .val (.int z2), .val (.int kd), .val (.ref ad1), .unset, .unset, .unset, .unset] [(.int kd)]) _
      refine Go.of (fun _ k => XS.iconst X4.here hx rfl (hb hby at_55) k) ?_
      show Go p e below T4 (mkF m 56 #[.val (.int x0), .val (.int x1), .val (.int x2), .val (.int x3), .val (.int x4), .val (.int y2), .val (.int z2), .val (.int kd), .val (.ref ad1), .unset, .unset, .unset, .unset] [(.int (1 : Int32)), (.int kd)]) _
      by_cases hc56_0 : kd = (1 : Int32)
      · refine Go.of (fun _ k => XS.icmpNo X4.here hx rfl (hb hby at_56) rfl (teq hc56_0).2 k) ?_
        show Go p e below T4 (mkF m 59 #[.val (.int x0), .val (.int x1), .val (.int x2), .val (.int x3), .val (.int x4), .val (.int y2), .val (.int z2), .val (.int kd), .val (.ref ad1), .unset, .unset, .unset, .unset] []) _
        refine Go.of (fun _ k => XS.aload X4.here hx rfl (hb hby at_59) rfl rfl  k) ?_
        show Go p e below T4 (mkF m 61 #[.val (.int x0), .val (.int x1), .val (.int x2), .val (.int x3), .val (.int x4), .val (.int y2), .val (.int z2), .val (.int kd), .val (.ref ad1), .unset, .unset, .unset, .unset] [(.ref ad1)]) _
        refine Go.of (fun _ k => XS.aconstNull X4.here hx rfl (hb hby at_61) k) ?_
        show Go p e below T4 (mkF m 62 #[.val (.int x0), .val (.int x1), .val (.int x2), .val (.int x3), .val (.int x4), .val (.int y2), .val (.int z2), .val (.int kd), .val (.ref ad1), .unset, .unset, .unset, .unset] [.null, (.ref ad1)]) _
        obtain ⟨cq5, kq5, q5a, q5b, q5c⟩ := isOf hZ rfl E_ad1
        obtain ⟨_, _, ⟨T5, L5, kq5, nq5⟩, -, X5, ⟨Lc5, hQ5, l5, y5, z5⟩, st5⟩ := X4.virtualBack hx (y := (⟨"com/example/cascadex/cascadex/Letter$OfText", "equals", "(Ljava/lang/Object;)Z"⟩ : MethodName)) (z := (⟨"com/example/cascadex/cascadex/Letter$OfText", "equals", "(Ljava/lang/Object;)Z"⟩ : MethodName)) hown (mvT hZ (hw _ (List.mem_of_getElem? (i := 62) rfl))) (mvT hZ (hw _ (List.mem_of_getElem? (i := 63) rfl))) (notFace_of_selects (args := #[]) (mvT hZ (hw _ (List.mem_of_getElem? (i := 65) rfl)))) (mvT hZ (hw _ (List.mem_of_getElem? (i := 65) rfl))) (mvT hZ (hw _ (List.mem_of_getElem? (i := 64) rfl))) (by decide) (backOf (W := 0) (rmE0 l Z a0 hw [] ad1 T4.heap n0 Z0 ) hZ (hw _ (List.mem_of_getElem? (i := 66) rfl)) (hw _ (List.mem_of_getElem? (i := 2) rfl)) (by decide) (by decide)) q5a q5c (g := (mkF m 62 #[.val (.int x0), .val (.int x1), .val (.int x2), .val (.int x3), .val (.int x4), .val (.int y2), .val (.int z2), .val (.int kd), .val (.ref ad1), .unset, .unset, .unset, .unset] [.null, (.ref ad1)])) rfl (by rw [hml]; rfl) (Steps.refl _) (argsL := [.null]) (rest := []) (lenOf own_pd5 rfl) rfl (by show 2 * 0 + _ ≤ _; exact Nat.le_of_eq rfl) (hb hby at_62) (fun _ _ => ⟨rfl, rfl, (by decide : 13 + 0 ≤ _), (by decide : 40 + 0 ≤ _)⟩)
        dsimp only [Pt.U, Pt.locs, Pt.cells, Pt.slots] at X5 l5 y5 z5 st5 hQ5
        subst l5 y5 z5
        obtain ⟨rfl, Nq5, e5⟩ := hQ5
        have N5 := Fr.app N4 Nq5
        refine Go.of (fun _ k => st5.trans k) ?_
        show Go p e below T5 (mkF m 65 #[.val (.int x0), .val (.int x1), .val (.int x2), .val (.int x3), .val (.int x4), .val (.int y2), .val (.int z2), .val (.int kd), .val (.ref ad1), .unset, .unset, .unset, .unset] [(.int (0 : Int32))]) _
        refine Go.of (fun _ k => XS.ifNo X5.here hx rfl (hb hby at_65) rfl ((if0 _ _).trans (teq (show (0 : Int32) = (0 : Int32) from (by decide))).2) k) ?_
        show Go p e below T5 (mkF m 68 #[.val (.int x0), .val (.int x1), .val (.int x2), .val (.int x3), .val (.int x4), .val (.int y2), .val (.int z2), .val (.int kd), .val (.ref ad1), .unset, .unset, .unset, .unset] []) _
        refine Go.of (fun _ k => XS.iconst X5.here hx rfl (hb hby at_68) k) ?_
        show Go p e below T5 (mkF m 69 #[.val (.int x0), .val (.int x1), .val (.int x2), .val (.int x3), .val (.int x4), .val (.int y2), .val (.int z2), .val (.int kd), .val (.ref ad1), .unset, .unset, .unset, .unset] [(.int (1 : Int32))]) _
        refine Go.of (fun _ k => XS.goto X5.here hx rfl (pc0 := 69) (pc' := 73) rfl (hb hby at_69) (by decide) (by decide) k) ?_
        show Go p e below T5 (mkF m 73 #[.val (.int x0), .val (.int x1), .val (.int x2), .val (.int x3), .val (.int x4), .val (.int y2), .val (.int z2), .val (.int kd), .val (.ref ad1), .unset, .unset, .unset, .unset] [(.int (1 : Int32))]) _
        refine Go.retNW X5 hx (t := .boolean) hret hlk (by simp) (hb hby at_73) e5 hS hk (by decide) (by decide) ?_
        exact ⟨rfl, N5⟩
      · refine Go.of (fun _ k => XS.icmpYes X4.here hx rfl (pc0 := 56) (pc' := 74) rfl (hb hby at_56) rfl (feq hc56_0).2 (by decide) (by decide) k) ?_
        show Go p e below T4 (mkF m 74 #[.val (.int x0), .val (.int x1), .val (.int x2), .val (.int x3), .val (.int x4), .val (.int y2), .val (.int z2), .val (.int kd), .val (.ref ad1), .unset, .unset, .unset, .unset] []) _
        refine Go.of (fun _ k => XS.iload X4.here hx rfl (hb hby at_74) rfl  k) ?_
        show Go p e below T4 (mkF m 76 #[.val (.int x0), .val (.int x1), .val (.int x2), .val (.int x3), .val (.int x4), .val (.int y2), .val (.int z2), .val (.int kd), .val (.ref ad1), .unset, .unset, .unset, .unset] [(.int kd)]) _
        refine Go.of (fun _ k => XS.iconst X4.here hx rfl (hb hby at_76) k) ?_
        show Go p e below T4 (mkF m 77 #[.val (.int x0), .val (.int x1), .val (.int x2), .val (.int x3), .val (.int x4), .val (.int y2), .val (.int z2), .val (.int kd), .val (.ref ad1), .unset, .unset, .unset, .unset] [(.int (2 : Int32)), (.int kd)]) _
        by_cases hc77_1 : kd = (2 : Int32)
        · refine Go.of (fun _ k => XS.icmpNo X4.here hx rfl (hb hby at_77) rfl (teq hc77_1).2 k) ?_
          show Go p e below T4 (mkF m 80 #[.val (.int x0), .val (.int x1), .val (.int x2), .val (.int x3), .val (.int x4), .val (.int y2), .val (.int z2), .val (.int kd), .val (.ref ad1), .unset, .unset, .unset, .unset] []) _
          obtain ⟨T6, h6, X6, e6, E6, A6, D6, -, st6⟩ := newO X4 hx hZ hown (hw _ (List.mem_of_getElem? (i := 79) rfl)) (hw _ (List.mem_of_getElem? (i := 80) rfl)) (hw _ (List.mem_of_getElem? (i := 81) rfl)) rfl (g := (mkF m 80 #[.val (.int x0), .val (.int x1), .val (.int x2), .val (.int x3), .val (.int x4), .val (.int y2), .val (.int z2), .val (.int kd), .val (.ref ad1), .unset, .unset, .unset, .unset] [])) rfl (hb hby at_80) (by decide) (by decide)
          obtain ⟨ad6, g6⟩ : ∃ z, z = T4.heap.size := ⟨_, rfl⟩
          rw [← g6] at A6 D6 st6
          have ne_s1_ad6 : s1 ≠ ad6 := Nat.ne_of_lt (Nat.lt_of_lt_of_le Es_s1.lt (Nat.le_of_eq g6.symm))
          have ne_ts1_ad6 : ts1 ≠ ad6 := Nat.ne_of_lt (Nat.lt_of_lt_of_le Vs_s1.lt (Nat.le_of_eq g6.symm))
          have ne_s2_ad6 : s2 ≠ ad6 := Nat.ne_of_lt (Nat.lt_of_lt_of_le Es_s2.lt (Nat.le_of_eq g6.symm))
          have ne_ts2_ad6 : ts2 ≠ ad6 := Nat.ne_of_lt (Nat.lt_of_lt_of_le Vs_s2.lt (Nat.le_of_eq g6.symm))
          have ne_ad1_ad6 : ad1 ≠ ad6 := Nat.ne_of_lt (Nat.lt_of_lt_of_le E_ad1.lt (Nat.le_of_eq g6.symm))
          have ge_ad6 : n0 ≤ ad6 := Nat.le_trans Z0 (Nat.le_of_eq g6.symm)
          have HR := HR.trans (CHr.ext E6 HR.1)
          have hk := Nat.le_trans hk E6.1
          have Z0 := Nat.le_trans Z0 E6.1
          have OL := OL.ext E6
          have Es_s1 := Es_s1.ext E6
          have Fc_s1 := Fc_s1.ext E6
          have Fv_s1 := Fv_s1.ext E6
          have Fh_s1 := Fh_s1.ext E6
          have Fz_s1 := Fz_s1.ext E6
          have Vs_s1 := Vs_s1.ext E6
          have Es_s2 := Es_s2.ext E6
          have Fc_s2 := Fc_s2.ext E6
          have Fv_s2 := Fv_s2.ext E6
          have Fh_s2 := Fh_s2.ext E6
          have Fz_s2 := Fz_s2.ext E6
          have Vs_s2 := Vs_s2.ext E6
          have E_ad1 := E_ad1.ext E6
          have F_type_ad1 := F_type_ad1.ext E6
          have F_text_ad1 := F_text_ad1.ext E6
          have E_ad6 := A6
          have F_name_ad6 : Fld Z h6 ad6 "com/example/cascadex/cascadex/Letter$OfTag" "name" "Ljava/lang/String;" .null := D6 (Or.inr (hw _ (List.mem_of_getElem? (i := 87) rfl))) (ty := (.object "java/lang/String")) (by decide)
          refine Go.of (fun _ k => st6 _ k) ?_
          show Go p e below T6 (mkF m 83 #[.val (.int x0), .val (.int x1), .val (.int x2), .val (.int x3), .val (.int x4), .val (.int y2), .val (.int z2), .val (.int kd), .val (.ref ad1), .unset, .unset, .unset, .unset] [(.ref ad6)]) _
          refine Go.of (fun _ k => XS.dup X6.here hx rfl (hb hby at_83) rfl rfl k) ?_
          show Go p e below T6 (mkF m 84 #[.val (.int x0), .val (.int x1), .val (.int x2), .val (.int x3), .val (.int x4), .val (.int y2), .val (.int z2), .val (.int kd), .val (.ref ad1), .unset, .unset, .unset, .unset] [(.ref ad6), (.ref ad6)]) _
          refine Go.of (fun _ k => XS.iloadN X6.here hx rfl (hb hby at_84) rfl  k) ?_
          show Go p e below T6 (mkF m 85 #[.val (.int x0), .val (.int x1), .val (.int x2), .val (.int x3), .val (.int x4), .val (.int y2), .val (.int z2), .val (.int kd), .val (.ref ad1), .unset, .unset, .unset, .unset] [(.int x1), (.ref ad6), (.ref ad6)]) _
          obtain ⟨_, _, ⟨T7, L7, kq7, nq7⟩, -, X7, hS7, hg7, ⟨Lc7, hQ7, l7, y7, z7, hC7⟩, st7⟩ := callSS X6 hx (y := (⟨"com/example/cascadex/cascadex/OfTextEqualsPinLaw", "str", "(I)Ljava/lang/String;"⟩ : MethodName)) hown (mvT hZ (hw _ (List.mem_of_getElem? (i := 3) rfl))) (mvT hZ (hw _ (List.mem_of_getElem? (i := 4) rfl))) (mvT hZ (hw _ (List.mem_of_getElem? (i := 5) rfl))) (mvT hZ (hw _ (List.mem_of_getElem? (i := 6) rfl))) (by decide) (backOfSH (W := 2) (rm1 l Z a0 hw [] x1 zc h6 n0 Z0 OL O2 hzc) hZ (hw _ (List.mem_of_getElem? (i := 6) rfl)) (hw _ (List.mem_of_getElem? (i := 5) rfl)) (by decide) (by decide) hEL HR.1) (g := (mkF m 85 #[.val (.int x0), .val (.int x1), .val (.int x2), .val (.int x3), .val (.int x4), .val (.int y2), .val (.int z2), .val (.int kd), .val (.ref ad1), .unset, .unset, .unset, .unset] [(.int x1), (.ref ad6), (.ref ad6)])) rfl (by rw [hml]; rfl) (argsL := [(.int x1)]) (rest := [(.ref ad6), (.ref ad6)]) (lenOf own_pd11 rfl) rfl (by show 2 * 0 + _ ≤ _; exact Nat.le_of_eq rfl) (hb hby at_85) (fun _ _ => ⟨rfl, e6, (by decide : 14 + 6 ≤ _), (by decide : 41 + 19 ≤ _)⟩)
          dsimp only [Pt.U, Pt.locs, Pt.cells, Pt.slots] at X7 l7 y7 z7 st7 hQ7 hS7 hg7 hC7
          subst l7 y7 z7
          obtain ⟨X7, hS, hZ, hown⟩ := rebS hS (by rw [e6]; exact hk) X7 hS7 hg7 hZ hown
          have HR := HR.trans hC7
          have hk : T7.heap.size ≤ T7.heap.size := Nat.le_refl _
          obtain ⟨s3, ts3, ks3, rfl, Nq7, Kq7, ge_s3, sz_s3, Es_s3, Fc_s3, Fh_s3, Fz_s3, Fv_s3, Vs_s3, fk_s3⟩ := hQ7
          have N7 := Fr.app N4 Nq7
          have ne_s1_s3 : s1 ≠ s3 := Nat.ne_of_lt (Nat.lt_of_lt_of_le Es_s1.lt sz_s3)
          have ne_ts1_s3 : ts1 ≠ s3 := Nat.ne_of_lt (Nat.lt_of_lt_of_le Vs_s1.lt sz_s3)
          have ne_s2_s3 : s2 ≠ s3 := Nat.ne_of_lt (Nat.lt_of_lt_of_le Es_s2.lt sz_s3)
          have ne_ts2_s3 : ts2 ≠ s3 := Nat.ne_of_lt (Nat.lt_of_lt_of_le Vs_s2.lt sz_s3)
          have ne_ad1_s3 : ad1 ≠ s3 := Nat.ne_of_lt (Nat.lt_of_lt_of_le E_ad1.lt sz_s3)
          have ne_ad6_s3 : ad6 ≠ s3 := Nat.ne_of_lt (Nat.lt_of_lt_of_le E_ad6.lt sz_s3)
          have Z0 := Nat.le_trans Z0 Kq7.1
          have OL := OL.keep Kq7 all0
          have Es_s1 := Es_s1.keep Kq7
          have Fc_s1 := Fc_s1.keep Kq7 nin0
          have Fv_s1 := Fv_s1.keep Kq7 nin0
          have Fh_s1 := Fh_s1.keep Kq7 nin0
          have Fz_s1 := Fz_s1.keep Kq7 nin0
          have Vs_s1 := Vs_s1.keep Kq7 nin0
          have Es_s2 := Es_s2.keep Kq7
          have Fc_s2 := Fc_s2.keep Kq7 nin0
          have Fv_s2 := Fv_s2.keep Kq7 nin0
          have Fh_s2 := Fh_s2.keep Kq7 nin0
          have Fz_s2 := Fz_s2.keep Kq7 nin0
          have Vs_s2 := Vs_s2.keep Kq7 nin0
          have E_ad1 := E_ad1.keep Kq7
          have F_type_ad1 := F_type_ad1.keep Kq7 nin0
          have F_text_ad1 := F_text_ad1.keep Kq7 nin0
          have E_ad6 := E_ad6.keep Kq7
          have F_name_ad6 := F_name_ad6.keep Kq7 nin0
          have nv_s1_ts3 := Exa.neArv Es_s1 Vs_s3 (hw _ (List.mem_of_getElem? (i := 11) rfl))
          have nv_s2_ts3 := Exa.neArv Es_s2 Vs_s3 (hw _ (List.mem_of_getElem? (i := 11) rfl))
          have nv_ad1_ts3 := Exa.neArv E_ad1 Vs_s3 (hw _ (List.mem_of_getElem? (i := 1) rfl))
          have nv_ad6_ts3 := Exa.neArv E_ad6 Vs_s3 (hw _ (List.mem_of_getElem? (i := 80) rfl))
          have nv_s3_ts3 := Exa.neArv Es_s3 Vs_s3 (hw _ (List.mem_of_getElem? (i := 11) rfl))
          refine Go.of (fun _ k => st7.trans k) ?_
          show Go p e below T7 (mkF m 88 #[.val (.int x0), .val (.int x1), .val (.int x2), .val (.int x3), .val (.int x4), .val (.int y2), .val (.int z2), .val (.int kd), .val (.ref ad1), .unset, .unset, .unset, .unset] [(.ref s3), (.ref ad6), (.ref ad6)]) _
          obtain ⟨_, _, ⟨T8, L8, kq8, nq8⟩, -, X8, ⟨Lc8, hQ8, l8, y8, z8⟩, st8⟩ := X7.specialBack hx (y := (⟨"com/example/cascadex/cascadex/Letter$OfTag", "<init>", "(Ljava/lang/String;)V"⟩ : MethodName)) rfl hown (mvT hZ (hw _ (List.mem_of_getElem? (i := 82) rfl))) (mvT hZ (hw _ (List.mem_of_getElem? (i := 83) rfl))) (mvT hZ (hw _ (List.mem_of_getElem? (i := 84) rfl))) (by decide) (backOf (W := 1) (rm16 l Z a0 hw [] ad6 s3 T7.heap n0 Z0 ge_ad6 E_ad6 F_name_ad6) hZ (hw _ (List.mem_of_getElem? (i := 84) rfl)) (hw _ (List.mem_of_getElem? (i := 81) rfl)) (by decide) (by decide)) (g := (mkF m 88 #[.val (.int x0), .val (.int x1), .val (.int x2), .val (.int x3), .val (.int x4), .val (.int y2), .val (.int z2), .val (.int kd), .val (.ref ad1), .unset, .unset, .unset, .unset] [(.ref s3), (.ref ad6), (.ref ad6)])) rfl (by rw [hml]; rfl) (Steps.refl _) (a := ad6) (argsL := [(.ref s3)]) (rest := [(.ref ad6)]) (lenOf own_pd13 rfl) rfl (by show 2 * 0 + _ ≤ _; exact Nat.le_of_eq rfl) (hb hby at_88) (fun _ _ => ⟨rfl, rfl, (by decide : 20 + 0 ≤ _), (by decide : 60 + 0 ≤ _)⟩)
          dsimp only [Pt.U, Pt.locs, Pt.cells, Pt.slots] at X8 l8 y8 z8 st8 hQ8
          subst l8 y8 z8
          obtain ⟨rfl, Nq8, Kq8, fq8_0, fq8_1⟩ := hQ8
          have N8 := Fr.app N7 Nq8
          have sf_ad6 := Safe.exa (EL := EL) hZ.alike E_ad6 (by decide) (by decide)
          have HR := HR.trans (CHr.keep Kq8 (sfS sf_ad6 sf0) HR.1)
          have hk := Nat.le_trans hk Kq8.1
          have Z0 := Nat.le_trans Z0 Kq8.1
          have OL := OL.keep Kq8 (allS ge_ad6 all0)
          have Es_s1 := Es_s1.keep Kq8
          have Fc_s1 := Fc_s1.keep Kq8 (ninS ne_s1_ad6 nin0)
          have Fv_s1 := Fv_s1.keep Kq8 (ninS ne_s1_ad6 nin0)
          have Fh_s1 := Fh_s1.keep Kq8 (ninS ne_s1_ad6 nin0)
          have Fz_s1 := Fz_s1.keep Kq8 (ninS ne_s1_ad6 nin0)
          have Vs_s1 := Vs_s1.keep Kq8 (ninS ne_ts1_ad6 nin0)
          have Es_s2 := Es_s2.keep Kq8
          have Fc_s2 := Fc_s2.keep Kq8 (ninS ne_s2_ad6 nin0)
          have Fv_s2 := Fv_s2.keep Kq8 (ninS ne_s2_ad6 nin0)
          have Fh_s2 := Fh_s2.keep Kq8 (ninS ne_s2_ad6 nin0)
          have Fz_s2 := Fz_s2.keep Kq8 (ninS ne_s2_ad6 nin0)
          have Vs_s2 := Vs_s2.keep Kq8 (ninS ne_ts2_ad6 nin0)
          have E_ad1 := E_ad1.keep Kq8
          have F_type_ad1 := F_type_ad1.keep Kq8 (ninS ne_ad1_ad6 nin0)
          have F_text_ad1 := F_text_ad1.keep Kq8 (ninS ne_ad1_ad6 nin0)
          have Es_s3 := Es_s3.keep Kq8
          have Fc_s3 := Fc_s3.keep Kq8 (ninS (Ne.symm ne_ad6_s3) nin0)
          have Fv_s3 := Fv_s3.keep Kq8 (ninS (Ne.symm ne_ad6_s3) nin0)
          have Fh_s3 := Fh_s3.keep Kq8 (ninS (Ne.symm ne_ad6_s3) nin0)
          have Fz_s3 := Fz_s3.keep Kq8 (ninS (Ne.symm ne_ad6_s3) nin0)
          have Vs_s3 := Vs_s3.keep Kq8 (ninS (Ne.symm nv_ad6_ts3) nin0)
          have E_ad6 := fq8_0
          have F_name_ad6 := fq8_1
          refine Go.of (fun _ k => st8.trans k) ?_
          show Go p e below T8 (mkF m 91 #[.val (.int x0), .val (.int x1), .val (.int x2), .val (.int x3), .val (.int x4), .val (.int y2), .val (.int z2), .val (.int kd), .val (.ref ad1), .unset, .unset, .unset, .unset] [(.ref ad6)]) _
          refine Go.of (fun _ k => XS.astore X8.here hx rfl (hb hby at_91) rfl rfl (l' := #[.val (.int x0), .val (.int x1), .val (.int x2), .val (.int x3), .val (.int x4), .val (.int y2), .val (.int z2), .val (.int kd), .val (.ref ad1), .val (.ref ad6), .unset, .unset, .unset]) rfl k) ?_
          show Go p e below T8 (mkF m 93 #[.val (.int x0), .val (.int x1), .val (.int x2), .val (.int x3), .val (.int x4), .val (.int y2), .val (.int z2), .val (.int kd), .val (.ref ad1), .val (.ref ad6), .unset, .unset, .unset] []) _
          refine Go.of (fun _ k => XS.aload X8.here hx rfl (hb hby at_93) rfl rfl  k) ?_
          show Go p e below T8 (mkF m 95 #[.val (.int x0), .val (.int x1), .val (.int x2), .val (.int x3), .val (.int x4), .val (.int y2), .val (.int z2), .val (.int kd), .val (.ref ad1), .val (.ref ad6), .unset, .unset, .unset] [(.ref ad1)]) _
          refine Go.of (fun _ k => XS.aload X8.here hx rfl (hb hby at_95) rfl rfl  k) ?_
          show Go p e below T8 (mkF m 97 #[.val (.int x0), .val (.int x1), .val (.int x2), .val (.int x3), .val (.int x4), .val (.int y2), .val (.int z2), .val (.int kd), .val (.ref ad1), .val (.ref ad6), .unset, .unset, .unset] [(.ref ad6), (.ref ad1)]) _
          obtain ⟨cq9, kq9, q9a, q9b, q9c⟩ := isOf hZ rfl E_ad1
          obtain ⟨_, _, ⟨T9, L9, kq9, nq9⟩, -, X9, ⟨Lc9, hQ9, l9, y9, z9⟩, st9⟩ := X8.virtualBack hx (y := (⟨"com/example/cascadex/cascadex/Letter$OfText", "equals", "(Ljava/lang/Object;)Z"⟩ : MethodName)) (z := (⟨"com/example/cascadex/cascadex/Letter$OfText", "equals", "(Ljava/lang/Object;)Z"⟩ : MethodName)) hown (mvT hZ (hw _ (List.mem_of_getElem? (i := 62) rfl))) (mvT hZ (hw _ (List.mem_of_getElem? (i := 63) rfl))) (notFace_of_selects (args := #[]) (mvT hZ (hw _ (List.mem_of_getElem? (i := 65) rfl)))) (mvT hZ (hw _ (List.mem_of_getElem? (i := 65) rfl))) (mvT hZ (hw _ (List.mem_of_getElem? (i := 64) rfl))) (by decide) (backOf (W := 0) (rmE1 l Z a0 hw [] ad1 ad6 T8.heap n0 Z0 E_ad6) hZ (hw _ (List.mem_of_getElem? (i := 66) rfl)) (hw _ (List.mem_of_getElem? (i := 2) rfl)) (by decide) (by decide)) q9a q9c (g := (mkF m 97 #[.val (.int x0), .val (.int x1), .val (.int x2), .val (.int x3), .val (.int x4), .val (.int y2), .val (.int z2), .val (.int kd), .val (.ref ad1), .val (.ref ad6), .unset, .unset, .unset] [(.ref ad6), (.ref ad1)])) rfl (by rw [hml]; rfl) (Steps.refl _) (argsL := [(.ref ad6)]) (rest := []) (lenOf own_pd5 rfl) rfl (by show 2 * 0 + _ ≤ _; exact Nat.le_of_eq rfl) (hb hby at_97) (fun _ _ => ⟨rfl, rfl, (by decide : 20 + 0 ≤ _), (by decide : 60 + 0 ≤ _)⟩)
          dsimp only [Pt.U, Pt.locs, Pt.cells, Pt.slots] at X9 l9 y9 z9 st9 hQ9
          subst l9 y9 z9
          obtain ⟨rfl, Nq9, e9⟩ := hQ9
          have N9 := Fr.app N8 Nq9
          refine Go.of (fun _ k => st9.trans k) ?_
          show Go p e below T9 (mkF m 100 #[.val (.int x0), .val (.int x1), .val (.int x2), .val (.int x3), .val (.int x4), .val (.int y2), .val (.int z2), .val (.int kd), .val (.ref ad1), .val (.ref ad6), .unset, .unset, .unset] [(.int (0 : Int32))]) _
          refine Go.of (fun _ k => XS.ifNo X9.here hx rfl (hb hby at_100) rfl ((if0 _ _).trans (teq (show (0 : Int32) = (0 : Int32) from (by decide))).2) k) ?_
          show Go p e below T9 (mkF m 103 #[.val (.int x0), .val (.int x1), .val (.int x2), .val (.int x3), .val (.int x4), .val (.int y2), .val (.int z2), .val (.int kd), .val (.ref ad1), .val (.ref ad6), .unset, .unset, .unset] []) _
          refine Go.of (fun _ k => XS.iconst X9.here hx rfl (hb hby at_103) k) ?_
          show Go p e below T9 (mkF m 104 #[.val (.int x0), .val (.int x1), .val (.int x2), .val (.int x3), .val (.int x4), .val (.int y2), .val (.int z2), .val (.int kd), .val (.ref ad1), .val (.ref ad6), .unset, .unset, .unset] [(.int (1 : Int32))]) _
          refine Go.of (fun _ k => XS.goto X9.here hx rfl (pc0 := 104) (pc' := 108) rfl (hb hby at_104) (by decide) (by decide) k) ?_
          show Go p e below T9 (mkF m 108 #[.val (.int x0), .val (.int x1), .val (.int x2), .val (.int x3), .val (.int x4), .val (.int y2), .val (.int z2), .val (.int kd), .val (.ref ad1), .val (.ref ad6), .unset, .unset, .unset] [(.int (1 : Int32))]) _
          refine Go.retNW X9 hx (t := .boolean) hret hlk (by simp) (hb hby at_108) e9 hS hk (by decide) (by decide) ?_
          exact ⟨rfl, N9⟩
        · refine Go.of (fun _ k => XS.icmpYes X4.here hx rfl (pc0 := 77) (pc' := 109) rfl (hb hby at_77) rfl (feq hc77_1).2 (by decide) (by decide) k) ?_
          show Go p e below T4 (mkF m 109 #[.val (.int x0), .val (.int x1), .val (.int x2), .val (.int x3), .val (.int x4), .val (.int y2), .val (.int z2), .val (.int kd), .val (.ref ad1), .unset, .unset, .unset, .unset] []) _
          refine Go.of (fun _ k => XS.iload X4.here hx rfl (hb hby at_109) rfl  k) ?_
          show Go p e below T4 (mkF m 111 #[.val (.int x0), .val (.int x1), .val (.int x2), .val (.int x3), .val (.int x4), .val (.int y2), .val (.int z2), .val (.int kd), .val (.ref ad1), .unset, .unset, .unset, .unset] [(.int kd)]) _
          refine Go.of (fun _ k => XS.iconst X4.here hx rfl (hb hby at_111) k) ?_
          show Go p e below T4 (mkF m 112 #[.val (.int x0), .val (.int x1), .val (.int x2), .val (.int x3), .val (.int x4), .val (.int y2), .val (.int z2), .val (.int kd), .val (.ref ad1), .unset, .unset, .unset, .unset] [(.int (3 : Int32)), (.int kd)]) _
          by_cases hc112_2 : kd = (3 : Int32)
          · refine Go.of (fun _ k => XS.icmpNo X4.here hx rfl (hb hby at_112) rfl (teq hc112_2).2 k) ?_
            show Go p e below T4 (mkF m 115 #[.val (.int x0), .val (.int x1), .val (.int x2), .val (.int x3), .val (.int x4), .val (.int y2), .val (.int z2), .val (.int kd), .val (.ref ad1), .unset, .unset, .unset, .unset] []) _
            refine Go.of (fun _ k => XS.aload X4.here hx rfl (hb hby at_115) rfl rfl  k) ?_
            show Go p e below T4 (mkF m 117 #[.val (.int x0), .val (.int x1), .val (.int x2), .val (.int x3), .val (.int x4), .val (.int y2), .val (.int z2), .val (.int kd), .val (.ref ad1), .unset, .unset, .unset, .unset] [(.ref ad1)]) _
            refine Go.of (fun _ k => XS.aload X4.here hx rfl (hb hby at_117) rfl rfl  k) ?_
            show Go p e below T4 (mkF m 119 #[.val (.int x0), .val (.int x1), .val (.int x2), .val (.int x3), .val (.int x4), .val (.int y2), .val (.int z2), .val (.int kd), .val (.ref ad1), .unset, .unset, .unset, .unset] [(.ref ad1), (.ref ad1)]) _
            obtain ⟨cq10, kq10, q10a, q10b, q10c⟩ := isOf hZ rfl E_ad1
            obtain ⟨_, _, ⟨T10, L10, kq10, nq10⟩, -, X10, ⟨Lc10, hQ10, l10, y10, z10⟩, st10⟩ := X4.virtualBack hx (y := (⟨"com/example/cascadex/cascadex/Letter$OfText", "equals", "(Ljava/lang/Object;)Z"⟩ : MethodName)) (z := (⟨"com/example/cascadex/cascadex/Letter$OfText", "equals", "(Ljava/lang/Object;)Z"⟩ : MethodName)) hown (mvT hZ (hw _ (List.mem_of_getElem? (i := 62) rfl))) (mvT hZ (hw _ (List.mem_of_getElem? (i := 63) rfl))) (notFace_of_selects (args := #[]) (mvT hZ (hw _ (List.mem_of_getElem? (i := 65) rfl)))) (mvT hZ (hw _ (List.mem_of_getElem? (i := 65) rfl))) (mvT hZ (hw _ (List.mem_of_getElem? (i := 64) rfl))) (by decide) (backOf (W := 0) (rmE2 l Z a0 hw [] ad1 ad1 s1 s2 s1 s2 ts1 ts2 ts1 ts2 ks1 ks2 ks1 ks2 (fStr x0) (fStr x1) (fStr x0) (fStr x1) zc T4.heap n0 Z0 OL O2 hzc E_ad1 F_type_ad1 F_text_ad1 F_type_ad1 F_text_ad1 Es_s1 Fc_s1 Fv_s1 Vs_s1 (own_len3 _).2 (own_len3 _).1 Es_s2 Fc_s2 Fv_s2 Vs_s2 (own_len3 _).2 (own_len3 _).1 Es_s1 Fc_s1 Fv_s1 Vs_s1 (own_len3 _).2 (own_len3 _).1 Es_s2 Fc_s2 Fv_s2 Vs_s2 (own_len3 _).2 (own_len3 _).1) hZ (hw _ (List.mem_of_getElem? (i := 66) rfl)) (hw _ (List.mem_of_getElem? (i := 2) rfl)) (by decide) (by decide)) q10a q10c (g := (mkF m 119 #[.val (.int x0), .val (.int x1), .val (.int x2), .val (.int x3), .val (.int x4), .val (.int y2), .val (.int z2), .val (.int kd), .val (.ref ad1), .unset, .unset, .unset, .unset] [(.ref ad1), (.ref ad1)])) rfl (by rw [hml]; rfl) (Steps.refl _) (argsL := [(.ref ad1)]) (rest := []) (lenOf own_pd5 rfl) rfl (by show 2 * 0 + _ ≤ _; exact Nat.le_of_eq rfl) (hb hby at_119) (fun _ _ => ⟨rfl, rfl, (by decide : 13 + 0 ≤ _), (by decide : 40 + 0 ≤ _)⟩)
            dsimp only [Pt.U, Pt.locs, Pt.cells, Pt.slots] at X10 l10 y10 z10 st10 hQ10
            subst l10 y10 z10
            obtain ⟨rfl, Nq10, e10⟩ := hQ10
            have N10 := Fr.app N4 Nq10
            refine Go.of (fun _ k => st10.trans k) ?_
            show Go p e below T10 (mkF m 122 #[.val (.int x0), .val (.int x1), .val (.int x2), .val (.int x3), .val (.int x4), .val (.int y2), .val (.int z2), .val (.int kd), .val (.ref ad1), .unset, .unset, .unset, .unset] [(.int (fEq (fStr x0) (fStr x1) (fStr x0) (fStr x1)))]) _
            refine Go.retNW X10 hx (t := .boolean) hret hlk (by simp) (hb hby at_122) e10 hS hk (by decide) (by decide) ?_
            exact ⟨show some (Value.int (nar .boolean (fEq (fStr x0) (fStr x1) (fStr x0) (fStr x1)))) = _ from by simp [fEq, nar], N10⟩
          · refine Go.of (fun _ k => XS.icmpYes X4.here hx rfl (pc0 := 112) (pc' := 123) rfl (hb hby at_112) rfl (feq hc112_2).2 (by decide) (by decide) k) ?_
            show Go p e below T4 (mkF m 123 #[.val (.int x0), .val (.int x1), .val (.int x2), .val (.int x3), .val (.int x4), .val (.int y2), .val (.int z2), .val (.int kd), .val (.ref ad1), .unset, .unset, .unset, .unset] []) _
            obtain ⟨T11, h11, X11, e11, E11, A11, D11, -, st11⟩ := newO X4 hx hZ hown (hw _ (List.mem_of_getElem? (i := 0) rfl)) (hw _ (List.mem_of_getElem? (i := 1) rfl)) (hw _ (List.mem_of_getElem? (i := 2) rfl)) rfl (g := (mkF m 123 #[.val (.int x0), .val (.int x1), .val (.int x2), .val (.int x3), .val (.int x4), .val (.int y2), .val (.int z2), .val (.int kd), .val (.ref ad1), .unset, .unset, .unset, .unset] [])) rfl (hb hby at_123) (by decide) (by decide)
            obtain ⟨ad11, g11⟩ : ∃ z, z = T4.heap.size := ⟨_, rfl⟩
            rw [← g11] at A11 D11 st11
            have ne_s1_ad11 : s1 ≠ ad11 := Nat.ne_of_lt (Nat.lt_of_lt_of_le Es_s1.lt (Nat.le_of_eq g11.symm))
            have ne_ts1_ad11 : ts1 ≠ ad11 := Nat.ne_of_lt (Nat.lt_of_lt_of_le Vs_s1.lt (Nat.le_of_eq g11.symm))
            have ne_s2_ad11 : s2 ≠ ad11 := Nat.ne_of_lt (Nat.lt_of_lt_of_le Es_s2.lt (Nat.le_of_eq g11.symm))
            have ne_ts2_ad11 : ts2 ≠ ad11 := Nat.ne_of_lt (Nat.lt_of_lt_of_le Vs_s2.lt (Nat.le_of_eq g11.symm))
            have ne_ad1_ad11 : ad1 ≠ ad11 := Nat.ne_of_lt (Nat.lt_of_lt_of_le E_ad1.lt (Nat.le_of_eq g11.symm))
            have ge_ad11 : n0 ≤ ad11 := Nat.le_trans Z0 (Nat.le_of_eq g11.symm)
            have HR := HR.trans (CHr.ext E11 HR.1)
            have hk := Nat.le_trans hk E11.1
            have Z0 := Nat.le_trans Z0 E11.1
            have OL := OL.ext E11
            have Es_s1 := Es_s1.ext E11
            have Fc_s1 := Fc_s1.ext E11
            have Fv_s1 := Fv_s1.ext E11
            have Fh_s1 := Fh_s1.ext E11
            have Fz_s1 := Fz_s1.ext E11
            have Vs_s1 := Vs_s1.ext E11
            have Es_s2 := Es_s2.ext E11
            have Fc_s2 := Fc_s2.ext E11
            have Fv_s2 := Fv_s2.ext E11
            have Fh_s2 := Fh_s2.ext E11
            have Fz_s2 := Fz_s2.ext E11
            have Vs_s2 := Vs_s2.ext E11
            have E_ad1 := E_ad1.ext E11
            have F_type_ad1 := F_type_ad1.ext E11
            have F_text_ad1 := F_text_ad1.ext E11
            have E_ad11 := A11
            have F_type_ad11 : Fld Z h11 ad11 "com/example/cascadex/cascadex/Letter$OfText" "type" "Ljava/lang/String;" .null := D11 (Or.inr (hw _ (List.mem_of_getElem? (i := 56) rfl))) (ty := (.object "java/lang/String")) (by decide)
            have F_text_ad11 : Fld Z h11 ad11 "com/example/cascadex/cascadex/Letter$OfText" "text" "Ljava/lang/String;" .null := D11 (Or.inr (hw _ (List.mem_of_getElem? (i := 58) rfl))) (ty := (.object "java/lang/String")) (by decide)
            refine Go.of (fun _ k => st11 _ k) ?_
            show Go p e below T11 (mkF m 126 #[.val (.int x0), .val (.int x1), .val (.int x2), .val (.int x3), .val (.int x4), .val (.int y2), .val (.int z2), .val (.int kd), .val (.ref ad1), .unset, .unset, .unset, .unset] [(.ref ad11)]) _
            refine Go.of (fun _ k => XS.dup X11.here hx rfl (hb hby at_126) rfl rfl k) ?_
            show Go p e below T11 (mkF m 127 #[.val (.int x0), .val (.int x1), .val (.int x2), .val (.int x3), .val (.int x4), .val (.int y2), .val (.int z2), .val (.int kd), .val (.ref ad1), .unset, .unset, .unset, .unset] [(.ref ad11), (.ref ad11)]) _
            refine Go.of (fun _ k => XS.iload X11.here hx rfl (hb hby at_127) rfl  k) ?_
            show Go p e below T11 (mkF m 129 #[.val (.int x0), .val (.int x1), .val (.int x2), .val (.int x3), .val (.int x4), .val (.int y2), .val (.int z2), .val (.int kd), .val (.ref ad1), .unset, .unset, .unset, .unset] [(.int y2), (.ref ad11), (.ref ad11)]) _
            obtain ⟨_, _, ⟨T12, L12, kq12, nq12⟩, -, X12, hS12, hg12, ⟨Lc12, hQ12, l12, y12, z12, hC12⟩, st12⟩ := callSS X11 hx (y := (⟨"com/example/cascadex/cascadex/OfTextEqualsPinLaw", "str", "(I)Ljava/lang/String;"⟩ : MethodName)) hown (mvT hZ (hw _ (List.mem_of_getElem? (i := 3) rfl))) (mvT hZ (hw _ (List.mem_of_getElem? (i := 4) rfl))) (mvT hZ (hw _ (List.mem_of_getElem? (i := 5) rfl))) (mvT hZ (hw _ (List.mem_of_getElem? (i := 6) rfl))) (by decide) (backOfSH (W := 2) (rm1 l Z a0 hw [] y2 zc h11 n0 Z0 OL O2 hzc) hZ (hw _ (List.mem_of_getElem? (i := 6) rfl)) (hw _ (List.mem_of_getElem? (i := 5) rfl)) (by decide) (by decide) hEL HR.1) (g := (mkF m 129 #[.val (.int x0), .val (.int x1), .val (.int x2), .val (.int x3), .val (.int x4), .val (.int y2), .val (.int z2), .val (.int kd), .val (.ref ad1), .unset, .unset, .unset, .unset] [(.int y2), (.ref ad11), (.ref ad11)])) rfl (by rw [hml]; rfl) (argsL := [(.int y2)]) (rest := [(.ref ad11), (.ref ad11)]) (lenOf own_pd11 rfl) rfl (by show 2 * 0 + _ ≤ _; exact Nat.le_of_eq rfl) (hb hby at_129) (fun _ _ => ⟨rfl, e11, (by decide : 14 + 6 ≤ _), (by decide : 42 + 19 ≤ _)⟩)
            dsimp only [Pt.U, Pt.locs, Pt.cells, Pt.slots] at X12 l12 y12 z12 st12 hQ12 hS12 hg12 hC12
            subst l12 y12 z12
            obtain ⟨X12, hS, hZ, hown⟩ := rebS hS (by rw [e11]; exact hk) X12 hS12 hg12 hZ hown
            have HR := HR.trans hC12
            have hk : T12.heap.size ≤ T12.heap.size := Nat.le_refl _
            obtain ⟨s3, ts3, ks3, rfl, Nq12, Kq12, ge_s3, sz_s3, Es_s3, Fc_s3, Fh_s3, Fz_s3, Fv_s3, Vs_s3, fk_s3⟩ := hQ12
            have N12 := Fr.app N4 Nq12
            have ne_s1_s3 : s1 ≠ s3 := Nat.ne_of_lt (Nat.lt_of_lt_of_le Es_s1.lt sz_s3)
            have ne_ts1_s3 : ts1 ≠ s3 := Nat.ne_of_lt (Nat.lt_of_lt_of_le Vs_s1.lt sz_s3)
            have ne_s2_s3 : s2 ≠ s3 := Nat.ne_of_lt (Nat.lt_of_lt_of_le Es_s2.lt sz_s3)
            have ne_ts2_s3 : ts2 ≠ s3 := Nat.ne_of_lt (Nat.lt_of_lt_of_le Vs_s2.lt sz_s3)
            have ne_ad1_s3 : ad1 ≠ s3 := Nat.ne_of_lt (Nat.lt_of_lt_of_le E_ad1.lt sz_s3)
            have ne_ad11_s3 : ad11 ≠ s3 := Nat.ne_of_lt (Nat.lt_of_lt_of_le E_ad11.lt sz_s3)
            have Z0 := Nat.le_trans Z0 Kq12.1
            have OL := OL.keep Kq12 all0
            have Es_s1 := Es_s1.keep Kq12
            have Fc_s1 := Fc_s1.keep Kq12 nin0
            have Fv_s1 := Fv_s1.keep Kq12 nin0
            have Fh_s1 := Fh_s1.keep Kq12 nin0
            have Fz_s1 := Fz_s1.keep Kq12 nin0
            have Vs_s1 := Vs_s1.keep Kq12 nin0
            have Es_s2 := Es_s2.keep Kq12
            have Fc_s2 := Fc_s2.keep Kq12 nin0
            have Fv_s2 := Fv_s2.keep Kq12 nin0
            have Fh_s2 := Fh_s2.keep Kq12 nin0
            have Fz_s2 := Fz_s2.keep Kq12 nin0
            have Vs_s2 := Vs_s2.keep Kq12 nin0
            have E_ad1 := E_ad1.keep Kq12
            have F_type_ad1 := F_type_ad1.keep Kq12 nin0
            have F_text_ad1 := F_text_ad1.keep Kq12 nin0
            have E_ad11 := E_ad11.keep Kq12
            have F_type_ad11 := F_type_ad11.keep Kq12 nin0
            have F_text_ad11 := F_text_ad11.keep Kq12 nin0
            have nv_s1_ts3 := Exa.neArv Es_s1 Vs_s3 (hw _ (List.mem_of_getElem? (i := 11) rfl))
            have nv_s2_ts3 := Exa.neArv Es_s2 Vs_s3 (hw _ (List.mem_of_getElem? (i := 11) rfl))
            have nv_ad1_ts3 := Exa.neArv E_ad1 Vs_s3 (hw _ (List.mem_of_getElem? (i := 1) rfl))
            have nv_ad11_ts3 := Exa.neArv E_ad11 Vs_s3 (hw _ (List.mem_of_getElem? (i := 1) rfl))
            have nv_s3_ts3 := Exa.neArv Es_s3 Vs_s3 (hw _ (List.mem_of_getElem? (i := 11) rfl))
            refine Go.of (fun _ k => st12.trans k) ?_
            show Go p e below T12 (mkF m 132 #[.val (.int x0), .val (.int x1), .val (.int x2), .val (.int x3), .val (.int x4), .val (.int y2), .val (.int z2), .val (.int kd), .val (.ref ad1), .unset, .unset, .unset, .unset] [(.ref s3), (.ref ad11), (.ref ad11)]) _
            refine Go.of (fun _ k => XS.iload X12.here hx rfl (hb hby at_132) rfl  k) ?_
            show Go p e below T12 (mkF m 134 #[.val (.int x0), .val (.int x1), .val (.int x2), .val (.int x3), .val (.int x4), .val (.int y2), .val (.int z2), .val (.int kd), .val (.ref ad1), .unset, .unset, .unset, .unset] [(.int z2), (.ref s3), (.ref ad11), (.ref ad11)]) _
            obtain ⟨_, _, ⟨T13, L13, kq13, nq13⟩, -, X13, hS13, hg13, ⟨Lc13, hQ13, l13, y13, z13, hC13⟩, st13⟩ := callSS X12 hx (y := (⟨"com/example/cascadex/cascadex/OfTextEqualsPinLaw", "str", "(I)Ljava/lang/String;"⟩ : MethodName)) hown (mvT hZ (hw _ (List.mem_of_getElem? (i := 3) rfl))) (mvT hZ (hw _ (List.mem_of_getElem? (i := 4) rfl))) (mvT hZ (hw _ (List.mem_of_getElem? (i := 5) rfl))) (mvT hZ (hw _ (List.mem_of_getElem? (i := 6) rfl))) (by decide) (backOfSH (W := 3) (rm1 l Z a0 hw [] z2 zc T12.heap n0 Z0 OL O2 hzc) hZ (hw _ (List.mem_of_getElem? (i := 6) rfl)) (hw _ (List.mem_of_getElem? (i := 5) rfl)) (by decide) (by decide) hEL HR.1) (g := (mkF m 134 #[.val (.int x0), .val (.int x1), .val (.int x2), .val (.int x3), .val (.int x4), .val (.int y2), .val (.int z2), .val (.int kd), .val (.ref ad1), .unset, .unset, .unset, .unset] [(.int z2), (.ref s3), (.ref ad11), (.ref ad11)])) rfl (by rw [hml]; rfl) (argsL := [(.int z2)]) (rest := [(.ref s3), (.ref ad11), (.ref ad11)]) (lenOf own_pd11 rfl) rfl (by show 2 * 0 + _ ≤ _; exact Nat.le_of_eq rfl) (hb hby at_134) (fun _ _ => ⟨rfl, rfl, (by decide : 20 + 6 ≤ _), (by decide : 61 + 19 ≤ _)⟩)
            dsimp only [Pt.U, Pt.locs, Pt.cells, Pt.slots] at X13 l13 y13 z13 st13 hQ13 hS13 hg13 hC13
            subst l13 y13 z13
            obtain ⟨X13, hS, hZ, hown⟩ := rebS hS hk X13 hS13 hg13 hZ hown
            have HR := HR.trans hC13
            have hk : T13.heap.size ≤ T13.heap.size := Nat.le_refl _
            obtain ⟨s4, ts4, ks4, rfl, Nq13, Kq13, ge_s4, sz_s4, Es_s4, Fc_s4, Fh_s4, Fz_s4, Fv_s4, Vs_s4, fk_s4⟩ := hQ13
            have N13 := Fr.app N12 Nq13
            have ne_s1_s4 : s1 ≠ s4 := Nat.ne_of_lt (Nat.lt_of_lt_of_le Es_s1.lt sz_s4)
            have ne_ts1_s4 : ts1 ≠ s4 := Nat.ne_of_lt (Nat.lt_of_lt_of_le Vs_s1.lt sz_s4)
            have ne_s2_s4 : s2 ≠ s4 := Nat.ne_of_lt (Nat.lt_of_lt_of_le Es_s2.lt sz_s4)
            have ne_ts2_s4 : ts2 ≠ s4 := Nat.ne_of_lt (Nat.lt_of_lt_of_le Vs_s2.lt sz_s4)
            have ne_ad1_s4 : ad1 ≠ s4 := Nat.ne_of_lt (Nat.lt_of_lt_of_le E_ad1.lt sz_s4)
            have ne_ad11_s4 : ad11 ≠ s4 := Nat.ne_of_lt (Nat.lt_of_lt_of_le E_ad11.lt sz_s4)
            have ne_s3_s4 : s3 ≠ s4 := Nat.ne_of_lt (Nat.lt_of_lt_of_le Es_s3.lt sz_s4)
            have ne_ts3_s4 : ts3 ≠ s4 := Nat.ne_of_lt (Nat.lt_of_lt_of_le Vs_s3.lt sz_s4)
            have Z0 := Nat.le_trans Z0 Kq13.1
            have OL := OL.keep Kq13 all0
            have Es_s1 := Es_s1.keep Kq13
            have Fc_s1 := Fc_s1.keep Kq13 nin0
            have Fv_s1 := Fv_s1.keep Kq13 nin0
            have Fh_s1 := Fh_s1.keep Kq13 nin0
            have Fz_s1 := Fz_s1.keep Kq13 nin0
            have Vs_s1 := Vs_s1.keep Kq13 nin0
            have Es_s2 := Es_s2.keep Kq13
            have Fc_s2 := Fc_s2.keep Kq13 nin0
            have Fv_s2 := Fv_s2.keep Kq13 nin0
            have Fh_s2 := Fh_s2.keep Kq13 nin0
            have Fz_s2 := Fz_s2.keep Kq13 nin0
            have Vs_s2 := Vs_s2.keep Kq13 nin0
            have E_ad1 := E_ad1.keep Kq13
            have F_type_ad1 := F_type_ad1.keep Kq13 nin0
            have F_text_ad1 := F_text_ad1.keep Kq13 nin0
            have E_ad11 := E_ad11.keep Kq13
            have F_type_ad11 := F_type_ad11.keep Kq13 nin0
            have F_text_ad11 := F_text_ad11.keep Kq13 nin0
            have Es_s3 := Es_s3.keep Kq13
            have Fc_s3 := Fc_s3.keep Kq13 nin0
            have Fv_s3 := Fv_s3.keep Kq13 nin0
            have Fh_s3 := Fh_s3.keep Kq13 nin0
            have Fz_s3 := Fz_s3.keep Kq13 nin0
            have Vs_s3 := Vs_s3.keep Kq13 nin0
            have nv_s1_ts4 := Exa.neArv Es_s1 Vs_s4 (hw _ (List.mem_of_getElem? (i := 11) rfl))
            have nv_s2_ts4 := Exa.neArv Es_s2 Vs_s4 (hw _ (List.mem_of_getElem? (i := 11) rfl))
            have nv_ad1_ts4 := Exa.neArv E_ad1 Vs_s4 (hw _ (List.mem_of_getElem? (i := 1) rfl))
            have nv_ad11_ts4 := Exa.neArv E_ad11 Vs_s4 (hw _ (List.mem_of_getElem? (i := 1) rfl))
            have nv_s3_ts4 := Exa.neArv Es_s3 Vs_s4 (hw _ (List.mem_of_getElem? (i := 11) rfl))
            have nv_s4_ts4 := Exa.neArv Es_s4 Vs_s4 (hw _ (List.mem_of_getElem? (i := 11) rfl))
            refine Go.of (fun _ k => st13.trans k) ?_
            show Go p e below T13 (mkF m 137 #[.val (.int x0), .val (.int x1), .val (.int x2), .val (.int x3), .val (.int x4), .val (.int y2), .val (.int z2), .val (.int kd), .val (.ref ad1), .unset, .unset, .unset, .unset] [(.ref s4), (.ref s3), (.ref ad11), (.ref ad11)]) _
            obtain ⟨_, _, ⟨T14, L14, kq14, nq14⟩, -, X14, ⟨Lc14, hQ14, l14, y14, z14⟩, st14⟩ := X13.specialBack hx (y := (⟨"com/example/cascadex/cascadex/Letter$OfText", "<init>", "(Ljava/lang/String;Ljava/lang/String;)V"⟩ : MethodName)) rfl hown (mvT hZ (hw _ (List.mem_of_getElem? (i := 46) rfl))) (mvT hZ (hw _ (List.mem_of_getElem? (i := 47) rfl))) (mvT hZ (hw _ (List.mem_of_getElem? (i := 48) rfl))) (by decide) (backOf (W := 1) (rm10 l Z a0 hw [] ad11 s3 s4 T13.heap n0 Z0 ge_ad11 E_ad11 F_type_ad11 F_text_ad11) hZ (hw _ (List.mem_of_getElem? (i := 48) rfl)) (hw _ (List.mem_of_getElem? (i := 2) rfl)) (by decide) (by decide)) (g := (mkF m 137 #[.val (.int x0), .val (.int x1), .val (.int x2), .val (.int x3), .val (.int x4), .val (.int y2), .val (.int z2), .val (.int kd), .val (.ref ad1), .unset, .unset, .unset, .unset] [(.ref s4), (.ref s3), (.ref ad11), (.ref ad11)])) rfl (by rw [hml]; rfl) (Steps.refl _) (a := ad11) (argsL := [(.ref s3), (.ref s4)]) (rest := [(.ref ad11)]) (lenOf own_pd12 rfl) rfl (by show 2 * 0 + _ ≤ _; exact Nat.le_of_eq rfl) (hb hby at_137) (fun _ _ => ⟨rfl, rfl, (by decide : 26 + 0 ≤ _), (by decide : 80 + 0 ≤ _)⟩)
            dsimp only [Pt.U, Pt.locs, Pt.cells, Pt.slots] at X14 l14 y14 z14 st14 hQ14
            subst l14 y14 z14
            obtain ⟨rfl, Nq14, Kq14, fq14_0, fq14_1, fq14_2⟩ := hQ14
            have N14 := Fr.app N13 Nq14
            have sf_ad11 := Safe.exa (EL := EL) hZ.alike E_ad11 (by decide) (by decide)
            have HR := HR.trans (CHr.keep Kq14 (sfS sf_ad11 sf0) HR.1)
            have hk := Nat.le_trans hk Kq14.1
            have Z0 := Nat.le_trans Z0 Kq14.1
            have OL := OL.keep Kq14 (allS ge_ad11 all0)
            have Es_s1 := Es_s1.keep Kq14
            have Fc_s1 := Fc_s1.keep Kq14 (ninS ne_s1_ad11 nin0)
            have Fv_s1 := Fv_s1.keep Kq14 (ninS ne_s1_ad11 nin0)
            have Fh_s1 := Fh_s1.keep Kq14 (ninS ne_s1_ad11 nin0)
            have Fz_s1 := Fz_s1.keep Kq14 (ninS ne_s1_ad11 nin0)
            have Vs_s1 := Vs_s1.keep Kq14 (ninS ne_ts1_ad11 nin0)
            have Es_s2 := Es_s2.keep Kq14
            have Fc_s2 := Fc_s2.keep Kq14 (ninS ne_s2_ad11 nin0)
            have Fv_s2 := Fv_s2.keep Kq14 (ninS ne_s2_ad11 nin0)
            have Fh_s2 := Fh_s2.keep Kq14 (ninS ne_s2_ad11 nin0)
            have Fz_s2 := Fz_s2.keep Kq14 (ninS ne_s2_ad11 nin0)
            have Vs_s2 := Vs_s2.keep Kq14 (ninS ne_ts2_ad11 nin0)
            have E_ad1 := E_ad1.keep Kq14
            have F_type_ad1 := F_type_ad1.keep Kq14 (ninS ne_ad1_ad11 nin0)
            have F_text_ad1 := F_text_ad1.keep Kq14 (ninS ne_ad1_ad11 nin0)
            have Es_s3 := Es_s3.keep Kq14
            have Fc_s3 := Fc_s3.keep Kq14 (ninS (Ne.symm ne_ad11_s3) nin0)
            have Fv_s3 := Fv_s3.keep Kq14 (ninS (Ne.symm ne_ad11_s3) nin0)
            have Fh_s3 := Fh_s3.keep Kq14 (ninS (Ne.symm ne_ad11_s3) nin0)
            have Fz_s3 := Fz_s3.keep Kq14 (ninS (Ne.symm ne_ad11_s3) nin0)
            have Vs_s3 := Vs_s3.keep Kq14 (ninS (Ne.symm nv_ad11_ts3) nin0)
            have Es_s4 := Es_s4.keep Kq14
            have Fc_s4 := Fc_s4.keep Kq14 (ninS (Ne.symm ne_ad11_s4) nin0)
            have Fv_s4 := Fv_s4.keep Kq14 (ninS (Ne.symm ne_ad11_s4) nin0)
            have Fh_s4 := Fh_s4.keep Kq14 (ninS (Ne.symm ne_ad11_s4) nin0)
            have Fz_s4 := Fz_s4.keep Kq14 (ninS (Ne.symm ne_ad11_s4) nin0)
            have Vs_s4 := Vs_s4.keep Kq14 (ninS (Ne.symm nv_ad11_ts4) nin0)
            have E_ad11 := fq14_0
            have F_type_ad11 := fq14_1
            have F_text_ad11 := fq14_2
            refine Go.of (fun _ k => st14.trans k) ?_
            show Go p e below T14 (mkF m 140 #[.val (.int x0), .val (.int x1), .val (.int x2), .val (.int x3), .val (.int x4), .val (.int y2), .val (.int z2), .val (.int kd), .val (.ref ad1), .unset, .unset, .unset, .unset] [(.ref ad11)]) _
            refine Go.of (fun _ k => XS.astore X14.here hx rfl (hb hby at_140) rfl rfl (l' := #[.val (.int x0), .val (.int x1), .val (.int x2), .val (.int x3), .val (.int x4), .val (.int y2), .val (.int z2), .val (.int kd), .val (.ref ad1), .val (.ref ad11), .unset, .unset, .unset]) rfl k) ?_
            show Go p e below T14 (mkF m 142 #[.val (.int x0), .val (.int x1), .val (.int x2), .val (.int x3), .val (.int x4), .val (.int y2), .val (.int z2), .val (.int kd), .val (.ref ad1), .val (.ref ad11), .unset, .unset, .unset] []) _
            refine Go.of (fun _ k => XS.iloadN X14.here hx rfl (hb hby at_142) rfl  k) ?_
            show Go p e below T14 (mkF m 143 #[.val (.int x0), .val (.int x1), .val (.int x2), .val (.int x3), .val (.int x4), .val (.int y2), .val (.int z2), .val (.int kd), .val (.ref ad1), .val (.ref ad11), .unset, .unset, .unset] [(.int x0)]) _
            refine Go.of (fun _ k => XS.iload X14.here hx rfl (hb hby at_143) rfl  k) ?_
            show Go p e below T14 (mkF m 145 #[.val (.int x0), .val (.int x1), .val (.int x2), .val (.int x3), .val (.int x4), .val (.int y2), .val (.int z2), .val (.int kd), .val (.ref ad1), .val (.ref ad11), .unset, .unset, .unset] [(.int y2), (.int x0)]) _
            obtain ⟨_, _, ⟨T15, L15, kq15, nq15⟩, -, X15, ⟨Lc15, hQ15, l15, y15, z15⟩, st15⟩ := Jvm.LawKit.callS X14 hx (y := (⟨"com/example/cascadex/cascadex/OfTextEqualsPinLaw", "same", "(II)Z"⟩ : MethodName)) hown (mvT hZ (hw _ (List.mem_of_getElem? (i := 59) rfl))) (mvT hZ (hw _ (List.mem_of_getElem? (i := 60) rfl))) (mvT hZ (hw _ (List.mem_of_getElem? (i := 5) rfl))) (mvT hZ (hw _ (List.mem_of_getElem? (i := 61) rfl))) (by decide) (backOf (W := 0) (rm12 l Z a0 hw [] x0 y2 T14.heap n0 Z0 ) hZ (hw _ (List.mem_of_getElem? (i := 61) rfl)) (hw _ (List.mem_of_getElem? (i := 5) rfl)) (by decide) (by decide)) (g := (mkF m 145 #[.val (.int x0), .val (.int x1), .val (.int x2), .val (.int x3), .val (.int x4), .val (.int y2), .val (.int z2), .val (.int kd), .val (.ref ad1), .val (.ref ad11), .unset, .unset, .unset] [(.int y2), (.int x0)])) rfl (by rw [hml]; rfl) (argsL := [(.int x0), (.int y2)]) (rest := []) (lenOf own_pd14 rfl) rfl (by show 2 * 0 + _ ≤ _; exact Nat.le_of_eq rfl) (hb hby at_145) (fun _ _ => ⟨rfl, rfl, (by decide : 26 + 0 ≤ _), (by decide : 80 + 0 ≤ _)⟩)
            dsimp only [Pt.U, Pt.locs, Pt.cells, Pt.slots] at X15 l15 y15 z15 st15 hQ15
            subst l15 y15 z15
            obtain ⟨rfl, Nq15, e15⟩ := hQ15
            have e15 := e15.trans rfl
            have N15 := Fr.app N14 Nq15
            refine Go.of (fun _ k => st15 _ k) ?_
            show Go p e below T15 (mkF m 148 #[.val (.int x0), .val (.int x1), .val (.int x2), .val (.int x3), .val (.int x4), .val (.int y2), .val (.int z2), .val (.int kd), .val (.ref ad1), .val (.ref ad11), .unset, .unset, .unset] [(.int (fSame x0 y2))]) _
            by_cases hc148_3 : (fSame x0 y2) = (0 : Int32)
            · refine Go.of (fun _ k => XS.ifYes X15.here hx rfl (pc0 := 148) (pc' := 164) rfl (hb hby at_148) rfl ((if0 _ _).trans (teq hc148_3).1) (by decide) (by decide) k) ?_
              show Go p e below T15 (mkF m 164 #[.val (.int x0), .val (.int x1), .val (.int x2), .val (.int x3), .val (.int x4), .val (.int y2), .val (.int z2), .val (.int kd), .val (.ref ad1), .val (.ref ad11), .unset, .unset, .unset] []) _
              refine Go.of (fun _ k => XS.iconst X15.here hx rfl (hb hby at_164) k) ?_
              show Go p e below T15 (mkF m 165 #[.val (.int x0), .val (.int x1), .val (.int x2), .val (.int x3), .val (.int x4), .val (.int y2), .val (.int z2), .val (.int kd), .val (.ref ad1), .val (.ref ad11), .unset, .unset, .unset] [(.int (0 : Int32))]) _
              refine Go.of (fun _ k => XS.istore X15.here hx rfl (hb hby at_165) rfl (l' := #[.val (.int x0), .val (.int x1), .val (.int x2), .val (.int x3), .val (.int x4), .val (.int y2), .val (.int z2), .val (.int kd), .val (.ref ad1), .val (.ref ad11), .val (.int (0 : Int32)), .unset, .unset]) rfl k) ?_
              show Go p e below T15 (mkF m 167 #[.val (.int x0), .val (.int x1), .val (.int x2), .val (.int x3), .val (.int x4), .val (.int y2), .val (.int z2), .val (.int kd), .val (.ref ad1), .val (.ref ad11), .val (.int (0 : Int32)), .unset, .unset] []) _
              refine Go.of (fun _ k => XS.aload X15.here hx rfl (hb hby at_167) rfl rfl  k) ?_
              show Go p e below T15 (mkF m 169 #[.val (.int x0), .val (.int x1), .val (.int x2), .val (.int x3), .val (.int x4), .val (.int y2), .val (.int z2), .val (.int kd), .val (.ref ad1), .val (.ref ad11), .val (.int (0 : Int32)), .unset, .unset] [(.ref ad1)]) _
              refine Go.of (fun _ k => XS.aload X15.here hx rfl (hb hby at_169) rfl rfl  k) ?_
              show Go p e below T15 (mkF m 171 #[.val (.int x0), .val (.int x1), .val (.int x2), .val (.int x3), .val (.int x4), .val (.int y2), .val (.int z2), .val (.int kd), .val (.ref ad1), .val (.ref ad11), .val (.int (0 : Int32)), .unset, .unset] [(.ref ad11), (.ref ad1)]) _
              obtain ⟨cq16, kq16, q16a, q16b, q16c⟩ := isOf hZ e15 E_ad1
              obtain ⟨_, _, ⟨T16, L16, kq16, nq16⟩, -, X16, ⟨Lc16, hQ16, l16, y16, z16⟩, st16⟩ := X15.virtualBack hx (y := (⟨"com/example/cascadex/cascadex/Letter$OfText", "equals", "(Ljava/lang/Object;)Z"⟩ : MethodName)) (z := (⟨"com/example/cascadex/cascadex/Letter$OfText", "equals", "(Ljava/lang/Object;)Z"⟩ : MethodName)) hown (mvT hZ (hw _ (List.mem_of_getElem? (i := 62) rfl))) (mvT hZ (hw _ (List.mem_of_getElem? (i := 63) rfl))) (notFace_of_selects (args := #[]) (mvT hZ (hw _ (List.mem_of_getElem? (i := 65) rfl)))) (mvT hZ (hw _ (List.mem_of_getElem? (i := 65) rfl))) (mvT hZ (hw _ (List.mem_of_getElem? (i := 64) rfl))) (by decide) (backOf (W := 0) (rmE2 l Z a0 hw [] ad1 ad11 s1 s2 s3 s4 ts1 ts2 ts3 ts4 ks1 ks2 ks3 ks4 (fStr x0) (fStr x1) (fStr y2) (fStr z2) zc T14.heap n0 Z0 OL O2 hzc E_ad11 F_type_ad1 F_text_ad1 F_type_ad11 F_text_ad11 Es_s1 Fc_s1 Fv_s1 Vs_s1 (own_len3 _).2 (own_len3 _).1 Es_s2 Fc_s2 Fv_s2 Vs_s2 (own_len3 _).2 (own_len3 _).1 Es_s3 Fc_s3 Fv_s3 Vs_s3 (own_len3 _).2 (own_len3 _).1 Es_s4 Fc_s4 Fv_s4 Vs_s4 (own_len3 _).2 (own_len3 _).1) hZ (hw _ (List.mem_of_getElem? (i := 66) rfl)) (hw _ (List.mem_of_getElem? (i := 2) rfl)) (by decide) (by decide)) q16a q16c (g := (mkF m 171 #[.val (.int x0), .val (.int x1), .val (.int x2), .val (.int x3), .val (.int x4), .val (.int y2), .val (.int z2), .val (.int kd), .val (.ref ad1), .val (.ref ad11), .val (.int (0 : Int32)), .unset, .unset] [(.ref ad11), (.ref ad1)])) rfl (by rw [hml]; rfl) (Steps.refl _) (argsL := [(.ref ad11)]) (rest := []) (lenOf own_pd5 rfl) rfl (by show 2 * 0 + _ ≤ _; exact Nat.le_of_eq rfl) (hb hby at_171) (fun _ _ => ⟨rfl, e15, (by decide : 26 + 0 ≤ _), (by decide : 80 + 0 ≤ _)⟩)
              dsimp only [Pt.U, Pt.locs, Pt.cells, Pt.slots] at X16 l16 y16 z16 st16 hQ16
              subst l16 y16 z16
              obtain ⟨rfl, Nq16, e16⟩ := hQ16
              have N16 := Fr.app N15 Nq16
              refine Go.of (fun _ k => st16.trans k) ?_
              show Go p e below T16 (mkF m 174 #[.val (.int x0), .val (.int x1), .val (.int x2), .val (.int x3), .val (.int x4), .val (.int y2), .val (.int z2), .val (.int kd), .val (.ref ad1), .val (.ref ad11), .val (.int (0 : Int32)), .unset, .unset] [(.int (fEq (fStr x0) (fStr x1) (fStr y2) (fStr z2)))]) _
              refine Go.of (fun _ k => XS.istore X16.here hx rfl (hb hby at_174) rfl (l' := #[.val (.int x0), .val (.int x1), .val (.int x2), .val (.int x3), .val (.int x4), .val (.int y2), .val (.int z2), .val (.int kd), .val (.ref ad1), .val (.ref ad11), .val (.int (0 : Int32)), .val (.int (fEq (fStr x0) (fStr x1) (fStr y2) (fStr z2))), .unset]) rfl k) ?_
              show Go p e below T16 (mkF m 176 #[.val (.int x0), .val (.int x1), .val (.int x2), .val (.int x3), .val (.int x4), .val (.int y2), .val (.int z2), .val (.int kd), .val (.ref ad1), .val (.ref ad11), .val (.int (0 : Int32)), .val (.int (fEq (fStr x0) (fStr x1) (fStr y2) (fStr z2))), .unset] []) _
              refine Go.of (fun _ k => XS.aload X16.here hx rfl (hb hby at_176) rfl rfl  k) ?_
              show Go p e below T16 (mkF m 178 #[.val (.int x0), .val (.int x1), .val (.int x2), .val (.int x3), .val (.int x4), .val (.int y2), .val (.int z2), .val (.int kd), .val (.ref ad1), .val (.ref ad11), .val (.int (0 : Int32)), .val (.int (fEq (fStr x0) (fStr x1) (fStr y2) (fStr z2))), .unset] [(.ref ad11)]) _
              refine Go.of (fun _ k => XS.aload X16.here hx rfl (hb hby at_178) rfl rfl  k) ?_
              show Go p e below T16 (mkF m 180 #[.val (.int x0), .val (.int x1), .val (.int x2), .val (.int x3), .val (.int x4), .val (.int y2), .val (.int z2), .val (.int kd), .val (.ref ad1), .val (.ref ad11), .val (.int (0 : Int32)), .val (.int (fEq (fStr x0) (fStr x1) (fStr y2) (fStr z2))), .unset] [(.ref ad1), (.ref ad11)]) _
              obtain ⟨cq17, kq17, q17a, q17b, q17c⟩ := isOf hZ e16 E_ad11
              obtain ⟨_, _, ⟨T17, L17, kq17, nq17⟩, -, X17, ⟨Lc17, hQ17, l17, y17, z17⟩, st17⟩ := X16.virtualBack hx (y := (⟨"com/example/cascadex/cascadex/Letter$OfText", "equals", "(Ljava/lang/Object;)Z"⟩ : MethodName)) (z := (⟨"com/example/cascadex/cascadex/Letter$OfText", "equals", "(Ljava/lang/Object;)Z"⟩ : MethodName)) hown (mvT hZ (hw _ (List.mem_of_getElem? (i := 62) rfl))) (mvT hZ (hw _ (List.mem_of_getElem? (i := 63) rfl))) (notFace_of_selects (args := #[]) (mvT hZ (hw _ (List.mem_of_getElem? (i := 65) rfl)))) (mvT hZ (hw _ (List.mem_of_getElem? (i := 65) rfl))) (mvT hZ (hw _ (List.mem_of_getElem? (i := 64) rfl))) (by decide) (backOf (W := 0) (rmE2 l Z a0 hw [] ad11 ad1 s3 s4 s1 s2 ts3 ts4 ts1 ts2 ks3 ks4 ks1 ks2 (fStr y2) (fStr z2) (fStr x0) (fStr x1) zc T14.heap n0 Z0 OL O2 hzc E_ad1 F_type_ad11 F_text_ad11 F_type_ad1 F_text_ad1 Es_s3 Fc_s3 Fv_s3 Vs_s3 (own_len3 _).2 (own_len3 _).1 Es_s4 Fc_s4 Fv_s4 Vs_s4 (own_len3 _).2 (own_len3 _).1 Es_s1 Fc_s1 Fv_s1 Vs_s1 (own_len3 _).2 (own_len3 _).1 Es_s2 Fc_s2 Fv_s2 Vs_s2 (own_len3 _).2 (own_len3 _).1) hZ (hw _ (List.mem_of_getElem? (i := 66) rfl)) (hw _ (List.mem_of_getElem? (i := 2) rfl)) (by decide) (by decide)) q17a q17c (g := (mkF m 180 #[.val (.int x0), .val (.int x1), .val (.int x2), .val (.int x3), .val (.int x4), .val (.int y2), .val (.int z2), .val (.int kd), .val (.ref ad1), .val (.ref ad11), .val (.int (0 : Int32)), .val (.int (fEq (fStr x0) (fStr x1) (fStr y2) (fStr z2))), .unset] [(.ref ad1), (.ref ad11)])) rfl (by rw [hml]; rfl) (Steps.refl _) (argsL := [(.ref ad1)]) (rest := []) (lenOf own_pd5 rfl) rfl (by show 2 * 0 + _ ≤ _; exact Nat.le_of_eq rfl) (hb hby at_180) (fun _ _ => ⟨rfl, e16, (by decide : 26 + 0 ≤ _), (by decide : 80 + 0 ≤ _)⟩)
              dsimp only [Pt.U, Pt.locs, Pt.cells, Pt.slots] at X17 l17 y17 z17 st17 hQ17
              subst l17 y17 z17
              obtain ⟨rfl, Nq17, e17⟩ := hQ17
              have N17 := Fr.app N16 Nq17
              refine Go.of (fun _ k => st17.trans k) ?_
              show Go p e below T17 (mkF m 183 #[.val (.int x0), .val (.int x1), .val (.int x2), .val (.int x3), .val (.int x4), .val (.int y2), .val (.int z2), .val (.int kd), .val (.ref ad1), .val (.ref ad11), .val (.int (0 : Int32)), .val (.int (fEq (fStr x0) (fStr x1) (fStr y2) (fStr z2))), .unset] [(.int (fEq (fStr y2) (fStr z2) (fStr x0) (fStr x1)))]) _
              refine Go.of (fun _ k => XS.istore X17.here hx rfl (hb hby at_183) rfl (l' := #[.val (.int x0), .val (.int x1), .val (.int x2), .val (.int x3), .val (.int x4), .val (.int y2), .val (.int z2), .val (.int kd), .val (.ref ad1), .val (.ref ad11), .val (.int (0 : Int32)), .val (.int (fEq (fStr x0) (fStr x1) (fStr y2) (fStr z2))), .val (.int (fEq (fStr y2) (fStr z2) (fStr x0) (fStr x1)))]) rfl k) ?_
              show Go p e below T17 (mkF m 185 #[.val (.int x0), .val (.int x1), .val (.int x2), .val (.int x3), .val (.int x4), .val (.int y2), .val (.int z2), .val (.int kd), .val (.ref ad1), .val (.ref ad11), .val (.int (0 : Int32)), .val (.int (fEq (fStr x0) (fStr x1) (fStr y2) (fStr z2))), .val (.int (fEq (fStr y2) (fStr z2) (fStr x0) (fStr x1)))] []) _
              refine Go.of (fun _ k => XS.iload X17.here hx rfl (hb hby at_185) rfl  k) ?_
              show Go p e below T17 (mkF m 187 #[.val (.int x0), .val (.int x1), .val (.int x2), .val (.int x3), .val (.int x4), .val (.int y2), .val (.int z2), .val (.int kd), .val (.ref ad1), .val (.ref ad11), .val (.int (0 : Int32)), .val (.int (fEq (fStr x0) (fStr x1) (fStr y2) (fStr z2))), .val (.int (fEq (fStr y2) (fStr z2) (fStr x0) (fStr x1)))] [(.int (fEq (fStr x0) (fStr x1) (fStr y2) (fStr z2)))]) _
              refine Go.of (fun _ k => XS.iload X17.here hx rfl (hb hby at_187) rfl  k) ?_
              show Go p e below T17 (mkF m 189 #[.val (.int x0), .val (.int x1), .val (.int x2), .val (.int x3), .val (.int x4), .val (.int y2), .val (.int z2), .val (.int kd), .val (.ref ad1), .val (.ref ad11), .val (.int (0 : Int32)), .val (.int (fEq (fStr x0) (fStr x1) (fStr y2) (fStr z2))), .val (.int (fEq (fStr y2) (fStr z2) (fStr x0) (fStr x1)))] [(.int (0 : Int32)), (.int (fEq (fStr x0) (fStr x1) (fStr y2) (fStr z2)))]) _
              refine Go.of (fun _ k => XS.icmpNo X17.here hx rfl (hb hby at_189) rfl (teq (show (fEq (fStr x0) (fStr x1) (fStr y2) (fStr z2)) = (0 : Int32) from (by simp only [fEq, eq_false (own_fs0.mp hc148_3), eq_false (fun z => own_fs0.mp hc148_3 (Eq.symm z)), if_true, if_false, ite_self]))).2 k) ?_
              show Go p e below T17 (mkF m 192 #[.val (.int x0), .val (.int x1), .val (.int x2), .val (.int x3), .val (.int x4), .val (.int y2), .val (.int z2), .val (.int kd), .val (.ref ad1), .val (.ref ad11), .val (.int (0 : Int32)), .val (.int (fEq (fStr x0) (fStr x1) (fStr y2) (fStr z2))), .val (.int (fEq (fStr y2) (fStr z2) (fStr x0) (fStr x1)))] []) _
              refine Go.of (fun _ k => XS.iload X17.here hx rfl (hb hby at_192) rfl  k) ?_
              show Go p e below T17 (mkF m 194 #[.val (.int x0), .val (.int x1), .val (.int x2), .val (.int x3), .val (.int x4), .val (.int y2), .val (.int z2), .val (.int kd), .val (.ref ad1), .val (.ref ad11), .val (.int (0 : Int32)), .val (.int (fEq (fStr x0) (fStr x1) (fStr y2) (fStr z2))), .val (.int (fEq (fStr y2) (fStr z2) (fStr x0) (fStr x1)))] [(.int (fEq (fStr y2) (fStr z2) (fStr x0) (fStr x1)))]) _
              refine Go.of (fun _ k => XS.iload X17.here hx rfl (hb hby at_194) rfl  k) ?_
              show Go p e below T17 (mkF m 196 #[.val (.int x0), .val (.int x1), .val (.int x2), .val (.int x3), .val (.int x4), .val (.int y2), .val (.int z2), .val (.int kd), .val (.ref ad1), .val (.ref ad11), .val (.int (0 : Int32)), .val (.int (fEq (fStr x0) (fStr x1) (fStr y2) (fStr z2))), .val (.int (fEq (fStr y2) (fStr z2) (fStr x0) (fStr x1)))] [(.int (0 : Int32)), (.int (fEq (fStr y2) (fStr z2) (fStr x0) (fStr x1)))]) _
              refine Go.of (fun _ k => XS.icmpYes X17.here hx rfl (pc0 := 196) (pc' := 201) rfl (hb hby at_196) rfl (teq (show (fEq (fStr y2) (fStr z2) (fStr x0) (fStr x1)) = (0 : Int32) from (by simp only [fEq, eq_false (own_fs0.mp hc148_3), eq_false (fun z => own_fs0.mp hc148_3 (Eq.symm z)), if_true, if_false, ite_self]))).1 (by decide) (by decide) k) ?_
              show Go p e below T17 (mkF m 201 #[.val (.int x0), .val (.int x1), .val (.int x2), .val (.int x3), .val (.int x4), .val (.int y2), .val (.int z2), .val (.int kd), .val (.ref ad1), .val (.ref ad11), .val (.int (0 : Int32)), .val (.int (fEq (fStr x0) (fStr x1) (fStr y2) (fStr z2))), .val (.int (fEq (fStr y2) (fStr z2) (fStr x0) (fStr x1)))] []) _
              refine Go.of (fun _ k => XS.iload X17.here hx rfl (hb hby at_201) rfl  k) ?_
              show Go p e below T17 (mkF m 203 #[.val (.int x0), .val (.int x1), .val (.int x2), .val (.int x3), .val (.int x4), .val (.int y2), .val (.int z2), .val (.int kd), .val (.ref ad1), .val (.ref ad11), .val (.int (0 : Int32)), .val (.int (fEq (fStr x0) (fStr x1) (fStr y2) (fStr z2))), .val (.int (fEq (fStr y2) (fStr z2) (fStr x0) (fStr x1)))] [(.int (0 : Int32))]) _
              refine Go.of (fun _ k => XS.ifYes X17.here hx rfl (pc0 := 203) (pc' := 219) rfl (hb hby at_203) rfl ((if0 _ _).trans (teq (show (0 : Int32) = (0 : Int32) from (by decide))).1) (by decide) (by decide) k) ?_
              show Go p e below T17 (mkF m 219 #[.val (.int x0), .val (.int x1), .val (.int x2), .val (.int x3), .val (.int x4), .val (.int y2), .val (.int z2), .val (.int kd), .val (.ref ad1), .val (.ref ad11), .val (.int (0 : Int32)), .val (.int (fEq (fStr x0) (fStr x1) (fStr y2) (fStr z2))), .val (.int (fEq (fStr y2) (fStr z2) (fStr x0) (fStr x1)))] []) _
              refine Go.of (fun _ k => XS.iconst X17.here hx rfl (hb hby at_219) k) ?_
              show Go p e below T17 (mkF m 220 #[.val (.int x0), .val (.int x1), .val (.int x2), .val (.int x3), .val (.int x4), .val (.int y2), .val (.int z2), .val (.int kd), .val (.ref ad1), .val (.ref ad11), .val (.int (0 : Int32)), .val (.int (fEq (fStr x0) (fStr x1) (fStr y2) (fStr z2))), .val (.int (fEq (fStr y2) (fStr z2) (fStr x0) (fStr x1)))] [(.int (1 : Int32))]) _
              refine Go.of (fun _ k => XS.goto X17.here hx rfl (pc0 := 220) (pc' := 224) rfl (hb hby at_220) (by decide) (by decide) k) ?_
              show Go p e below T17 (mkF m 224 #[.val (.int x0), .val (.int x1), .val (.int x2), .val (.int x3), .val (.int x4), .val (.int y2), .val (.int z2), .val (.int kd), .val (.ref ad1), .val (.ref ad11), .val (.int (0 : Int32)), .val (.int (fEq (fStr x0) (fStr x1) (fStr y2) (fStr z2))), .val (.int (fEq (fStr y2) (fStr z2) (fStr x0) (fStr x1)))] [(.int (1 : Int32))]) _
              refine Go.retNW X17 hx (t := .boolean) hret hlk (by simp) (hb hby at_224) e17 hS hk (by decide) (by decide) ?_
              exact ⟨rfl, N17⟩
            · refine Go.of (fun _ k => XS.ifNo X15.here hx rfl (hb hby at_148) rfl ((if0 _ _).trans (feq hc148_3).1) k) ?_
              show Go p e below T15 (mkF m 151 #[.val (.int x0), .val (.int x1), .val (.int x2), .val (.int x3), .val (.int x4), .val (.int y2), .val (.int z2), .val (.int kd), .val (.ref ad1), .val (.ref ad11), .unset, .unset, .unset] []) _
              refine Go.of (fun _ k => XS.iloadN X15.here hx rfl (hb hby at_151) rfl  k) ?_
              show Go p e below T15 (mkF m 152 #[.val (.int x0), .val (.int x1), .val (.int x2), .val (.int x3), .val (.int x4), .val (.int y2), .val (.int z2), .val (.int kd), .val (.ref ad1), .val (.ref ad11), .unset, .unset, .unset] [(.int x1)]) _
              refine Go.of (fun _ k => XS.iload X15.here hx rfl (hb hby at_152) rfl  k) ?_
              show Go p e below T15 (mkF m 154 #[.val (.int x0), .val (.int x1), .val (.int x2), .val (.int x3), .val (.int x4), .val (.int y2), .val (.int z2), .val (.int kd), .val (.ref ad1), .val (.ref ad11), .unset, .unset, .unset] [(.int z2), (.int x1)]) _
              obtain ⟨_, _, ⟨T18, L18, kq18, nq18⟩, -, X18, ⟨Lc18, hQ18, l18, y18, z18⟩, st18⟩ := Jvm.LawKit.callS X15 hx (y := (⟨"com/example/cascadex/cascadex/OfTextEqualsPinLaw", "same", "(II)Z"⟩ : MethodName)) hown (mvT hZ (hw _ (List.mem_of_getElem? (i := 59) rfl))) (mvT hZ (hw _ (List.mem_of_getElem? (i := 60) rfl))) (mvT hZ (hw _ (List.mem_of_getElem? (i := 5) rfl))) (mvT hZ (hw _ (List.mem_of_getElem? (i := 61) rfl))) (by decide) (backOf (W := 0) (rm12 l Z a0 hw [] x1 z2 T14.heap n0 Z0 ) hZ (hw _ (List.mem_of_getElem? (i := 61) rfl)) (hw _ (List.mem_of_getElem? (i := 5) rfl)) (by decide) (by decide)) (g := (mkF m 154 #[.val (.int x0), .val (.int x1), .val (.int x2), .val (.int x3), .val (.int x4), .val (.int y2), .val (.int z2), .val (.int kd), .val (.ref ad1), .val (.ref ad11), .unset, .unset, .unset] [(.int z2), (.int x1)])) rfl (by rw [hml]; rfl) (argsL := [(.int x1), (.int z2)]) (rest := []) (lenOf own_pd14 rfl) rfl (by show 2 * 0 + _ ≤ _; exact Nat.le_of_eq rfl) (hb hby at_154) (fun _ _ => ⟨rfl, e15, (by decide : 26 + 0 ≤ _), (by decide : 80 + 0 ≤ _)⟩)
              dsimp only [Pt.U, Pt.locs, Pt.cells, Pt.slots] at X18 l18 y18 z18 st18 hQ18
              subst l18 y18 z18
              obtain ⟨rfl, Nq18, e18⟩ := hQ18
              have e18 := e18.trans rfl
              have N18 := Fr.app N15 Nq18
              refine Go.of (fun _ k => st18 _ k) ?_
              show Go p e below T18 (mkF m 157 #[.val (.int x0), .val (.int x1), .val (.int x2), .val (.int x3), .val (.int x4), .val (.int y2), .val (.int z2), .val (.int kd), .val (.ref ad1), .val (.ref ad11), .unset, .unset, .unset] [(.int (fSame x1 z2))]) _
              by_cases hc157_4 : (fSame x1 z2) = (0 : Int32)
              · refine Go.of (fun _ k => XS.ifYes X18.here hx rfl (pc0 := 157) (pc' := 164) rfl (hb hby at_157) rfl ((if0 _ _).trans (teq hc157_4).1) (by decide) (by decide) k) ?_
                show Go p e below T18 (mkF m 164 #[.val (.int x0), .val (.int x1), .val (.int x2), .val (.int x3), .val (.int x4), .val (.int y2), .val (.int z2), .val (.int kd), .val (.ref ad1), .val (.ref ad11), .unset, .unset, .unset] []) _
                refine Go.of (fun _ k => XS.iconst X18.here hx rfl (hb hby at_164) k) ?_
                show Go p e below T18 (mkF m 165 #[.val (.int x0), .val (.int x1), .val (.int x2), .val (.int x3), .val (.int x4), .val (.int y2), .val (.int z2), .val (.int kd), .val (.ref ad1), .val (.ref ad11), .unset, .unset, .unset] [(.int (0 : Int32))]) _
                refine Go.of (fun _ k => XS.istore X18.here hx rfl (hb hby at_165) rfl (l' := #[.val (.int x0), .val (.int x1), .val (.int x2), .val (.int x3), .val (.int x4), .val (.int y2), .val (.int z2), .val (.int kd), .val (.ref ad1), .val (.ref ad11), .val (.int (0 : Int32)), .unset, .unset]) rfl k) ?_
                show Go p e below T18 (mkF m 167 #[.val (.int x0), .val (.int x1), .val (.int x2), .val (.int x3), .val (.int x4), .val (.int y2), .val (.int z2), .val (.int kd), .val (.ref ad1), .val (.ref ad11), .val (.int (0 : Int32)), .unset, .unset] []) _
                refine Go.of (fun _ k => XS.aload X18.here hx rfl (hb hby at_167) rfl rfl  k) ?_
                show Go p e below T18 (mkF m 169 #[.val (.int x0), .val (.int x1), .val (.int x2), .val (.int x3), .val (.int x4), .val (.int y2), .val (.int z2), .val (.int kd), .val (.ref ad1), .val (.ref ad11), .val (.int (0 : Int32)), .unset, .unset] [(.ref ad1)]) _
                refine Go.of (fun _ k => XS.aload X18.here hx rfl (hb hby at_169) rfl rfl  k) ?_
                show Go p e below T18 (mkF m 171 #[.val (.int x0), .val (.int x1), .val (.int x2), .val (.int x3), .val (.int x4), .val (.int y2), .val (.int z2), .val (.int kd), .val (.ref ad1), .val (.ref ad11), .val (.int (0 : Int32)), .unset, .unset] [(.ref ad11), (.ref ad1)]) _
                obtain ⟨cq19, kq19, q19a, q19b, q19c⟩ := isOf hZ e18 E_ad1
                obtain ⟨_, _, ⟨T19, L19, kq19, nq19⟩, -, X19, ⟨Lc19, hQ19, l19, y19, z19⟩, st19⟩ := X18.virtualBack hx (y := (⟨"com/example/cascadex/cascadex/Letter$OfText", "equals", "(Ljava/lang/Object;)Z"⟩ : MethodName)) (z := (⟨"com/example/cascadex/cascadex/Letter$OfText", "equals", "(Ljava/lang/Object;)Z"⟩ : MethodName)) hown (mvT hZ (hw _ (List.mem_of_getElem? (i := 62) rfl))) (mvT hZ (hw _ (List.mem_of_getElem? (i := 63) rfl))) (notFace_of_selects (args := #[]) (mvT hZ (hw _ (List.mem_of_getElem? (i := 65) rfl)))) (mvT hZ (hw _ (List.mem_of_getElem? (i := 65) rfl))) (mvT hZ (hw _ (List.mem_of_getElem? (i := 64) rfl))) (by decide) (backOf (W := 0) (rmE2 l Z a0 hw [] ad1 ad11 s1 s2 s3 s4 ts1 ts2 ts3 ts4 ks1 ks2 ks3 ks4 (fStr x0) (fStr x1) (fStr y2) (fStr z2) zc T14.heap n0 Z0 OL O2 hzc E_ad11 F_type_ad1 F_text_ad1 F_type_ad11 F_text_ad11 Es_s1 Fc_s1 Fv_s1 Vs_s1 (own_len3 _).2 (own_len3 _).1 Es_s2 Fc_s2 Fv_s2 Vs_s2 (own_len3 _).2 (own_len3 _).1 Es_s3 Fc_s3 Fv_s3 Vs_s3 (own_len3 _).2 (own_len3 _).1 Es_s4 Fc_s4 Fv_s4 Vs_s4 (own_len3 _).2 (own_len3 _).1) hZ (hw _ (List.mem_of_getElem? (i := 66) rfl)) (hw _ (List.mem_of_getElem? (i := 2) rfl)) (by decide) (by decide)) q19a q19c (g := (mkF m 171 #[.val (.int x0), .val (.int x1), .val (.int x2), .val (.int x3), .val (.int x4), .val (.int y2), .val (.int z2), .val (.int kd), .val (.ref ad1), .val (.ref ad11), .val (.int (0 : Int32)), .unset, .unset] [(.ref ad11), (.ref ad1)])) rfl (by rw [hml]; rfl) (Steps.refl _) (argsL := [(.ref ad11)]) (rest := []) (lenOf own_pd5 rfl) rfl (by show 2 * 0 + _ ≤ _; exact Nat.le_of_eq rfl) (hb hby at_171) (fun _ _ => ⟨rfl, e18, (by decide : 26 + 0 ≤ _), (by decide : 80 + 0 ≤ _)⟩)
                dsimp only [Pt.U, Pt.locs, Pt.cells, Pt.slots] at X19 l19 y19 z19 st19 hQ19
                subst l19 y19 z19
                obtain ⟨rfl, Nq19, e19⟩ := hQ19
                have N19 := Fr.app N18 Nq19
                refine Go.of (fun _ k => st19.trans k) ?_
                show Go p e below T19 (mkF m 174 #[.val (.int x0), .val (.int x1), .val (.int x2), .val (.int x3), .val (.int x4), .val (.int y2), .val (.int z2), .val (.int kd), .val (.ref ad1), .val (.ref ad11), .val (.int (0 : Int32)), .unset, .unset] [(.int (fEq (fStr x0) (fStr x1) (fStr y2) (fStr z2)))]) _
                refine Go.of (fun _ k => XS.istore X19.here hx rfl (hb hby at_174) rfl (l' := #[.val (.int x0), .val (.int x1), .val (.int x2), .val (.int x3), .val (.int x4), .val (.int y2), .val (.int z2), .val (.int kd), .val (.ref ad1), .val (.ref ad11), .val (.int (0 : Int32)), .val (.int (fEq (fStr x0) (fStr x1) (fStr y2) (fStr z2))), .unset]) rfl k) ?_
                show Go p e below T19 (mkF m 176 #[.val (.int x0), .val (.int x1), .val (.int x2), .val (.int x3), .val (.int x4), .val (.int y2), .val (.int z2), .val (.int kd), .val (.ref ad1), .val (.ref ad11), .val (.int (0 : Int32)), .val (.int (fEq (fStr x0) (fStr x1) (fStr y2) (fStr z2))), .unset] []) _
                refine Go.of (fun _ k => XS.aload X19.here hx rfl (hb hby at_176) rfl rfl  k) ?_
                show Go p e below T19 (mkF m 178 #[.val (.int x0), .val (.int x1), .val (.int x2), .val (.int x3), .val (.int x4), .val (.int y2), .val (.int z2), .val (.int kd), .val (.ref ad1), .val (.ref ad11), .val (.int (0 : Int32)), .val (.int (fEq (fStr x0) (fStr x1) (fStr y2) (fStr z2))), .unset] [(.ref ad11)]) _
                refine Go.of (fun _ k => XS.aload X19.here hx rfl (hb hby at_178) rfl rfl  k) ?_
                show Go p e below T19 (mkF m 180 #[.val (.int x0), .val (.int x1), .val (.int x2), .val (.int x3), .val (.int x4), .val (.int y2), .val (.int z2), .val (.int kd), .val (.ref ad1), .val (.ref ad11), .val (.int (0 : Int32)), .val (.int (fEq (fStr x0) (fStr x1) (fStr y2) (fStr z2))), .unset] [(.ref ad1), (.ref ad11)]) _
                obtain ⟨cq20, kq20, q20a, q20b, q20c⟩ := isOf hZ e19 E_ad11
                obtain ⟨_, _, ⟨T20, L20, kq20, nq20⟩, -, X20, ⟨Lc20, hQ20, l20, y20, z20⟩, st20⟩ := X19.virtualBack hx (y := (⟨"com/example/cascadex/cascadex/Letter$OfText", "equals", "(Ljava/lang/Object;)Z"⟩ : MethodName)) (z := (⟨"com/example/cascadex/cascadex/Letter$OfText", "equals", "(Ljava/lang/Object;)Z"⟩ : MethodName)) hown (mvT hZ (hw _ (List.mem_of_getElem? (i := 62) rfl))) (mvT hZ (hw _ (List.mem_of_getElem? (i := 63) rfl))) (notFace_of_selects (args := #[]) (mvT hZ (hw _ (List.mem_of_getElem? (i := 65) rfl)))) (mvT hZ (hw _ (List.mem_of_getElem? (i := 65) rfl))) (mvT hZ (hw _ (List.mem_of_getElem? (i := 64) rfl))) (by decide) (backOf (W := 0) (rmE2 l Z a0 hw [] ad11 ad1 s3 s4 s1 s2 ts3 ts4 ts1 ts2 ks3 ks4 ks1 ks2 (fStr y2) (fStr z2) (fStr x0) (fStr x1) zc T14.heap n0 Z0 OL O2 hzc E_ad1 F_type_ad11 F_text_ad11 F_type_ad1 F_text_ad1 Es_s3 Fc_s3 Fv_s3 Vs_s3 (own_len3 _).2 (own_len3 _).1 Es_s4 Fc_s4 Fv_s4 Vs_s4 (own_len3 _).2 (own_len3 _).1 Es_s1 Fc_s1 Fv_s1 Vs_s1 (own_len3 _).2 (own_len3 _).1 Es_s2 Fc_s2 Fv_s2 Vs_s2 (own_len3 _).2 (own_len3 _).1) hZ (hw _ (List.mem_of_getElem? (i := 66) rfl)) (hw _ (List.mem_of_getElem? (i := 2) rfl)) (by decide) (by decide)) q20a q20c (g := (mkF m 180 #[.val (.int x0), .val (.int x1), .val (.int x2), .val (.int x3), .val (.int x4), .val (.int y2), .val (.int z2), .val (.int kd), .val (.ref ad1), .val (.ref ad11), .val (.int (0 : Int32)), .val (.int (fEq (fStr x0) (fStr x1) (fStr y2) (fStr z2))), .unset] [(.ref ad1), (.ref ad11)])) rfl (by rw [hml]; rfl) (Steps.refl _) (argsL := [(.ref ad1)]) (rest := []) (lenOf own_pd5 rfl) rfl (by show 2 * 0 + _ ≤ _; exact Nat.le_of_eq rfl) (hb hby at_180) (fun _ _ => ⟨rfl, e19, (by decide : 26 + 0 ≤ _), (by decide : 80 + 0 ≤ _)⟩)
                dsimp only [Pt.U, Pt.locs, Pt.cells, Pt.slots] at X20 l20 y20 z20 st20 hQ20
                subst l20 y20 z20
                obtain ⟨rfl, Nq20, e20⟩ := hQ20
                have N20 := Fr.app N19 Nq20
                refine Go.of (fun _ k => st20.trans k) ?_
                show Go p e below T20 (mkF m 183 #[.val (.int x0), .val (.int x1), .val (.int x2), .val (.int x3), .val (.int x4), .val (.int y2), .val (.int z2), .val (.int kd), .val (.ref ad1), .val (.ref ad11), .val (.int (0 : Int32)), .val (.int (fEq (fStr x0) (fStr x1) (fStr y2) (fStr z2))), .unset] [(.int (fEq (fStr y2) (fStr z2) (fStr x0) (fStr x1)))]) _
                refine Go.of (fun _ k => XS.istore X20.here hx rfl (hb hby at_183) rfl (l' := #[.val (.int x0), .val (.int x1), .val (.int x2), .val (.int x3), .val (.int x4), .val (.int y2), .val (.int z2), .val (.int kd), .val (.ref ad1), .val (.ref ad11), .val (.int (0 : Int32)), .val (.int (fEq (fStr x0) (fStr x1) (fStr y2) (fStr z2))), .val (.int (fEq (fStr y2) (fStr z2) (fStr x0) (fStr x1)))]) rfl k) ?_
                show Go p e below T20 (mkF m 185 #[.val (.int x0), .val (.int x1), .val (.int x2), .val (.int x3), .val (.int x4), .val (.int y2), .val (.int z2), .val (.int kd), .val (.ref ad1), .val (.ref ad11), .val (.int (0 : Int32)), .val (.int (fEq (fStr x0) (fStr x1) (fStr y2) (fStr z2))), .val (.int (fEq (fStr y2) (fStr z2) (fStr x0) (fStr x1)))] []) _
                refine Go.of (fun _ k => XS.iload X20.here hx rfl (hb hby at_185) rfl  k) ?_
                show Go p e below T20 (mkF m 187 #[.val (.int x0), .val (.int x1), .val (.int x2), .val (.int x3), .val (.int x4), .val (.int y2), .val (.int z2), .val (.int kd), .val (.ref ad1), .val (.ref ad11), .val (.int (0 : Int32)), .val (.int (fEq (fStr x0) (fStr x1) (fStr y2) (fStr z2))), .val (.int (fEq (fStr y2) (fStr z2) (fStr x0) (fStr x1)))] [(.int (fEq (fStr x0) (fStr x1) (fStr y2) (fStr z2)))]) _
                refine Go.of (fun _ k => XS.iload X20.here hx rfl (hb hby at_187) rfl  k) ?_
                show Go p e below T20 (mkF m 189 #[.val (.int x0), .val (.int x1), .val (.int x2), .val (.int x3), .val (.int x4), .val (.int y2), .val (.int z2), .val (.int kd), .val (.ref ad1), .val (.ref ad11), .val (.int (0 : Int32)), .val (.int (fEq (fStr x0) (fStr x1) (fStr y2) (fStr z2))), .val (.int (fEq (fStr y2) (fStr z2) (fStr x0) (fStr x1)))] [(.int (0 : Int32)), (.int (fEq (fStr x0) (fStr x1) (fStr y2) (fStr z2)))]) _
                refine Go.of (fun _ k => XS.icmpNo X20.here hx rfl (hb hby at_189) rfl (teq (show (fEq (fStr x0) (fStr x1) (fStr y2) (fStr z2)) = (0 : Int32) from (by simp only [fEq, eq_true (own_fs.mp hc148_3), eq_true (own_fs.mp hc148_3).symm, eq_false (own_fs0.mp hc157_4), eq_false (fun z => own_fs0.mp hc157_4 (Eq.symm z)), if_true, if_false, ite_self]))).2 k) ?_
                show Go p e below T20 (mkF m 192 #[.val (.int x0), .val (.int x1), .val (.int x2), .val (.int x3), .val (.int x4), .val (.int y2), .val (.int z2), .val (.int kd), .val (.ref ad1), .val (.ref ad11), .val (.int (0 : Int32)), .val (.int (fEq (fStr x0) (fStr x1) (fStr y2) (fStr z2))), .val (.int (fEq (fStr y2) (fStr z2) (fStr x0) (fStr x1)))] []) _
                refine Go.of (fun _ k => XS.iload X20.here hx rfl (hb hby at_192) rfl  k) ?_
                show Go p e below T20 (mkF m 194 #[.val (.int x0), .val (.int x1), .val (.int x2), .val (.int x3), .val (.int x4), .val (.int y2), .val (.int z2), .val (.int kd), .val (.ref ad1), .val (.ref ad11), .val (.int (0 : Int32)), .val (.int (fEq (fStr x0) (fStr x1) (fStr y2) (fStr z2))), .val (.int (fEq (fStr y2) (fStr z2) (fStr x0) (fStr x1)))] [(.int (fEq (fStr y2) (fStr z2) (fStr x0) (fStr x1)))]) _
                refine Go.of (fun _ k => XS.iload X20.here hx rfl (hb hby at_194) rfl  k) ?_
                show Go p e below T20 (mkF m 196 #[.val (.int x0), .val (.int x1), .val (.int x2), .val (.int x3), .val (.int x4), .val (.int y2), .val (.int z2), .val (.int kd), .val (.ref ad1), .val (.ref ad11), .val (.int (0 : Int32)), .val (.int (fEq (fStr x0) (fStr x1) (fStr y2) (fStr z2))), .val (.int (fEq (fStr y2) (fStr z2) (fStr x0) (fStr x1)))] [(.int (0 : Int32)), (.int (fEq (fStr y2) (fStr z2) (fStr x0) (fStr x1)))]) _
                refine Go.of (fun _ k => XS.icmpYes X20.here hx rfl (pc0 := 196) (pc' := 201) rfl (hb hby at_196) rfl (teq (show (fEq (fStr y2) (fStr z2) (fStr x0) (fStr x1)) = (0 : Int32) from (by simp only [fEq, eq_true (own_fs.mp hc148_3), eq_true (own_fs.mp hc148_3).symm, eq_false (own_fs0.mp hc157_4), eq_false (fun z => own_fs0.mp hc157_4 (Eq.symm z)), if_true, if_false, ite_self]))).1 (by decide) (by decide) k) ?_
                show Go p e below T20 (mkF m 201 #[.val (.int x0), .val (.int x1), .val (.int x2), .val (.int x3), .val (.int x4), .val (.int y2), .val (.int z2), .val (.int kd), .val (.ref ad1), .val (.ref ad11), .val (.int (0 : Int32)), .val (.int (fEq (fStr x0) (fStr x1) (fStr y2) (fStr z2))), .val (.int (fEq (fStr y2) (fStr z2) (fStr x0) (fStr x1)))] []) _
                refine Go.of (fun _ k => XS.iload X20.here hx rfl (hb hby at_201) rfl  k) ?_
                show Go p e below T20 (mkF m 203 #[.val (.int x0), .val (.int x1), .val (.int x2), .val (.int x3), .val (.int x4), .val (.int y2), .val (.int z2), .val (.int kd), .val (.ref ad1), .val (.ref ad11), .val (.int (0 : Int32)), .val (.int (fEq (fStr x0) (fStr x1) (fStr y2) (fStr z2))), .val (.int (fEq (fStr y2) (fStr z2) (fStr x0) (fStr x1)))] [(.int (0 : Int32))]) _
                refine Go.of (fun _ k => XS.ifYes X20.here hx rfl (pc0 := 203) (pc' := 219) rfl (hb hby at_203) rfl ((if0 _ _).trans (teq (show (0 : Int32) = (0 : Int32) from (by decide))).1) (by decide) (by decide) k) ?_
                show Go p e below T20 (mkF m 219 #[.val (.int x0), .val (.int x1), .val (.int x2), .val (.int x3), .val (.int x4), .val (.int y2), .val (.int z2), .val (.int kd), .val (.ref ad1), .val (.ref ad11), .val (.int (0 : Int32)), .val (.int (fEq (fStr x0) (fStr x1) (fStr y2) (fStr z2))), .val (.int (fEq (fStr y2) (fStr z2) (fStr x0) (fStr x1)))] []) _
                refine Go.of (fun _ k => XS.iconst X20.here hx rfl (hb hby at_219) k) ?_
                show Go p e below T20 (mkF m 220 #[.val (.int x0), .val (.int x1), .val (.int x2), .val (.int x3), .val (.int x4), .val (.int y2), .val (.int z2), .val (.int kd), .val (.ref ad1), .val (.ref ad11), .val (.int (0 : Int32)), .val (.int (fEq (fStr x0) (fStr x1) (fStr y2) (fStr z2))), .val (.int (fEq (fStr y2) (fStr z2) (fStr x0) (fStr x1)))] [(.int (1 : Int32))]) _
                refine Go.of (fun _ k => XS.goto X20.here hx rfl (pc0 := 220) (pc' := 224) rfl (hb hby at_220) (by decide) (by decide) k) ?_
                show Go p e below T20 (mkF m 224 #[.val (.int x0), .val (.int x1), .val (.int x2), .val (.int x3), .val (.int x4), .val (.int y2), .val (.int z2), .val (.int kd), .val (.ref ad1), .val (.ref ad11), .val (.int (0 : Int32)), .val (.int (fEq (fStr x0) (fStr x1) (fStr y2) (fStr z2))), .val (.int (fEq (fStr y2) (fStr z2) (fStr x0) (fStr x1)))] [(.int (1 : Int32))]) _
                refine Go.retNW X20 hx (t := .boolean) hret hlk (by simp) (hb hby at_224) e20 hS hk (by decide) (by decide) ?_
                exact ⟨rfl, N20⟩
              · refine Go.of (fun _ k => XS.ifNo X18.here hx rfl (hb hby at_157) rfl ((if0 _ _).trans (feq hc157_4).1) k) ?_
                show Go p e below T18 (mkF m 160 #[.val (.int x0), .val (.int x1), .val (.int x2), .val (.int x3), .val (.int x4), .val (.int y2), .val (.int z2), .val (.int kd), .val (.ref ad1), .val (.ref ad11), .unset, .unset, .unset] []) _
                refine Go.of (fun _ k => XS.iconst X18.here hx rfl (hb hby at_160) k) ?_
                show Go p e below T18 (mkF m 161 #[.val (.int x0), .val (.int x1), .val (.int x2), .val (.int x3), .val (.int x4), .val (.int y2), .val (.int z2), .val (.int kd), .val (.ref ad1), .val (.ref ad11), .unset, .unset, .unset] [(.int (1 : Int32))]) _
                refine Go.of (fun _ k => XS.goto X18.here hx rfl (pc0 := 161) (pc' := 165) rfl (hb hby at_161) (by decide) (by decide) k) ?_
                show Go p e below T18 (mkF m 165 #[.val (.int x0), .val (.int x1), .val (.int x2), .val (.int x3), .val (.int x4), .val (.int y2), .val (.int z2), .val (.int kd), .val (.ref ad1), .val (.ref ad11), .unset, .unset, .unset] [(.int (1 : Int32))]) _
                refine Go.of (fun _ k => XS.istore X18.here hx rfl (hb hby at_165) rfl (l' := #[.val (.int x0), .val (.int x1), .val (.int x2), .val (.int x3), .val (.int x4), .val (.int y2), .val (.int z2), .val (.int kd), .val (.ref ad1), .val (.ref ad11), .val (.int (1 : Int32)), .unset, .unset]) rfl k) ?_
                show Go p e below T18 (mkF m 167 #[.val (.int x0), .val (.int x1), .val (.int x2), .val (.int x3), .val (.int x4), .val (.int y2), .val (.int z2), .val (.int kd), .val (.ref ad1), .val (.ref ad11), .val (.int (1 : Int32)), .unset, .unset] []) _
                refine Go.of (fun _ k => XS.aload X18.here hx rfl (hb hby at_167) rfl rfl  k) ?_
                show Go p e below T18 (mkF m 169 #[.val (.int x0), .val (.int x1), .val (.int x2), .val (.int x3), .val (.int x4), .val (.int y2), .val (.int z2), .val (.int kd), .val (.ref ad1), .val (.ref ad11), .val (.int (1 : Int32)), .unset, .unset] [(.ref ad1)]) _
                refine Go.of (fun _ k => XS.aload X18.here hx rfl (hb hby at_169) rfl rfl  k) ?_
                show Go p e below T18 (mkF m 171 #[.val (.int x0), .val (.int x1), .val (.int x2), .val (.int x3), .val (.int x4), .val (.int y2), .val (.int z2), .val (.int kd), .val (.ref ad1), .val (.ref ad11), .val (.int (1 : Int32)), .unset, .unset] [(.ref ad11), (.ref ad1)]) _
                obtain ⟨cq21, kq21, q21a, q21b, q21c⟩ := isOf hZ e18 E_ad1
                obtain ⟨_, _, ⟨T21, L21, kq21, nq21⟩, -, X21, ⟨Lc21, hQ21, l21, y21, z21⟩, st21⟩ := X18.virtualBack hx (y := (⟨"com/example/cascadex/cascadex/Letter$OfText", "equals", "(Ljava/lang/Object;)Z"⟩ : MethodName)) (z := (⟨"com/example/cascadex/cascadex/Letter$OfText", "equals", "(Ljava/lang/Object;)Z"⟩ : MethodName)) hown (mvT hZ (hw _ (List.mem_of_getElem? (i := 62) rfl))) (mvT hZ (hw _ (List.mem_of_getElem? (i := 63) rfl))) (notFace_of_selects (args := #[]) (mvT hZ (hw _ (List.mem_of_getElem? (i := 65) rfl)))) (mvT hZ (hw _ (List.mem_of_getElem? (i := 65) rfl))) (mvT hZ (hw _ (List.mem_of_getElem? (i := 64) rfl))) (by decide) (backOf (W := 0) (rmE2 l Z a0 hw [] ad1 ad11 s1 s2 s3 s4 ts1 ts2 ts3 ts4 ks1 ks2 ks3 ks4 (fStr x0) (fStr x1) (fStr y2) (fStr z2) zc T14.heap n0 Z0 OL O2 hzc E_ad11 F_type_ad1 F_text_ad1 F_type_ad11 F_text_ad11 Es_s1 Fc_s1 Fv_s1 Vs_s1 (own_len3 _).2 (own_len3 _).1 Es_s2 Fc_s2 Fv_s2 Vs_s2 (own_len3 _).2 (own_len3 _).1 Es_s3 Fc_s3 Fv_s3 Vs_s3 (own_len3 _).2 (own_len3 _).1 Es_s4 Fc_s4 Fv_s4 Vs_s4 (own_len3 _).2 (own_len3 _).1) hZ (hw _ (List.mem_of_getElem? (i := 66) rfl)) (hw _ (List.mem_of_getElem? (i := 2) rfl)) (by decide) (by decide)) q21a q21c (g := (mkF m 171 #[.val (.int x0), .val (.int x1), .val (.int x2), .val (.int x3), .val (.int x4), .val (.int y2), .val (.int z2), .val (.int kd), .val (.ref ad1), .val (.ref ad11), .val (.int (1 : Int32)), .unset, .unset] [(.ref ad11), (.ref ad1)])) rfl (by rw [hml]; rfl) (Steps.refl _) (argsL := [(.ref ad11)]) (rest := []) (lenOf own_pd5 rfl) rfl (by show 2 * 0 + _ ≤ _; exact Nat.le_of_eq rfl) (hb hby at_171) (fun _ _ => ⟨rfl, e18, (by decide : 26 + 0 ≤ _), (by decide : 80 + 0 ≤ _)⟩)
                dsimp only [Pt.U, Pt.locs, Pt.cells, Pt.slots] at X21 l21 y21 z21 st21 hQ21
                subst l21 y21 z21
                obtain ⟨rfl, Nq21, e21⟩ := hQ21
                have N21 := Fr.app N18 Nq21
                refine Go.of (fun _ k => st21.trans k) ?_
                show Go p e below T21 (mkF m 174 #[.val (.int x0), .val (.int x1), .val (.int x2), .val (.int x3), .val (.int x4), .val (.int y2), .val (.int z2), .val (.int kd), .val (.ref ad1), .val (.ref ad11), .val (.int (1 : Int32)), .unset, .unset] [(.int (fEq (fStr x0) (fStr x1) (fStr y2) (fStr z2)))]) _
                refine Go.of (fun _ k => XS.istore X21.here hx rfl (hb hby at_174) rfl (l' := #[.val (.int x0), .val (.int x1), .val (.int x2), .val (.int x3), .val (.int x4), .val (.int y2), .val (.int z2), .val (.int kd), .val (.ref ad1), .val (.ref ad11), .val (.int (1 : Int32)), .val (.int (fEq (fStr x0) (fStr x1) (fStr y2) (fStr z2))), .unset]) rfl k) ?_
                show Go p e below T21 (mkF m 176 #[.val (.int x0), .val (.int x1), .val (.int x2), .val (.int x3), .val (.int x4), .val (.int y2), .val (.int z2), .val (.int kd), .val (.ref ad1), .val (.ref ad11), .val (.int (1 : Int32)), .val (.int (fEq (fStr x0) (fStr x1) (fStr y2) (fStr z2))), .unset] []) _
                refine Go.of (fun _ k => XS.aload X21.here hx rfl (hb hby at_176) rfl rfl  k) ?_
                show Go p e below T21 (mkF m 178 #[.val (.int x0), .val (.int x1), .val (.int x2), .val (.int x3), .val (.int x4), .val (.int y2), .val (.int z2), .val (.int kd), .val (.ref ad1), .val (.ref ad11), .val (.int (1 : Int32)), .val (.int (fEq (fStr x0) (fStr x1) (fStr y2) (fStr z2))), .unset] [(.ref ad11)]) _
                refine Go.of (fun _ k => XS.aload X21.here hx rfl (hb hby at_178) rfl rfl  k) ?_
                show Go p e below T21 (mkF m 180 #[.val (.int x0), .val (.int x1), .val (.int x2), .val (.int x3), .val (.int x4), .val (.int y2), .val (.int z2), .val (.int kd), .val (.ref ad1), .val (.ref ad11), .val (.int (1 : Int32)), .val (.int (fEq (fStr x0) (fStr x1) (fStr y2) (fStr z2))), .unset] [(.ref ad1), (.ref ad11)]) _
                obtain ⟨cq22, kq22, q22a, q22b, q22c⟩ := isOf hZ e21 E_ad11
                obtain ⟨_, _, ⟨T22, L22, kq22, nq22⟩, -, X22, ⟨Lc22, hQ22, l22, y22, z22⟩, st22⟩ := X21.virtualBack hx (y := (⟨"com/example/cascadex/cascadex/Letter$OfText", "equals", "(Ljava/lang/Object;)Z"⟩ : MethodName)) (z := (⟨"com/example/cascadex/cascadex/Letter$OfText", "equals", "(Ljava/lang/Object;)Z"⟩ : MethodName)) hown (mvT hZ (hw _ (List.mem_of_getElem? (i := 62) rfl))) (mvT hZ (hw _ (List.mem_of_getElem? (i := 63) rfl))) (notFace_of_selects (args := #[]) (mvT hZ (hw _ (List.mem_of_getElem? (i := 65) rfl)))) (mvT hZ (hw _ (List.mem_of_getElem? (i := 65) rfl))) (mvT hZ (hw _ (List.mem_of_getElem? (i := 64) rfl))) (by decide) (backOf (W := 0) (rmE2 l Z a0 hw [] ad11 ad1 s3 s4 s1 s2 ts3 ts4 ts1 ts2 ks3 ks4 ks1 ks2 (fStr y2) (fStr z2) (fStr x0) (fStr x1) zc T14.heap n0 Z0 OL O2 hzc E_ad1 F_type_ad11 F_text_ad11 F_type_ad1 F_text_ad1 Es_s3 Fc_s3 Fv_s3 Vs_s3 (own_len3 _).2 (own_len3 _).1 Es_s4 Fc_s4 Fv_s4 Vs_s4 (own_len3 _).2 (own_len3 _).1 Es_s1 Fc_s1 Fv_s1 Vs_s1 (own_len3 _).2 (own_len3 _).1 Es_s2 Fc_s2 Fv_s2 Vs_s2 (own_len3 _).2 (own_len3 _).1) hZ (hw _ (List.mem_of_getElem? (i := 66) rfl)) (hw _ (List.mem_of_getElem? (i := 2) rfl)) (by decide) (by decide)) q22a q22c (g := (mkF m 180 #[.val (.int x0), .val (.int x1), .val (.int x2), .val (.int x3), .val (.int x4), .val (.int y2), .val (.int z2), .val (.int kd), .val (.ref ad1), .val (.ref ad11), .val (.int (1 : Int32)), .val (.int (fEq (fStr x0) (fStr x1) (fStr y2) (fStr z2))), .unset] [(.ref ad1), (.ref ad11)])) rfl (by rw [hml]; rfl) (Steps.refl _) (argsL := [(.ref ad1)]) (rest := []) (lenOf own_pd5 rfl) rfl (by show 2 * 0 + _ ≤ _; exact Nat.le_of_eq rfl) (hb hby at_180) (fun _ _ => ⟨rfl, e21, (by decide : 26 + 0 ≤ _), (by decide : 80 + 0 ≤ _)⟩)
                dsimp only [Pt.U, Pt.locs, Pt.cells, Pt.slots] at X22 l22 y22 z22 st22 hQ22
                subst l22 y22 z22
                obtain ⟨rfl, Nq22, e22⟩ := hQ22
                have N22 := Fr.app N21 Nq22
                refine Go.of (fun _ k => st22.trans k) ?_
                show Go p e below T22 (mkF m 183 #[.val (.int x0), .val (.int x1), .val (.int x2), .val (.int x3), .val (.int x4), .val (.int y2), .val (.int z2), .val (.int kd), .val (.ref ad1), .val (.ref ad11), .val (.int (1 : Int32)), .val (.int (fEq (fStr x0) (fStr x1) (fStr y2) (fStr z2))), .unset] [(.int (fEq (fStr y2) (fStr z2) (fStr x0) (fStr x1)))]) _
                refine Go.of (fun _ k => XS.istore X22.here hx rfl (hb hby at_183) rfl (l' := #[.val (.int x0), .val (.int x1), .val (.int x2), .val (.int x3), .val (.int x4), .val (.int y2), .val (.int z2), .val (.int kd), .val (.ref ad1), .val (.ref ad11), .val (.int (1 : Int32)), .val (.int (fEq (fStr x0) (fStr x1) (fStr y2) (fStr z2))), .val (.int (fEq (fStr y2) (fStr z2) (fStr x0) (fStr x1)))]) rfl k) ?_
                show Go p e below T22 (mkF m 185 #[.val (.int x0), .val (.int x1), .val (.int x2), .val (.int x3), .val (.int x4), .val (.int y2), .val (.int z2), .val (.int kd), .val (.ref ad1), .val (.ref ad11), .val (.int (1 : Int32)), .val (.int (fEq (fStr x0) (fStr x1) (fStr y2) (fStr z2))), .val (.int (fEq (fStr y2) (fStr z2) (fStr x0) (fStr x1)))] []) _
                refine Go.of (fun _ k => XS.iload X22.here hx rfl (hb hby at_185) rfl  k) ?_
                show Go p e below T22 (mkF m 187 #[.val (.int x0), .val (.int x1), .val (.int x2), .val (.int x3), .val (.int x4), .val (.int y2), .val (.int z2), .val (.int kd), .val (.ref ad1), .val (.ref ad11), .val (.int (1 : Int32)), .val (.int (fEq (fStr x0) (fStr x1) (fStr y2) (fStr z2))), .val (.int (fEq (fStr y2) (fStr z2) (fStr x0) (fStr x1)))] [(.int (fEq (fStr x0) (fStr x1) (fStr y2) (fStr z2)))]) _
                refine Go.of (fun _ k => XS.iload X22.here hx rfl (hb hby at_187) rfl  k) ?_
                show Go p e below T22 (mkF m 189 #[.val (.int x0), .val (.int x1), .val (.int x2), .val (.int x3), .val (.int x4), .val (.int y2), .val (.int z2), .val (.int kd), .val (.ref ad1), .val (.ref ad11), .val (.int (1 : Int32)), .val (.int (fEq (fStr x0) (fStr x1) (fStr y2) (fStr z2))), .val (.int (fEq (fStr y2) (fStr z2) (fStr x0) (fStr x1)))] [(.int (1 : Int32)), (.int (fEq (fStr x0) (fStr x1) (fStr y2) (fStr z2)))]) _
                refine Go.of (fun _ k => XS.icmpNo X22.here hx rfl (hb hby at_189) rfl (teq (show (fEq (fStr x0) (fStr x1) (fStr y2) (fStr z2)) = (1 : Int32) from (by simp only [fEq, eq_true (own_fs.mp hc148_3), eq_true (own_fs.mp hc148_3).symm, eq_true (own_fs.mp hc157_4), eq_true (own_fs.mp hc157_4).symm, if_true, if_false, ite_self]))).2 k) ?_
                show Go p e below T22 (mkF m 192 #[.val (.int x0), .val (.int x1), .val (.int x2), .val (.int x3), .val (.int x4), .val (.int y2), .val (.int z2), .val (.int kd), .val (.ref ad1), .val (.ref ad11), .val (.int (1 : Int32)), .val (.int (fEq (fStr x0) (fStr x1) (fStr y2) (fStr z2))), .val (.int (fEq (fStr y2) (fStr z2) (fStr x0) (fStr x1)))] []) _
                refine Go.of (fun _ k => XS.iload X22.here hx rfl (hb hby at_192) rfl  k) ?_
                show Go p e below T22 (mkF m 194 #[.val (.int x0), .val (.int x1), .val (.int x2), .val (.int x3), .val (.int x4), .val (.int y2), .val (.int z2), .val (.int kd), .val (.ref ad1), .val (.ref ad11), .val (.int (1 : Int32)), .val (.int (fEq (fStr x0) (fStr x1) (fStr y2) (fStr z2))), .val (.int (fEq (fStr y2) (fStr z2) (fStr x0) (fStr x1)))] [(.int (fEq (fStr y2) (fStr z2) (fStr x0) (fStr x1)))]) _
                refine Go.of (fun _ k => XS.iload X22.here hx rfl (hb hby at_194) rfl  k) ?_
                show Go p e below T22 (mkF m 196 #[.val (.int x0), .val (.int x1), .val (.int x2), .val (.int x3), .val (.int x4), .val (.int y2), .val (.int z2), .val (.int kd), .val (.ref ad1), .val (.ref ad11), .val (.int (1 : Int32)), .val (.int (fEq (fStr x0) (fStr x1) (fStr y2) (fStr z2))), .val (.int (fEq (fStr y2) (fStr z2) (fStr x0) (fStr x1)))] [(.int (1 : Int32)), (.int (fEq (fStr y2) (fStr z2) (fStr x0) (fStr x1)))]) _
                refine Go.of (fun _ k => XS.icmpYes X22.here hx rfl (pc0 := 196) (pc' := 201) rfl (hb hby at_196) rfl (teq (show (fEq (fStr y2) (fStr z2) (fStr x0) (fStr x1)) = (1 : Int32) from (by simp only [fEq, eq_true (own_fs.mp hc148_3), eq_true (own_fs.mp hc148_3).symm, eq_true (own_fs.mp hc157_4), eq_true (own_fs.mp hc157_4).symm, if_true, if_false, ite_self]))).1 (by decide) (by decide) k) ?_
                show Go p e below T22 (mkF m 201 #[.val (.int x0), .val (.int x1), .val (.int x2), .val (.int x3), .val (.int x4), .val (.int y2), .val (.int z2), .val (.int kd), .val (.ref ad1), .val (.ref ad11), .val (.int (1 : Int32)), .val (.int (fEq (fStr x0) (fStr x1) (fStr y2) (fStr z2))), .val (.int (fEq (fStr y2) (fStr z2) (fStr x0) (fStr x1)))] []) _
                refine Go.of (fun _ k => XS.iload X22.here hx rfl (hb hby at_201) rfl  k) ?_
                show Go p e below T22 (mkF m 203 #[.val (.int x0), .val (.int x1), .val (.int x2), .val (.int x3), .val (.int x4), .val (.int y2), .val (.int z2), .val (.int kd), .val (.ref ad1), .val (.ref ad11), .val (.int (1 : Int32)), .val (.int (fEq (fStr x0) (fStr x1) (fStr y2) (fStr z2))), .val (.int (fEq (fStr y2) (fStr z2) (fStr x0) (fStr x1)))] [(.int (1 : Int32))]) _
                refine Go.of (fun _ k => XS.ifNo X22.here hx rfl (hb hby at_203) rfl ((if0 _ _).trans (feq (show ¬ ((1 : Int32) = (0 : Int32)) from (by decide))).1) k) ?_
                show Go p e below T22 (mkF m 206 #[.val (.int x0), .val (.int x1), .val (.int x2), .val (.int x3), .val (.int x4), .val (.int y2), .val (.int z2), .val (.int kd), .val (.ref ad1), .val (.ref ad11), .val (.int (1 : Int32)), .val (.int (fEq (fStr x0) (fStr x1) (fStr y2) (fStr z2))), .val (.int (fEq (fStr y2) (fStr z2) (fStr x0) (fStr x1)))] []) _
                refine Go.of (fun _ k => XS.aload X22.here hx rfl (hb hby at_206) rfl rfl  k) ?_
                show Go p e below T22 (mkF m 208 #[.val (.int x0), .val (.int x1), .val (.int x2), .val (.int x3), .val (.int x4), .val (.int y2), .val (.int z2), .val (.int kd), .val (.ref ad1), .val (.ref ad11), .val (.int (1 : Int32)), .val (.int (fEq (fStr x0) (fStr x1) (fStr y2) (fStr z2))), .val (.int (fEq (fStr y2) (fStr z2) (fStr x0) (fStr x1)))] [(.ref ad1)]) _
                obtain ⟨cq23, kq23, q23a, q23b, q23c⟩ := isOf hZ e22 E_ad1
                obtain ⟨_, _, ⟨T23, L23, kq23, nq23⟩, -, X23, ⟨Lc23, hQ23, l23, y23, z23⟩, st23⟩ := X22.virtualBack hx (y := (⟨"com/example/cascadex/cascadex/Letter$OfText", "hashCode", "()I"⟩ : MethodName)) (z := (⟨"com/example/cascadex/cascadex/Letter$OfText", "hashCode", "()I"⟩ : MethodName)) hown (mvT hZ (hw _ (List.mem_of_getElem? (i := 91) rfl))) (mvT hZ (hw _ (List.mem_of_getElem? (i := 92) rfl))) (notFace_of_selects (args := #[]) (mvT hZ (hw _ (List.mem_of_getElem? (i := 94) rfl)))) (mvT hZ (hw _ (List.mem_of_getElem? (i := 94) rfl))) (mvT hZ (hw _ (List.mem_of_getElem? (i := 93) rfl))) (by decide) (backOf (W := 0) (rm17 l Z a0 hw [] ad1 s1 s2 ts1 ts2 ks1 ks2 (fStr x0) (fStr x1) zc T14.heap n0 Z0 OL O2 hzc E_ad1 F_type_ad1 F_text_ad1 Es_s1 Fc_s1 Fv_s1 Vs_s1 (own_len3 _).2 (own_len3 _).1 Fh_s1 Fz_s1 fk_s1 ge_s1 Es_s2 Fc_s2 Fv_s2 Vs_s2 (own_len3 _).2 (own_len3 _).1 Fh_s2 Fz_s2 fk_s2 ge_s2 ne_s1_s2) hZ (hw _ (List.mem_of_getElem? (i := 95) rfl)) (hw _ (List.mem_of_getElem? (i := 2) rfl)) (by decide) (by decide)) q23a q23c (g := (mkF m 208 #[.val (.int x0), .val (.int x1), .val (.int x2), .val (.int x3), .val (.int x4), .val (.int y2), .val (.int z2), .val (.int kd), .val (.ref ad1), .val (.ref ad11), .val (.int (1 : Int32)), .val (.int (fEq (fStr x0) (fStr x1) (fStr y2) (fStr z2))), .val (.int (fEq (fStr y2) (fStr z2) (fStr x0) (fStr x1)))] [(.ref ad1)])) rfl (by rw [hml]; rfl) (Steps.refl _) (argsL := []) (rest := []) (lenOf own_pd10 rfl) rfl (by show 2 * 0 + _ ≤ _; exact Nat.le_of_eq rfl) (hb hby at_208) (fun _ _ => ⟨rfl, e22, (by decide : 26 + 0 ≤ _), (by decide : 80 + 0 ≤ _)⟩)
                dsimp only [Pt.U, Pt.locs, Pt.cells, Pt.slots] at X23 l23 y23 z23 st23 hQ23
                subst l23 y23 z23
                obtain ⟨rfl, Nq23, Kq23⟩ := hQ23
                have N23 := Fr.app N22 Nq23
                have hk := Nat.le_trans hk Kq23.1
                have Z0 := Nat.le_trans Z0 Kq23.1
                have OL := OL.keep Kq23 (allS ge_s1 (allS ge_s2 all0))
                have Es_s1 := Es_s1.keep Kq23
                have Vs_s1 := Vs_s1.keep Kq23 (ninS (Ne.symm nv_s1_ts1) (ninS ne_ts1_s2 nin0))
                have Es_s2 := Es_s2.keep Kq23
                have Vs_s2 := Vs_s2.keep Kq23 (ninS (Ne.symm nv_s1_ts2) (ninS (Ne.symm nv_s2_ts2) nin0))
                have E_ad1 := E_ad1.keep Kq23
                have F_type_ad1 := F_type_ad1.keep Kq23 (ninS ne_ad1_s1 (ninS ne_ad1_s2 nin0))
                have F_text_ad1 := F_text_ad1.keep Kq23 (ninS ne_ad1_s1 (ninS ne_ad1_s2 nin0))
                have Es_s3 := Es_s3.keep Kq23
                have Fc_s3 := Fc_s3.keep Kq23 (ninS (Ne.symm ne_s1_s3) (ninS (Ne.symm ne_s2_s3) nin0))
                have Fv_s3 := Fv_s3.keep Kq23 (ninS (Ne.symm ne_s1_s3) (ninS (Ne.symm ne_s2_s3) nin0))
                have Fh_s3 := Fh_s3.keep Kq23 (ninS (Ne.symm ne_s1_s3) (ninS (Ne.symm ne_s2_s3) nin0))
                have Fz_s3 := Fz_s3.keep Kq23 (ninS (Ne.symm ne_s1_s3) (ninS (Ne.symm ne_s2_s3) nin0))
                have Vs_s3 := Vs_s3.keep Kq23 (ninS (Ne.symm nv_s1_ts3) (ninS (Ne.symm nv_s2_ts3) nin0))
                have Es_s4 := Es_s4.keep Kq23
                have Fc_s4 := Fc_s4.keep Kq23 (ninS (Ne.symm ne_s1_s4) (ninS (Ne.symm ne_s2_s4) nin0))
                have Fv_s4 := Fv_s4.keep Kq23 (ninS (Ne.symm ne_s1_s4) (ninS (Ne.symm ne_s2_s4) nin0))
                have Fh_s4 := Fh_s4.keep Kq23 (ninS (Ne.symm ne_s1_s4) (ninS (Ne.symm ne_s2_s4) nin0))
                have Fz_s4 := Fz_s4.keep Kq23 (ninS (Ne.symm ne_s1_s4) (ninS (Ne.symm ne_s2_s4) nin0))
                have Vs_s4 := Vs_s4.keep Kq23 (ninS (Ne.symm nv_s1_ts4) (ninS (Ne.symm nv_s2_ts4) nin0))
                have E_ad11 := E_ad11.keep Kq23
                have F_type_ad11 := F_type_ad11.keep Kq23 (ninS (Ne.symm ne_s1_ad11) (ninS (Ne.symm ne_s2_ad11) nin0))
                have F_text_ad11 := F_text_ad11.keep Kq23 (ninS (Ne.symm ne_s1_ad11) (ninS (Ne.symm ne_s2_ad11) nin0))
                refine Go.of (fun _ k => st23.trans k) ?_
                show Go p e below T23 (mkF m 211 #[.val (.int x0), .val (.int x1), .val (.int x2), .val (.int x3), .val (.int x4), .val (.int y2), .val (.int z2), .val (.int kd), .val (.ref ad1), .val (.ref ad11), .val (.int (1 : Int32)), .val (.int (fEq (fStr x0) (fStr x1) (fStr y2) (fStr z2))), .val (.int (fEq (fStr y2) (fStr z2) (fStr x0) (fStr x1)))] [(.int ((31 : Int32) * fHs (fStr x0) + fHs (fStr x1)))]) _
                refine Go.of (fun _ k => XS.aload X23.here hx rfl (hb hby at_211) rfl rfl  k) ?_
                show Go p e below T23 (mkF m 213 #[.val (.int x0), .val (.int x1), .val (.int x2), .val (.int x3), .val (.int x4), .val (.int y2), .val (.int z2), .val (.int kd), .val (.ref ad1), .val (.ref ad11), .val (.int (1 : Int32)), .val (.int (fEq (fStr x0) (fStr x1) (fStr y2) (fStr z2))), .val (.int (fEq (fStr y2) (fStr z2) (fStr x0) (fStr x1)))] [(.ref ad11), (.int ((31 : Int32) * fHs (fStr x0) + fHs (fStr x1)))]) _
                obtain ⟨cq24, kq24, q24a, q24b, q24c⟩ := isOf hZ rfl E_ad11
                obtain ⟨_, _, ⟨T24, L24, kq24, nq24⟩, -, X24, ⟨Lc24, hQ24, l24, y24, z24⟩, st24⟩ := X23.virtualBack hx (y := (⟨"com/example/cascadex/cascadex/Letter$OfText", "hashCode", "()I"⟩ : MethodName)) (z := (⟨"com/example/cascadex/cascadex/Letter$OfText", "hashCode", "()I"⟩ : MethodName)) hown (mvT hZ (hw _ (List.mem_of_getElem? (i := 91) rfl))) (mvT hZ (hw _ (List.mem_of_getElem? (i := 92) rfl))) (notFace_of_selects (args := #[]) (mvT hZ (hw _ (List.mem_of_getElem? (i := 94) rfl)))) (mvT hZ (hw _ (List.mem_of_getElem? (i := 94) rfl))) (mvT hZ (hw _ (List.mem_of_getElem? (i := 93) rfl))) (by decide) (backOf (W := 1) (rm17 l Z a0 hw [] ad11 s3 s4 ts3 ts4 ks3 ks4 (fStr y2) (fStr z2) zc T23.heap n0 Z0 OL O2 hzc E_ad11 F_type_ad11 F_text_ad11 Es_s3 Fc_s3 Fv_s3 Vs_s3 (own_len3 _).2 (own_len3 _).1 Fh_s3 Fz_s3 fk_s3 ge_s3 Es_s4 Fc_s4 Fv_s4 Vs_s4 (own_len3 _).2 (own_len3 _).1 Fh_s4 Fz_s4 fk_s4 ge_s4 ne_s3_s4) hZ (hw _ (List.mem_of_getElem? (i := 95) rfl)) (hw _ (List.mem_of_getElem? (i := 2) rfl)) (by decide) (by decide)) q24a q24c (g := (mkF m 213 #[.val (.int x0), .val (.int x1), .val (.int x2), .val (.int x3), .val (.int x4), .val (.int y2), .val (.int z2), .val (.int kd), .val (.ref ad1), .val (.ref ad11), .val (.int (1 : Int32)), .val (.int (fEq (fStr x0) (fStr x1) (fStr y2) (fStr z2))), .val (.int (fEq (fStr y2) (fStr z2) (fStr x0) (fStr x1)))] [(.ref ad11), (.int ((31 : Int32) * fHs (fStr x0) + fHs (fStr x1)))])) rfl (by rw [hml]; rfl) (Steps.refl _) (argsL := []) (rest := [(.int ((31 : Int32) * fHs (fStr x0) + fHs (fStr x1)))]) (lenOf own_pd10 rfl) rfl (by show 2 * 0 + _ ≤ _; exact Nat.le_of_eq rfl) (hb hby at_213) (fun _ _ => ⟨rfl, rfl, (by decide : 26 + 0 ≤ _), (by decide : 80 + 0 ≤ _)⟩)
                dsimp only [Pt.U, Pt.locs, Pt.cells, Pt.slots] at X24 l24 y24 z24 st24 hQ24
                subst l24 y24 z24
                obtain ⟨rfl, Nq24, Kq24⟩ := hQ24
                have N24 := Fr.app N23 Nq24
                have hk := Nat.le_trans hk Kq24.1
                have Z0 := Nat.le_trans Z0 Kq24.1
                have OL := OL.keep Kq24 (allS ge_s3 (allS ge_s4 all0))
                have Es_s1 := Es_s1.keep Kq24
                have Vs_s1 := Vs_s1.keep Kq24 (ninS ne_ts1_s3 (ninS ne_ts1_s4 nin0))
                have Es_s2 := Es_s2.keep Kq24
                have Vs_s2 := Vs_s2.keep Kq24 (ninS ne_ts2_s3 (ninS ne_ts2_s4 nin0))
                have E_ad1 := E_ad1.keep Kq24
                have F_type_ad1 := F_type_ad1.keep Kq24 (ninS ne_ad1_s3 (ninS ne_ad1_s4 nin0))
                have F_text_ad1 := F_text_ad1.keep Kq24 (ninS ne_ad1_s3 (ninS ne_ad1_s4 nin0))
                have Es_s3 := Es_s3.keep Kq24
                have Vs_s3 := Vs_s3.keep Kq24 (ninS (Ne.symm nv_s3_ts3) (ninS ne_ts3_s4 nin0))
                have Es_s4 := Es_s4.keep Kq24
                have Vs_s4 := Vs_s4.keep Kq24 (ninS (Ne.symm nv_s3_ts4) (ninS (Ne.symm nv_s4_ts4) nin0))
                have E_ad11 := E_ad11.keep Kq24
                have F_type_ad11 := F_type_ad11.keep Kq24 (ninS ne_ad11_s3 (ninS ne_ad11_s4 nin0))
                have F_text_ad11 := F_text_ad11.keep Kq24 (ninS ne_ad11_s3 (ninS ne_ad11_s4 nin0))
                refine Go.of (fun _ k => st24.trans k) ?_
                show Go p e below T24 (mkF m 216 #[.val (.int x0), .val (.int x1), .val (.int x2), .val (.int x3), .val (.int x4), .val (.int y2), .val (.int z2), .val (.int kd), .val (.ref ad1), .val (.ref ad11), .val (.int (1 : Int32)), .val (.int (fEq (fStr x0) (fStr x1) (fStr y2) (fStr z2))), .val (.int (fEq (fStr y2) (fStr z2) (fStr x0) (fStr x1)))] [(.int ((31 : Int32) * fHs (fStr y2) + fHs (fStr z2))), (.int ((31 : Int32) * fHs (fStr x0) + fHs (fStr x1)))]) _
                refine Go.of (fun _ k => XS.icmpNo X24.here hx rfl (hb hby at_216) rfl (teq (show ((31 : Int32) * fHs (fStr x0) + fHs (fStr x1)) = ((31 : Int32) * fHs (fStr y2) + fHs (fStr z2)) from (own_hh hc148_3 hc157_4))).2 k) ?_
                show Go p e below T24 (mkF m 219 #[.val (.int x0), .val (.int x1), .val (.int x2), .val (.int x3), .val (.int x4), .val (.int y2), .val (.int z2), .val (.int kd), .val (.ref ad1), .val (.ref ad11), .val (.int (1 : Int32)), .val (.int (fEq (fStr x0) (fStr x1) (fStr y2) (fStr z2))), .val (.int (fEq (fStr y2) (fStr z2) (fStr x0) (fStr x1)))] []) _
                refine Go.of (fun _ k => XS.iconst X24.here hx rfl (hb hby at_219) k) ?_
                show Go p e below T24 (mkF m 220 #[.val (.int x0), .val (.int x1), .val (.int x2), .val (.int x3), .val (.int x4), .val (.int y2), .val (.int z2), .val (.int kd), .val (.ref ad1), .val (.ref ad11), .val (.int (1 : Int32)), .val (.int (fEq (fStr x0) (fStr x1) (fStr y2) (fStr z2))), .val (.int (fEq (fStr y2) (fStr z2) (fStr x0) (fStr x1)))] [(.int (1 : Int32))]) _
                refine Go.of (fun _ k => XS.goto X24.here hx rfl (pc0 := 220) (pc' := 224) rfl (hb hby at_220) (by decide) (by decide) k) ?_
                show Go p e below T24 (mkF m 224 #[.val (.int x0), .val (.int x1), .val (.int x2), .val (.int x3), .val (.int x4), .val (.int y2), .val (.int z2), .val (.int kd), .val (.ref ad1), .val (.ref ad11), .val (.int (1 : Int32)), .val (.int (fEq (fStr x0) (fStr x1) (fStr y2) (fStr z2))), .val (.int (fEq (fStr y2) (fStr z2) (fStr x0) (fStr x1)))] [(.int (1 : Int32))]) _
                refine Go.retNW X24 hx (t := .boolean) hret hlk (by simp) (hb hby at_224) rfl hS hk (by decide) (by decide) ?_
                exact ⟨rfl, N24⟩
    refine Go.of (fun _ k => XS.iload X0.here hx rfl (hb hby at_14) rfl  k) ?_
    show Go p e below s₁ (mkF m 16 #[.val (.int x0), .val (.int x1), .val (.int x2), .val (.int x3), .val (.int x4), .val (.int y2), .unset, .unset, .unset, .unset, .unset, .unset, .unset] [(.int x4)]) _
    refine Go.of (fun _ k => XS.iconst X0.here hx rfl (hb hby at_16) k) ?_
    show Go p e below s₁ (mkF m 17 #[.val (.int x0), .val (.int x1), .val (.int x2), .val (.int x3), .val (.int x4), .val (.int y2), .unset, .unset, .unset, .unset, .unset, .unset, .unset] [(.int (2 : Int32)), (.int x4)]) _
    refine Go.of (fun _ k => XS.iand X0.here hx rfl (hb hby at_17) rfl k) ?_
    show Go p e below s₁ (mkF m 18 #[.val (.int x0), .val (.int x1), .val (.int x2), .val (.int x3), .val (.int x4), .val (.int y2), .unset, .unset, .unset, .unset, .unset, .unset, .unset] [(.int (x4 &&& (2 : Int32)))]) _
    by_cases hc18_0 : (x4 &&& (2 : Int32)) = (0 : Int32)
    · refine Go.of (fun _ k => XS.ifYes X0.here hx rfl (pc0 := 18) (pc' := 25) rfl (hb hby at_18) rfl ((if0 _ _).trans (teq hc18_0).1) (by decide) (by decide) k) ?_
      show Go p e below s₁ (mkF m 25 #[.val (.int x0), .val (.int x1), .val (.int x2), .val (.int x3), .val (.int x4), .val (.int y2), .unset, .unset, .unset, .unset, .unset, .unset, .unset] []) _
      refine Go.of (fun _ k => XS.iloadN X0.here hx rfl (hb hby at_25) rfl  k) ?_
      show Go p e below s₁ (mkF m 26 #[.val (.int x0), .val (.int x1), .val (.int x2), .val (.int x3), .val (.int x4), .val (.int y2), .unset, .unset, .unset, .unset, .unset, .unset, .unset] [(.int x3)]) _
      refine Go.of (fun _ k => XS.istore X0.here hx rfl (hb hby at_26) rfl (l' := #[.val (.int x0), .val (.int x1), .val (.int x2), .val (.int x3), .val (.int x4), .val (.int y2), .val (.int x3), .unset, .unset, .unset, .unset, .unset, .unset]) rfl k) ?_
      show Go p e below s₁ (mkF m 28 #[.val (.int x0), .val (.int x1), .val (.int x2), .val (.int x3), .val (.int x4), .val (.int y2), .val (.int x3), .unset, .unset, .unset, .unset, .unset, .unset] []) _
      exact J28 _
    · refine Go.of (fun _ k => XS.ifNo X0.here hx rfl (hb hby at_18) rfl ((if0 _ _).trans (feq hc18_0).1) k) ?_
      show Go p e below s₁ (mkF m 21 #[.val (.int x0), .val (.int x1), .val (.int x2), .val (.int x3), .val (.int x4), .val (.int y2), .unset, .unset, .unset, .unset, .unset, .unset, .unset] []) _
      refine Go.of (fun _ k => XS.iloadN X0.here hx rfl (hb hby at_21) rfl  k) ?_
      show Go p e below s₁ (mkF m 22 #[.val (.int x0), .val (.int x1), .val (.int x2), .val (.int x3), .val (.int x4), .val (.int y2), .unset, .unset, .unset, .unset, .unset, .unset, .unset] [(.int x1)]) _
      refine Go.of (fun _ k => XS.goto X0.here hx rfl (pc0 := 22) (pc' := 26) rfl (hb hby at_22) (by decide) (by decide) k) ?_
      show Go p e below s₁ (mkF m 26 #[.val (.int x0), .val (.int x1), .val (.int x2), .val (.int x3), .val (.int x4), .val (.int y2), .unset, .unset, .unset, .unset, .unset, .unset, .unset] [(.int x1)]) _
      refine Go.of (fun _ k => XS.istore X0.here hx rfl (hb hby at_26) rfl (l' := #[.val (.int x0), .val (.int x1), .val (.int x2), .val (.int x3), .val (.int x4), .val (.int y2), .val (.int x1), .unset, .unset, .unset, .unset, .unset, .unset]) rfl k) ?_
      show Go p e below s₁ (mkF m 28 #[.val (.int x0), .val (.int x1), .val (.int x2), .val (.int x3), .val (.int x4), .val (.int y2), .val (.int x1), .unset, .unset, .unset, .unset, .unset, .unset] []) _
      exact J28 _
  refine Go.of (fun _ k => XS.iload X0.here hx rfl (hb hby at_0) rfl  k) ?_
  show Go p e below s₁ (mkF m 2 #[.val (.int x0), .val (.int x1), .val (.int x2), .val (.int x3), .val (.int x4), .unset, .unset, .unset, .unset, .unset, .unset, .unset, .unset] [(.int x4)]) _
  refine Go.of (fun _ k => XS.iconst X0.here hx rfl (hb hby at_2) k) ?_
  show Go p e below s₁ (mkF m 3 #[.val (.int x0), .val (.int x1), .val (.int x2), .val (.int x3), .val (.int x4), .unset, .unset, .unset, .unset, .unset, .unset, .unset, .unset] [(.int (1 : Int32)), (.int x4)]) _
  refine Go.of (fun _ k => XS.iand X0.here hx rfl (hb hby at_3) rfl k) ?_
  show Go p e below s₁ (mkF m 4 #[.val (.int x0), .val (.int x1), .val (.int x2), .val (.int x3), .val (.int x4), .unset, .unset, .unset, .unset, .unset, .unset, .unset, .unset] [(.int (x4 &&& (1 : Int32)))]) _
  by_cases hc4_0 : (x4 &&& (1 : Int32)) = (0 : Int32)
  · refine Go.of (fun _ k => XS.ifYes X0.here hx rfl (pc0 := 4) (pc' := 11) rfl (hb hby at_4) rfl ((if0 _ _).trans (teq hc4_0).1) (by decide) (by decide) k) ?_
    show Go p e below s₁ (mkF m 11 #[.val (.int x0), .val (.int x1), .val (.int x2), .val (.int x3), .val (.int x4), .unset, .unset, .unset, .unset, .unset, .unset, .unset, .unset] []) _
    refine Go.of (fun _ k => XS.iloadN X0.here hx rfl (hb hby at_11) rfl  k) ?_
    show Go p e below s₁ (mkF m 12 #[.val (.int x0), .val (.int x1), .val (.int x2), .val (.int x3), .val (.int x4), .unset, .unset, .unset, .unset, .unset, .unset, .unset, .unset] [(.int x2)]) _
    refine Go.of (fun _ k => XS.istore X0.here hx rfl (hb hby at_12) rfl (l' := #[.val (.int x0), .val (.int x1), .val (.int x2), .val (.int x3), .val (.int x4), .val (.int x2), .unset, .unset, .unset, .unset, .unset, .unset, .unset]) rfl k) ?_
    show Go p e below s₁ (mkF m 14 #[.val (.int x0), .val (.int x1), .val (.int x2), .val (.int x3), .val (.int x4), .val (.int x2), .unset, .unset, .unset, .unset, .unset, .unset, .unset] []) _
    exact J14 _
  · refine Go.of (fun _ k => XS.ifNo X0.here hx rfl (hb hby at_4) rfl ((if0 _ _).trans (feq hc4_0).1) k) ?_
    show Go p e below s₁ (mkF m 7 #[.val (.int x0), .val (.int x1), .val (.int x2), .val (.int x3), .val (.int x4), .unset, .unset, .unset, .unset, .unset, .unset, .unset, .unset] []) _
    refine Go.of (fun _ k => XS.iloadN X0.here hx rfl (hb hby at_7) rfl  k) ?_
    show Go p e below s₁ (mkF m 8 #[.val (.int x0), .val (.int x1), .val (.int x2), .val (.int x3), .val (.int x4), .unset, .unset, .unset, .unset, .unset, .unset, .unset, .unset] [(.int x0)]) _
    refine Go.of (fun _ k => XS.goto X0.here hx rfl (pc0 := 8) (pc' := 12) rfl (hb hby at_8) (by decide) (by decide) k) ?_
    show Go p e below s₁ (mkF m 12 #[.val (.int x0), .val (.int x1), .val (.int x2), .val (.int x3), .val (.int x4), .unset, .unset, .unset, .unset, .unset, .unset, .unset, .unset] [(.int x0)]) _
    refine Go.of (fun _ k => XS.istore X0.here hx rfl (hb hby at_12) rfl (l' := #[.val (.int x0), .val (.int x1), .val (.int x2), .val (.int x3), .val (.int x4), .val (.int x0), .unset, .unset, .unset, .unset, .unset, .unset, .unset]) rfl k) ?_
    show Go p e below s₁ (mkF m 14 #[.val (.int x0), .val (.int x1), .val (.int x2), .val (.int x3), .val (.int x4), .val (.int x0), .unset, .unset, .unset, .unset, .unset, .unset, .unset] []) _
    exact J14 _
set_option maxRecDepth 65536 in
set_option maxHeartbeats 40000000 in
theorem comes_1 {Post : Tables → Env → Array Value → State → Outcome → State → Prop} (hpost : ∀ tb e args s v u, (limb_1_1.after args s (.returned v) u = true ∧ limb_1_2.after args s (.returned v) u = true ∧ True) → ReturnedEndW s (.returned v) u (Jvm.fieldLocs frame_1_writes args s ++ Jvm.arrayLocs frame_1_arrays args s ++ Jvm.staticLocs frame_1_statics s) 40 1216 → Post tb e args s (.returned v) u) :
    ArmFor flags0 classFile x code maxLocals ret World_1 tables_1 room_1 Calls_1 rest_1 Pre_1 Post := by
  intro l hfl _ _ p e ha hc hk s m args below hf hA hF happ hP
  obtain ⟨hcalls, hrest, hpre⟩ := hP
  obtain ⟨-, -, -, hnamed, -, -, -, hat⟩ := (Spec.applies_iff hf).mp happ
  obtain ⟨hg, hn⟩ := and_e (Cond.before_iff.mp (show (Jvm.Cond.and given_1 narrow_1).before args s = true from hpre))
  obtain ⟨g1, g2⟩ := and_e hg
  obtain ⟨g3, g4⟩ := and_e g2
  obtain ⟨g5, g6⟩ := and_e g4
  obtain ⟨g7, g8⟩ := and_e g6
  obtain ⟨g9, g10⟩ := and_e g8
  obtain ⟨w0, w1, w2, w3, w4, rfl⟩ : ∃ w0 w1 w2 w3 w4 : Value, args = #[w0, w1, w2, w3, w4] := by
    have hs : args.size = 5 := by simpa [Cond.value, given_1] using g1
    obtain ⟨L⟩ := args
    match L, hs with
    | [w0, w1, w2, w3, w4], _ => exact ⟨w0, w1, w2, w3, w4, rfl⟩
  have hw := fun d (hd : d ∈ tables_1) => atoms_spec (ws := Jvm.Cond.code x code maxLocals ret :: tables_1) hat d (List.mem_cons_of_mem _ hd)
  have hfit : Fit s := fun {y c} hc i hi => by
    obtain ⟨ha, rfl⟩ := Array.getElem?_eq_some_iff.mp hc
    have q := List.all_eq_true.mp ((Array.all_eq_true_iff_forall_mem.mp hF) _ (Array.getElem_mem ha)) i (List.mem_range.mpr hi)
    simpa [Array.getElem?_eq_getElem hi] using q
  obtain ⟨i0, ei0⟩ := is_v g3
  obtain rfl : w0 = (.int i0) := Option.some.inj ei0
  obtain ⟨i1, ei1⟩ := is_v g5
  obtain rfl : w1 = (.int i1) := Option.some.inj ei1
  obtain ⟨i2, ei2⟩ := is_v g7
  obtain rfl : w2 = (.int i2) := Option.some.inj ei2
  obtain ⟨i3, ei3⟩ := is_v g9
  obtain rfl : w3 = (.int i3) := Option.some.inj ei3
  obtain ⟨i4, ei4⟩ := is_v g10
  obtain rfl : w4 = (.int i4) := Option.some.inj ei4
  obtain ⟨hsets, hown0⟩ := atoms_of _ (rest_1_c_eq ▸ (show rest_1_c.before _ s = true from hrest))
  obtain ⟨zc, ezc⟩ := is_v (Cond.before_iff.mp (hsets _ (List.mem_of_getElem? (i := 1) rfl)))
  have O2 : Sta s s.heap "java/lang/String" "COMPACT_STRINGS" "Z" (.int zc) := Sta.start ezc (Or.inl (hsets _ (List.mem_of_getElem? (i := 0) rfl)))
  have hzc : ¬ (zc = (0 : Int32)) := gotF (Cond.eq_ints ezc (Term.int_eval (0))) (not_v (Cond.before_iff.mp (hsets _ (List.mem_of_getElem? (i := 2) rfl))))
  have hCH : CHv s EL s.vm s.heap := CHv.start (own_EL hw) hcalls.1 (hsets _ (List.mem_of_getElem? (i := 2) rfl)) (hw _ (List.mem_of_getElem? (i := 25) rfl)) (hw _ (List.mem_of_getElem? (i := 11) rfl))
  obtain ⟨n, o, h1, h2, h3, _, L, rfl, ⟨rfl, N⟩, hq⟩ := rm0 l s _ hw tables_1 i0 i1 i2 i3 i4 zc s.heap s.heap.size (Nat.le_refl _) (Old.start s) O2 hzc p e ha hc hk s m _ below hf ((Spec.applies_iff_loose hf).mp happ).1 ⟨rfl, State.Warmed39.refl s, rfl, hCH⟩ trivial
  refine ⟨n, _, h1, h2, h3, hpost _ _ _ _ _ _ ⟨Cond.after_iff.mpr rfl, Cond.after_iff.mpr (eq_i res_at (Term.int_eval (1)) rfl), trivial⟩ ⟨hq.1, hq.2.1, hq.2.2.1, (hq.2.2.2.sift fun y hy => Or.inr (N y hy)).mono (by decide) (by decide)⟩⟩
theorem main_1_1 : Claimed_1_1 := comes_1 fun _ _ _ _ _ _ h hF => ⟨h.1, hF⟩
theorem main_1_2 : Claimed_1_2 := comes_1 fun _ _ _ _ _ _ h hF => ⟨h.2.1, hF⟩
end Jvm.Pilot.@@N@@
namespace Jvm.Pilot.@@N@@
open Jvm Jvm.ClassFile Sem Op Lib Jvm.Free Jvm.Stand Jvm.Pilot.@@N@@.Jvm.D
/-! MADE BY PROGRAM (witnessworld.py) out of the Statement's table words and the real class files: 24 classes; the members and pool entries that the words name. The judged class is class 1, her method 5. -/
namespace start1
open Jvm.ClassFile
def u (s : String) : CpInfo := .utf8 (stringToUtf16 s)
/-- a pool by its gaps: so many unusable entries, then the entry; so many at the end -/
def gap : Nat → List CpInfo → List CpInfo
  | 0, r => r
  | n + 1, r => .unusable :: gap n r
def poolList (es : List (Nat × CpInfo)) (last : Nat) : List CpInfo := es.foldr (fun e r => gap e.1 (e.2 :: r)) (gap last [])
def pool (es : List (Nat × CpInfo)) (last : Nat) : Array CpInfo := ⟨poolList es last⟩
def fileOf (pool : Array CpInfo) (this : Nat) (attrs : Array Attribute := #[]) (ms : Array MethodInfo := #[]) (fl : Nat := 33) (sup : Nat := 0) (ifs : Array Nat := #[]) (fds : Array FieldInfo := #[]) : ClassFile where
  minorVersion := 0
  majorVersion := 65
  constantPool := pool
  accessFlags := fl
  thisClass := this
  superClass := sup
  interfaces := ifs
  fields := fds
  methods := ms
  attributes := attrs
def plain (name : String) (sup : Option ClassId) : Class where
  name := name
  kind := .ordinary
  loader := none
  accessFlags := 33
  super := sup
  interfaces := #[]
  cf := none
  fields := #[]
  methods := #[]
  instanceTypes := #[]
  staticTypes := #[]
  resolved := #[]
  callSites := []
  init := .initialized
  statics := none
  mirror := none

def pool0 : Array CpInfo := pool [(5, u "<init>"), (0, u "()V"), (1, .class_ 10), (1, u "java/lang/Object")] 113

def k0c0 : Code := { maxStack := 0, maxLocals := 1, code := object_method_1_code, exceptionTable := #[], attributes := #[] }
def k0m0 : Method := { name := "<init>", desc := "()V", sig := { parameters := [], returnType := none }, accessFlags := 1, code := some k0c0 }
/-- java/lang/Object -/
def k0 : Class := { plain "java/lang/Object" none with
  accessFlags := 33
  interfaces := #[]
  cf := some (fileOf pool0 8 #[] #[{ accessFlags := 1, nameIndex := 5, descriptorIndex := 6, attributes := #[] }] 33 0 #[] #[])
  fields := #[]
  methods := #[k0m0]
  instanceTypes := #[]
  staticTypes := #[]
  resolved := Array.replicate 124 none
  statics := none }

def pool1 : Array CpInfo := pool [(2, .class_ 4), (1, u "java/lang/Object"), (0, u "<init>"), (0, u "()V"), (0, .methodref 8 9), (0, .class_ 10), (0, .nameAndType 11 12), (0, u "com/example/cascadex/cascadex/OfTextEqualsPinLaw"), (0, u "len"), (0, u "(I)I"), (0, .class_ 14), (0, u "java/lang/String"), (0, .methodref 13 16), (0, .nameAndType 5 17), (0, u "([C)V"), (0, .methodref 8 19), (0, .nameAndType 20 21), (0, u "ch"), (0, u "(II)C"), (0, .class_ 23), (0, u "com/example/cascadex/cascadex/Letter$OfText"), (0, .methodref 8 25), (0, .nameAndType 26 27), (0, u "str"), (0, u "(I)Ljava/lang/String;"), (0, .methodref 22 29), (0, .nameAndType 5 30), (0, u "(Ljava/lang/String;Ljava/lang/String;)V"), (0, .methodref 22 32), (0, .nameAndType 33 34), (0, u "equals"), (0, u "(Ljava/lang/Object;)Z"), (0, .class_ 36), (0, u "com/example/cascadex/cascadex/Letter$OfTag"), (0, .methodref 35 38), (0, .nameAndType 5 39), (0, u "(Ljava/lang/String;)V"), (0, .methodref 8 41), (0, .nameAndType 42 43), (0, u "same"), (0, u "(II)Z"), (0, .methodref 22 45), (0, .nameAndType 46 47), (0, u "hashCode"), (0, u "()I"), (3, u "law"), (0, u "(IIIII)Z")] 7

def k1m0 : Method := { name := "<init>", desc := "()V", sig := { parameters := [], returnType := none }, accessFlags := 1, code := none }
def k1c1 : Code := { maxStack := 2, maxLocals := 1, code := method_2_code, exceptionTable := #[], attributes := #[] }
def k1m1 : Method := { name := "len", desc := "(I)I", sig := { parameters := [.int], returnType := some .int }, accessFlags := 10, code := some k1c1 }
def k1c2 : Code := { maxStack := 4, maxLocals := 2, code := method_3_code, exceptionTable := #[], attributes := #[] }
def k1m2 : Method := { name := "ch", desc := "(II)C", sig := { parameters := [.int, .int], returnType := some .char }, accessFlags := 10, code := some k1c2 }
def k1c3 : Code := { maxStack := 7, maxLocals := 2, code := method_4_code, exceptionTable := #[], attributes := #[] }
def k1m3 : Method := { name := "str", desc := "(I)Ljava/lang/String;", sig := { parameters := [.int], returnType := some (.object "java/lang/String") }, accessFlags := 10, code := some k1c3 }
def k1c4 : Code := { maxStack := 3, maxLocals := 3, code := method_5_code, exceptionTable := #[], attributes := #[] }
def k1m4 : Method := { name := "same", desc := "(II)Z", sig := { parameters := [.int, .int], returnType := some .boolean }, accessFlags := 10, code := some k1c4 }
def k1c5 : Code := { maxStack := 4, maxLocals := 13, code := code, exceptionTable := #[], attributes := #[] }
def k1m5 : Method := { name := "law", desc := "(IIIII)Z", sig := { parameters := [.int, .int, .int, .int, .int], returnType := some .boolean }, accessFlags := 9, code := some k1c5 }
/-- com/example/cascadex/cascadex/OfTextEqualsPinLaw -/
def k1 : Class := { plain "com/example/cascadex/cascadex/OfTextEqualsPinLaw" (some 0) with
  accessFlags := 49
  interfaces := #[]
  cf := some (fileOf pool1 8 #[] #[{ accessFlags := 1, nameIndex := 5, descriptorIndex := 6, attributes := #[] }, { accessFlags := 10, nameIndex := 11, descriptorIndex := 12, attributes := #[] }, { accessFlags := 10, nameIndex := 20, descriptorIndex := 21, attributes := #[] }, { accessFlags := 10, nameIndex := 26, descriptorIndex := 27, attributes := #[] }, { accessFlags := 10, nameIndex := 42, descriptorIndex := 43, attributes := #[] }, { accessFlags := 9, nameIndex := 51, descriptorIndex := 52, attributes := #[] }] 49 2 #[] #[])
  fields := #[]
  methods := #[k1m0, k1m1, k1m2, k1m3, k1m4, k1m5]
  instanceTypes := #[]
  staticTypes := #[]
  resolved := Array.replicate 60 none
  statics := none }

def pool2 : Array CpInfo := pool [(1, .methodref 2 3), (0, .class_ 4), (0, .nameAndType 5 6), (0, u "java/lang/Object"), (0, u "<init>"), (0, u "()V"), (0, .class_ 8), (0, u "java/lang/Record")] 13

def k2c0 : Code := { maxStack := 1, maxLocals := 1, code := jdk_30_method_1_code, exceptionTable := #[], attributes := #[] }
def k2m0 : Method := { name := "<init>", desc := "()V", sig := { parameters := [], returnType := none }, accessFlags := 4, code := some k2c0 }
/-- java/lang/Record -/
def k2 : Class := { plain "java/lang/Record" (some 0) with
  accessFlags := 1057
  interfaces := #[]
  cf := some (fileOf pool2 7 #[] #[{ accessFlags := 4, nameIndex := 5, descriptorIndex := 6, attributes := #[] }] 1057 2 #[] #[])
  fields := #[]
  methods := #[k2m0]
  instanceTypes := #[]
  staticTypes := #[]
  resolved := Array.replicate 22 none
  statics := none }

def pool3 : Array CpInfo := pool [(1, .class_ 2), (0, u "com/example/cascadex/cascadex/Letter"), (0, .class_ 4), (0, u "java/lang/Object"), (3, .class_ 9), (0, u "com/example/cascadex/cascadex/Letter$Edge"), (0, .class_ 11), (0, u "com/example/cascadex/cascadex/Letter$OfTag"), (0, .class_ 13), (0, u "com/example/cascadex/cascadex/Letter$OfText"), (0, .class_ 15), (0, u "com/example/cascadex/cascadex/Letter$OfElement"), (0, .class_ 17), (0, u "com/example/cascadex/cascadex/Letter$OfToken"), (0, .class_ 19), (0, u "com/example/cascadex/cascadex/Letter$Textual")] 8

/-- com/example/cascadex/cascadex/Letter -/
def k3 : Class := { plain "com/example/cascadex/cascadex/Letter" (some 0) with
  accessFlags := 1536
  interfaces := #[]
  cf := some (fileOf pool3 1 #[.nestMembers #[8, 10, 12, 14, 16, 18]] #[] 1536 3 #[] #[])
  fields := #[]
  methods := #[]
  instanceTypes := #[]
  staticTypes := #[]
  resolved := Array.replicate 28 none
  statics := none }

def pool4 : Array CpInfo := pool [(1, .class_ 2), (0, u "com/example/cascadex/cascadex/Letter$Textual"), (0, .class_ 4), (0, u "java/lang/Object"), (0, .class_ 6), (0, u "com/example/cascadex/cascadex/Letter")] 15

/-- com/example/cascadex/cascadex/Letter$Textual -/
def k4 : Class := { plain "com/example/cascadex/cascadex/Letter$Textual" (some 0) with
  accessFlags := 1537
  interfaces := #[3]
  cf := some (fileOf pool4 1 #[.nestHost 5] #[] 1537 3 #[5] #[])
  fields := #[]
  methods := #[]
  instanceTypes := #[]
  staticTypes := #[]
  resolved := Array.replicate 22 none
  statics := none }

def pool5 : Array CpInfo := pool [(1, .methodref 2 3), (0, .class_ 4), (0, .nameAndType 5 6), (0, u "java/lang/Record"), (0, u "<init>"), (0, u "()V"), (0, .fieldref 8 9), (0, .class_ 10), (0, .nameAndType 11 12), (0, u "com/example/cascadex/cascadex/Letter$OfText"), (0, u "type"), (0, u "Ljava/lang/String;"), (0, .fieldref 8 14), (0, .nameAndType 15 12), (0, u "text"), (1, u "STRING"), (2, u "(Ljava/lang/String;Ljava/lang/String;)V"), (0, .methodref 22 23), (0, .class_ 24), (0, .nameAndType 25 26), (0, u "java/lang/String"), (0, u "equals"), (0, u "(Ljava/lang/Object;)Z"), (0, .methodref 22 28), (0, .nameAndType 29 30), (0, u "hashCode"), (0, u "()I"), (4, .class_ 36), (0, u "com/example/cascadex/cascadex/Letter$Textual"), (11, .class_ 49), (0, u "com/example/cascadex/cascadex/Letter")] 21

def k5c0 : Code := { maxStack := 2, maxLocals := 3, code := prog_52_method_1_code, exceptionTable := #[], attributes := #[] }
def k5m0 : Method := { name := "<init>", desc := "(Ljava/lang/String;Ljava/lang/String;)V", sig := { parameters := [(.object "java/lang/String"), (.object "java/lang/String")], returnType := none }, accessFlags := 1, code := some k5c0 }
def k5c1 : Code := { maxStack := 2, maxLocals := 3, code := prog_52_method_3_code, exceptionTable := #[], attributes := #[] }
def k5m1 : Method := { name := "equals", desc := "(Ljava/lang/Object;)Z", sig := { parameters := [(.object "java/lang/Object")], returnType := some .boolean }, accessFlags := 1, code := some k5c1 }
def k5c2 : Code := { maxStack := 2, maxLocals := 1, code := prog_52_method_4_code, exceptionTable := #[], attributes := #[] }
def k5m2 : Method := { name := "hashCode", desc := "()I", sig := { parameters := [], returnType := some .int }, accessFlags := 1, code := some k5c2 }
/-- com/example/cascadex/cascadex/Letter$OfText -/
def k5 : Class := { plain "com/example/cascadex/cascadex/Letter$OfText" (some 2) with
  accessFlags := 49
  interfaces := #[4]
  cf := some (fileOf pool5 8 #[.nestHost 48] #[{ accessFlags := 1, nameIndex := 5, descriptorIndex := 20, attributes := #[] }, { accessFlags := 1, nameIndex := 25, descriptorIndex := 26, attributes := #[] }, { accessFlags := 1, nameIndex := 29, descriptorIndex := 30, attributes := #[] }] 49 2 #[35] #[{ accessFlags := 18, nameIndex := 11, descriptorIndex := 12, attributes := #[] }, { accessFlags := 18, nameIndex := 15, descriptorIndex := 12, attributes := #[] }, { accessFlags := 24, nameIndex := 17, descriptorIndex := 12, attributes := #[] }])
  fields := #[{ name := "type", type := (.object "java/lang/String"), accessFlags := 18, slot := 0, constantValue := 0 }, { name := "text", type := (.object "java/lang/String"), accessFlags := 18, slot := 1, constantValue := 0 }, { name := "STRING", type := (.object "java/lang/String"), accessFlags := 24, slot := 0, constantValue := 0 }]
  methods := #[k5m0, k5m1, k5m2]
  instanceTypes := #[(.object "java/lang/String"), (.object "java/lang/String")]
  staticTypes := #[(.object "java/lang/String")]
  resolved := Array.replicate 71 none
  statics := none }

def pool6 : Array CpInfo := pool [(1, .class_ 2), (0, u "java/io/Serializable"), (0, .class_ 4), (0, u "java/lang/Object")] 2

/-- java/io/Serializable -/
def k6 : Class := { plain "java/io/Serializable" (some 0) with
  accessFlags := 1537
  interfaces := #[]
  cf := some (fileOf pool6 1 #[] #[] 1537 3 #[] #[])
  fields := #[]
  methods := #[]
  instanceTypes := #[]
  staticTypes := #[]
  resolved := Array.replicate 7 none
  statics := none }

def pool7 : Array CpInfo := pool [(1, .class_ 2), (0, u "java/lang/Comparable"), (0, .class_ 4), (0, u "java/lang/Object")] 7

/-- java/lang/Comparable -/
def k7 : Class := { plain "java/lang/Comparable" (some 0) with
  accessFlags := 1537
  interfaces := #[]
  cf := some (fileOf pool7 1 #[] #[] 1537 3 #[] #[])
  fields := #[]
  methods := #[]
  instanceTypes := #[]
  staticTypes := #[]
  resolved := Array.replicate 12 none
  statics := none }

def pool8 : Array CpInfo := pool [(2, .class_ 4), (1, u "java/lang/CharSequence"), (42, .class_ 48), (0, u "java/lang/CharSequence$1CodePointIterator"), (10, .class_ 60), (0, u "java/lang/CharSequence$1CharIterator"), (5, .class_ 67), (0, u "java/lang/Object")] 63

/-- java/lang/CharSequence -/
def k8 : Class := { plain "java/lang/CharSequence" (some 0) with
  accessFlags := 1537
  interfaces := #[]
  cf := some (fileOf pool8 2 #[.nestMembers #[47, 59]] #[] 1537 66 #[] #[])
  fields := #[]
  methods := #[]
  instanceTypes := #[]
  staticTypes := #[]
  resolved := Array.replicate 131 none
  statics := none }

def pool9 : Array CpInfo := pool [(1, .class_ 2), (0, u "java/lang/constant/Constable"), (0, .class_ 4), (0, u "java/lang/Object")] 6

/-- java/lang/constant/Constable -/
def k9 : Class := { plain "java/lang/constant/Constable" (some 0) with
  accessFlags := 1537
  interfaces := #[]
  cf := some (fileOf pool9 1 #[] #[] 1537 3 #[] #[])
  fields := #[]
  methods := #[]
  instanceTypes := #[]
  staticTypes := #[]
  resolved := Array.replicate 11 none
  statics := none }

def pool10 : Array CpInfo := pool [(1, .class_ 2), (0, u "java/lang/constant/ConstantDesc"), (0, .class_ 4), (0, u "java/lang/Object")] 32

/-- java/lang/constant/ConstantDesc -/
def k10 : Class := { plain "java/lang/constant/ConstantDesc" (some 0) with
  accessFlags := 1537
  interfaces := #[]
  cf := some (fileOf pool10 1 #[] #[] 1537 3 #[] #[])
  fields := #[]
  methods := #[]
  instanceTypes := #[]
  staticTypes := #[]
  resolved := Array.replicate 37 none
  statics := none }

def pool11 : Array CpInfo := pool [(1, .methodref 2 3), (0, .class_ 4), (0, .nameAndType 5 6), (0, u "java/lang/Object"), (0, u "<init>"), (0, u "()V"), (0, .string 8), (0, u ""), (0, .fieldref 10 11), (0, .class_ 12), (0, .nameAndType 13 14), (0, u "java/lang/String"), (0, u "value"), (0, u "[B"), (0, .fieldref 10 16), (0, .nameAndType 17 18), (0, u "coder"), (0, u "B"), (0, .fieldref 10 20), (0, .nameAndType 21 22), (0, u "hash"), (0, u "I"), (0, .fieldref 10 24), (0, .nameAndType 25 26), (0, u "hashIsZero"), (0, u "Z"), (0, .methodref 10 28), (0, .nameAndType 5 29), (0, u "([CIILjava/lang/Void;)V"), (8, .fieldref 10 39), (0, .nameAndType 40 26), (0, u "COMPACT_STRINGS"), (1, .class_ 44), (1, u "java/lang/StringUTF16"), (0, u "compress"), (1, .methodref 42 48), (0, .nameAndType 49 50), (0, u "coderFromArrayLen"), (0, u "([BI)B"), (56, .class_ 109), (1, u "java/lang/StringLatin1"), (32, u "()Z"), (34, .methodref 42 178), (0, .nameAndType 45 179), (0, u "([CII)[B"), (154, u "()I"), (157, .methodref 10 493), (0, .nameAndType 494 142), (0, u "isLatin1"), (46, .methodref 107 542), (0, .nameAndType 543 544), (0, u "equals"), (0, u "([B[B)Z"), (28, u "(Ljava/lang/Object;)Z"), (1, .class_ 576), (0, u "java/lang/CharSequence"), (22, u "CASE_INSENSITIVE_ORDER"), (0, u "Ljava/util/Comparator;"), (27, .methodref 107 629), (0, .nameAndType 630 631), (0, u "hashCode"), (0, u "([B)I"), (378, u "([C)V"), (90, u "serialPersistentFields"), (0, u "[Ljava/io/ObjectStreamField;"), (0, .class_ 1104), (0, u "java/lang/String$CaseInsensitiveComparator"), (1, .class_ 1107), (0, u "java/io/Serializable"), (0, .class_ 1109), (0, u "java/lang/Comparable"), (0, .class_ 1111), (0, u "java/lang/constant/Constable"), (0, .class_ 1113), (0, u "java/lang/constant/ConstantDesc"), (2, u "serialVersionUID"), (0, u "J"), (3, u "REPL"), (0, u "C"), (2, u "LATIN1"), (1, u "UTF16")] 323

def k11m0 : Method := { name := "<init>", desc := "()V", sig := { parameters := [], returnType := none }, accessFlags := 1, code := none }
def k11c1 : Code := { maxStack := 5, maxLocals := 2, code := jdk_42_method_3_code, exceptionTable := #[], attributes := #[] }
def k11m1 : Method := { name := "<init>", desc := "([C)V", sig := { parameters := [(.array .char)], returnType := none }, accessFlags := 1, code := some k11c1 }
def k11c2 : Code := { maxStack := 2, maxLocals := 3, code := jdk_42_method_66_code, exceptionTable := #[], attributes := #[] }
def k11m2 : Method := { name := "equals", desc := "(Ljava/lang/Object;)Z", sig := { parameters := [(.object "java/lang/Object")], returnType := some .boolean }, accessFlags := 1, code := some k11c2 }
def k11c3 : Code := { maxStack := 2, maxLocals := 2, code := jdk_42_method_78_code, exceptionTable := #[], attributes := #[] }
def k11m3 : Method := { name := "hashCode", desc := "()I", sig := { parameters := [], returnType := some .int }, accessFlags := 1, code := some k11c3 }
def k11c4 : Code := { maxStack := 4, maxLocals := 6, code := jdk_42_method_149_code, exceptionTable := #[], attributes := #[] }
def k11m4 : Method := { name := "<init>", desc := "([CIILjava/lang/Void;)V", sig := { parameters := [(.array .char), .int, .int, (.object "java/lang/Void")], returnType := none }, accessFlags := 2, code := some k11c4 }
def k11c5 : Code := { maxStack := 1, maxLocals := 1, code := jdk_42_method_154_code, exceptionTable := #[], attributes := #[] }
def k11m5 : Method := { name := "isLatin1", desc := "()Z", sig := { parameters := [], returnType := some .boolean }, accessFlags := 0, code := some k11c5 }
/-- java/lang/String -/
def k11 : Class := { plain "java/lang/String" (some 0) with
  accessFlags := 49
  interfaces := #[6, 7, 8, 9, 10]
  cf := some (fileOf pool11 10 #[.nestMembers #[1103]] #[{ accessFlags := 1, nameIndex := 5, descriptorIndex := 6, attributes := #[] }, { accessFlags := 1, nameIndex := 5, descriptorIndex := 1010, attributes := #[] }, { accessFlags := 1, nameIndex := 543, descriptorIndex := 573, attributes := #[] }, { accessFlags := 1, nameIndex := 630, descriptorIndex := 334, attributes := #[] }, { accessFlags := 2, nameIndex := 5, descriptorIndex := 29, attributes := #[] }, { accessFlags := 0, nameIndex := 494, descriptorIndex := 142, attributes := #[] }] 49 2 #[1106, 1108, 575, 1110, 1112] #[{ accessFlags := 18, nameIndex := 13, descriptorIndex := 14, attributes := #[] }, { accessFlags := 18, nameIndex := 17, descriptorIndex := 18, attributes := #[] }, { accessFlags := 2, nameIndex := 21, descriptorIndex := 22, attributes := #[] }, { accessFlags := 2, nameIndex := 25, descriptorIndex := 26, attributes := #[] }, { accessFlags := 26, nameIndex := 1116, descriptorIndex := 1117, attributes := #[] }, { accessFlags := 24, nameIndex := 40, descriptorIndex := 26, attributes := #[] }, { accessFlags := 26, nameIndex := 1101, descriptorIndex := 1102, attributes := #[] }, { accessFlags := 26, nameIndex := 1121, descriptorIndex := 1122, attributes := #[] }, { accessFlags := 25, nameIndex := 599, descriptorIndex := 600, attributes := #[] }, { accessFlags := 24, nameIndex := 1125, descriptorIndex := 18, attributes := #[] }, { accessFlags := 24, nameIndex := 1127, descriptorIndex := 18, attributes := #[] }])
  fields := #[{ name := "value", type := (.array .byte), accessFlags := 18, slot := 0, constantValue := 0 }, { name := "coder", type := .byte, accessFlags := 18, slot := 1, constantValue := 0 }, { name := "hash", type := .int, accessFlags := 2, slot := 2, constantValue := 0 }, { name := "hashIsZero", type := .boolean, accessFlags := 2, slot := 3, constantValue := 0 }, { name := "serialVersionUID", type := .long, accessFlags := 26, slot := 0, constantValue := 0 }, { name := "COMPACT_STRINGS", type := .boolean, accessFlags := 24, slot := 1, constantValue := 0 }, { name := "serialPersistentFields", type := (.array (.object "java/io/ObjectStreamField")), accessFlags := 26, slot := 2, constantValue := 0 }, { name := "REPL", type := .char, accessFlags := 26, slot := 3, constantValue := 0 }, { name := "CASE_INSENSITIVE_ORDER", type := (.object "java/util/Comparator"), accessFlags := 25, slot := 4, constantValue := 0 }, { name := "LATIN1", type := .byte, accessFlags := 24, slot := 5, constantValue := 0 }, { name := "UTF16", type := .byte, accessFlags := 24, slot := 6, constantValue := 0 }]
  methods := #[k11m0, k11m1, k11m2, k11m3, k11m4, k11m5]
  instanceTypes := #[(.array .byte), .byte, .int, .boolean]
  staticTypes := #[.long, .boolean, (.array (.object "java/io/ObjectStreamField")), .char, (.object "java/util/Comparator"), .byte, .byte]
  resolved := Array.replicate 1451 none
  statics := some 0 }

def pool12 : Array CpInfo := pool [(6, .class_ 8), (1, u "java/lang/Object"), (0, u "<init>"), (0, u "()V"), (1, .class_ 14), (1, u "java/lang/StringUTF16"), (31, u "$assertionsDisabled"), (0, u "Z"), (13, u "HI_BYTE_SHIFT"), (0, u "I"), (2, u "LO_BYTE_SHIFT"), (49, .methodref 12 116), (0, .nameAndType 117 118), (0, u "compress"), (0, u "([CI[BII)I"), (3, u "([CII)[B"), (138, u "coderFromArrayLen"), (0, u "([BI)B"), (106, .class_ 371), (1, u "java/lang/StringUTF16$LinesSpliterator"), (58, u "MAX_LENGTH"), (196, .class_ 628), (0, u "java/lang/StringUTF16$CodePointsSpliterator"), (0, .class_ 630), (0, u "java/lang/StringUTF16$CharsSpliterator")] 4

def k12m0 : Method := { name := "<init>", desc := "()V", sig := { parameters := [], returnType := none }, accessFlags := 0, code := none }
def k12c1 : Code := { maxStack := 2, maxLocals := 2, code := jdk_52_method_15_code, exceptionTable := #[], attributes := #[] }
def k12m1 : Method := { name := "coderFromArrayLen", desc := "([BI)B", sig := { parameters := [(.array .byte), .int], returnType := some .byte }, accessFlags := 8, code := some k12c1 }
def k12c2 : Code := { maxStack := 5, maxLocals := 6, code := jdk_52_method_16_code, exceptionTable := #[], attributes := #[] }
def k12m2 : Method := { name := "compress", desc := "([CII)[B", sig := { parameters := [(.array .char), .int, .int], returnType := some (.array .byte) }, accessFlags := 9, code := some k12c2 }
def k12c3 : Code := { maxStack := 3, maxLocals := 7, code := jdk_52_method_21_code, exceptionTable := #[], attributes := #[] }
def k12m3 : Method := { name := "compress", desc := "([CI[BII)I", sig := { parameters := [(.array .char), .int, (.array .byte), .int, .int], returnType := some .int }, accessFlags := 9, code := some k12c3 }
/-- java/lang/StringUTF16 -/
def k12 : Class := { plain "java/lang/StringUTF16" (some 0) with
  accessFlags := 48
  interfaces := #[]
  cf := some (fileOf pool12 12 #[.nestMembers #[627, 629, 369]] #[{ accessFlags := 0, nameIndex := 9, descriptorIndex := 10, attributes := #[] }, { accessFlags := 8, nameIndex := 261, descriptorIndex := 262, attributes := #[] }, { accessFlags := 9, nameIndex := 117, descriptorIndex := 122, attributes := #[] }, { accessFlags := 9, nameIndex := 117, descriptorIndex := 118, attributes := #[] }] 48 6 #[] #[{ accessFlags := 26, nameIndex := 61, descriptorIndex := 62, attributes := #[] }, { accessFlags := 26, nameIndex := 65, descriptorIndex := 62, attributes := #[] }, { accessFlags := 24, nameIndex := 430, descriptorIndex := 62, attributes := #[] }, { accessFlags := 4120, nameIndex := 46, descriptorIndex := 47, attributes := #[] }])
  fields := #[{ name := "HI_BYTE_SHIFT", type := .int, accessFlags := 26, slot := 0, constantValue := 0 }, { name := "LO_BYTE_SHIFT", type := .int, accessFlags := 26, slot := 1, constantValue := 0 }, { name := "MAX_LENGTH", type := .int, accessFlags := 24, slot := 2, constantValue := 0 }, { name := "$assertionsDisabled", type := .boolean, accessFlags := 4120, slot := 3, constantValue := 0 }]
  methods := #[k12m0, k12m1, k12m2, k12m3]
  instanceTypes := #[]
  staticTypes := #[.int, .int, .int, .boolean]
  resolved := Array.replicate 635 none
  statics := none }

def pool13 : Array CpInfo := pool [(4, .class_ 6), (1, u "java/lang/Object"), (0, u "<init>"), (0, u "()V"), (5, .class_ 16), (1, u "java/lang/StringLatin1"), (28, .class_ 47), (1, u "jdk/internal/util/ArraysSupport"), (9, u "([B)I"), (26, .methodref 45 85), (0, .nameAndType 86 87), (0, u "vectorizedHashCode"), (0, u "(Ljava/lang/Object;IIII)I"), (33, u "$assertionsDisabled"), (0, u "Z"), (98, .class_ 223), (1, u "java/lang/StringLatin1$LinesSpliterator"), (57, u "equals"), (0, u "([B[B)Z"), (15, u "hashCode"), (91, .class_ 391), (0, u "java/lang/StringLatin1$CharsSpliterator")] 3

def k13m0 : Method := { name := "<init>", desc := "()V", sig := { parameters := [], returnType := none }, accessFlags := 0, code := none }
def k13c1 : Code := { maxStack := 3, maxLocals := 3, code := jdk_43_method_13_code, exceptionTable := #[], attributes := #[] }
def k13m1 : Method := { name := "equals", desc := "([B[B)Z", sig := { parameters := [(.array .byte), (.array .byte)], returnType := some .boolean }, accessFlags := 9, code := some k13c1 }
def k13c2 : Code := { maxStack := 5, maxLocals := 1, code := jdk_43_method_21_code, exceptionTable := #[], attributes := #[] }
def k13m2 : Method := { name := "hashCode", desc := "([B)I", sig := { parameters := [(.array .byte)], returnType := some .int }, accessFlags := 9, code := some k13c2 }
/-- java/lang/StringLatin1 -/
def k13 : Class := { plain "java/lang/StringLatin1" (some 0) with
  accessFlags := 48
  interfaces := #[]
  cf := some (fileOf pool13 14 #[.nestMembers #[390, 221]] #[{ accessFlags := 0, nameIndex := 7, descriptorIndex := 8, attributes := #[] }, { accessFlags := 9, nameIndex := 281, descriptorIndex := 282, attributes := #[] }, { accessFlags := 9, nameIndex := 298, descriptorIndex := 57, attributes := #[] }] 48 4 #[] #[{ accessFlags := 4120, nameIndex := 121, descriptorIndex := 122, attributes := #[] }])
  fields := #[{ name := "$assertionsDisabled", type := .boolean, accessFlags := 4120, slot := 0, constantValue := 0 }]
  methods := #[k13m0, k13m1, k13m2]
  instanceTypes := #[]
  staticTypes := #[.boolean]
  resolved := Array.replicate 395 none
  statics := none }

def pool14 : Array CpInfo := pool [(1, .methodref 2 3), (0, .class_ 4), (0, .nameAndType 5 6), (0, u "java/lang/Record"), (0, u "<init>"), (0, u "()V"), (0, .fieldref 8 9), (0, .class_ 10), (0, .nameAndType 11 12), (0, u "com/example/cascadex/cascadex/Letter$OfTag"), (0, u "name"), (0, u "Ljava/lang/String;"), (14, .class_ 28), (0, u "com/example/cascadex/cascadex/Letter"), (0, u "(Ljava/lang/String;)V")] 26

def k14c0 : Code := { maxStack := 2, maxLocals := 2, code := prog_51_method_1_code, exceptionTable := #[], attributes := #[] }
def k14m0 : Method := { name := "<init>", desc := "(Ljava/lang/String;)V", sig := { parameters := [(.object "java/lang/String")], returnType := none }, accessFlags := 1, code := some k14c0 }
/-- com/example/cascadex/cascadex/Letter$OfTag -/
def k14 : Class := { plain "com/example/cascadex/cascadex/Letter$OfTag" (some 2) with
  accessFlags := 49
  interfaces := #[3]
  cf := some (fileOf pool14 8 #[.nestHost 27] #[{ accessFlags := 1, nameIndex := 5, descriptorIndex := 29, attributes := #[] }] 49 2 #[27] #[{ accessFlags := 18, nameIndex := 11, descriptorIndex := 12, attributes := #[] }])
  fields := #[{ name := "name", type := (.object "java/lang/String"), accessFlags := 18, slot := 0, constantValue := 0 }]
  methods := #[k14m0]
  instanceTypes := #[(.object "java/lang/String")]
  staticTypes := #[]
  resolved := Array.replicate 56 none
  statics := none }

def pool15 : Array CpInfo := pool [(9, u "<init>"), (6, .class_ 18), (1, u "java/lang/Object"), (0, u "()V"), (1, .class_ 23), (1, u "jdk/internal/util/ArraysSupport"), (0, u "LOG2_ARRAY_LONG_INDEX_SCALE"), (0, u "I"), (2, u "U"), (0, u "Ljdk/internal/misc/Unsafe;"), (8, u "BIG_ENDIAN"), (0, u "Z"), (8, u "LOG2_BYTE_BIT_SIZE"), (4, u "LOG2_ARRAY_INT_INDEX_SCALE"), (6, .class_ 61), (0, u "[B"), (0, .methodref 21 63), (0, .nameAndType 64 65), (0, u "signedHashCode"), (0, u "(I[BII)I"), (42, u "JLA"), (0, u "Ljdk/internal/access/JavaLangAccess;"), (11, u "LOG2_ARRAY_BOOLEAN_INDEX_SCALE"), (9, u "LOG2_ARRAY_BYTE_INDEX_SCALE"), (5, u "LOG2_ARRAY_CHAR_INDEX_SCALE"), (5, u "LOG2_ARRAY_SHORT_INDEX_SCALE"), (18, u "LOG2_ARRAY_FLOAT_INDEX_SCALE"), (24, u "LOG2_ARRAY_DOUBLE_INDEX_SCALE"), (89, u "T_BOOLEAN"), (2, u "T_CHAR"), (1, u "T_FLOAT"), (1, u "T_DOUBLE"), (1, u "T_BYTE"), (1, u "T_SHORT"), (1, u "T_INT"), (1, u "T_LONG"), (1, u "SOFT_MAX_ARRAY_LENGTH"), (26, u "vectorizedHashCode"), (0, u "(Ljava/lang/Object;IIII)I")] 55

def k15m0 : Method := { name := "<init>", desc := "()V", sig := { parameters := [], returnType := none }, accessFlags := 2, code := none }
def k15c1 : Code := { maxStack := 4, maxLocals := 5, code := jdk_48_method_4_code, exceptionTable := #[], attributes := #[] }
def k15m1 : Method := { name := "vectorizedHashCode", desc := "(Ljava/lang/Object;IIII)I", sig := { parameters := [(.object "java/lang/Object"), .int, .int, .int, .int], returnType := some .int }, accessFlags := 9, code := some k15c1 }
def k15c2 : Code := { maxStack := 3, maxLocals := 6, code := jdk_48_method_5_code, exceptionTable := #[], attributes := #[] }
def k15m2 : Method := { name := "signedHashCode", desc := "(I[BII)I", sig := { parameters := [.int, (.array .byte), .int, .int], returnType := some .int }, accessFlags := 10, code := some k15c2 }
/-- jdk/internal/util/ArraysSupport -/
def k15 : Class := { plain "jdk/internal/util/ArraysSupport" (some 0) with
  accessFlags := 33
  interfaces := #[]
  cf := some (fileOf pool15 21 #[] #[{ accessFlags := 2, nameIndex := 9, descriptorIndex := 19, attributes := #[] }, { accessFlags := 9, nameIndex := 321, descriptorIndex := 322, attributes := #[] }, { accessFlags := 10, nameIndex := 64, descriptorIndex := 65, attributes := #[] }] 33 16 #[] #[{ accessFlags := 24, nameIndex := 28, descriptorIndex := 29, attributes := #[] }, { accessFlags := 26, nameIndex := 38, descriptorIndex := 39, attributes := #[] }, { accessFlags := 25, nameIndex := 121, descriptorIndex := 25, attributes := #[] }, { accessFlags := 25, nameIndex := 131, descriptorIndex := 25, attributes := #[] }, { accessFlags := 25, nameIndex := 137, descriptorIndex := 25, attributes := #[] }, { accessFlags := 25, nameIndex := 143, descriptorIndex := 25, attributes := #[] }, { accessFlags := 25, nameIndex := 53, descriptorIndex := 25, attributes := #[] }, { accessFlags := 25, nameIndex := 24, descriptorIndex := 25, attributes := #[] }, { accessFlags := 25, nameIndex := 162, descriptorIndex := 25, attributes := #[] }, { accessFlags := 25, nameIndex := 187, descriptorIndex := 25, attributes := #[] }, { accessFlags := 26, nameIndex := 48, descriptorIndex := 25, attributes := #[] }, { accessFlags := 25, nameIndex := 277, descriptorIndex := 25, attributes := #[] }, { accessFlags := 25, nameIndex := 280, descriptorIndex := 25, attributes := #[] }, { accessFlags := 25, nameIndex := 282, descriptorIndex := 25, attributes := #[] }, { accessFlags := 25, nameIndex := 284, descriptorIndex := 25, attributes := #[] }, { accessFlags := 25, nameIndex := 286, descriptorIndex := 25, attributes := #[] }, { accessFlags := 25, nameIndex := 288, descriptorIndex := 25, attributes := #[] }, { accessFlags := 25, nameIndex := 290, descriptorIndex := 25, attributes := #[] }, { accessFlags := 25, nameIndex := 292, descriptorIndex := 25, attributes := #[] }, { accessFlags := 26, nameIndex := 108, descriptorIndex := 109, attributes := #[] }, { accessFlags := 25, nameIndex := 294, descriptorIndex := 25, attributes := #[] }])
  fields := #[{ name := "U", type := (.object "jdk/internal/misc/Unsafe"), accessFlags := 24, slot := 0, constantValue := 0 }, { name := "BIG_ENDIAN", type := .boolean, accessFlags := 26, slot := 1, constantValue := 0 }, { name := "LOG2_ARRAY_BOOLEAN_INDEX_SCALE", type := .int, accessFlags := 25, slot := 2, constantValue := 0 }, { name := "LOG2_ARRAY_BYTE_INDEX_SCALE", type := .int, accessFlags := 25, slot := 3, constantValue := 0 }, { name := "LOG2_ARRAY_CHAR_INDEX_SCALE", type := .int, accessFlags := 25, slot := 4, constantValue := 0 }, { name := "LOG2_ARRAY_SHORT_INDEX_SCALE", type := .int, accessFlags := 25, slot := 5, constantValue := 0 }, { name := "LOG2_ARRAY_INT_INDEX_SCALE", type := .int, accessFlags := 25, slot := 6, constantValue := 0 }, { name := "LOG2_ARRAY_LONG_INDEX_SCALE", type := .int, accessFlags := 25, slot := 7, constantValue := 0 }, { name := "LOG2_ARRAY_FLOAT_INDEX_SCALE", type := .int, accessFlags := 25, slot := 8, constantValue := 0 }, { name := "LOG2_ARRAY_DOUBLE_INDEX_SCALE", type := .int, accessFlags := 25, slot := 9, constantValue := 0 }, { name := "LOG2_BYTE_BIT_SIZE", type := .int, accessFlags := 26, slot := 10, constantValue := 0 }, { name := "T_BOOLEAN", type := .int, accessFlags := 25, slot := 11, constantValue := 0 }, { name := "T_CHAR", type := .int, accessFlags := 25, slot := 12, constantValue := 0 }, { name := "T_FLOAT", type := .int, accessFlags := 25, slot := 13, constantValue := 0 }, { name := "T_DOUBLE", type := .int, accessFlags := 25, slot := 14, constantValue := 0 }, { name := "T_BYTE", type := .int, accessFlags := 25, slot := 15, constantValue := 0 }, { name := "T_SHORT", type := .int, accessFlags := 25, slot := 16, constantValue := 0 }, { name := "T_INT", type := .int, accessFlags := 25, slot := 17, constantValue := 0 }, { name := "T_LONG", type := .int, accessFlags := 25, slot := 18, constantValue := 0 }, { name := "JLA", type := (.object "jdk/internal/access/JavaLangAccess"), accessFlags := 26, slot := 19, constantValue := 0 }, { name := "SOFT_MAX_ARRAY_LENGTH", type := .int, accessFlags := 25, slot := 20, constantValue := 0 }]
  methods := #[k15m0, k15m1, k15m2]
  instanceTypes := #[]
  staticTypes := #[(.object "jdk/internal/misc/Unsafe"), .boolean, .int, .int, .int, .int, .int, .int, .int, .int, .int, .int, .int, .int, .int, .int, .int, .int, .int, (.object "jdk/internal/access/JavaLangAccess"), .int]
  resolved := Array.replicate 378 none
  statics := none }

def pool16 : Array CpInfo := pool [(2, .class_ 4), (1, u "java/lang/Object"), (0, u "<init>"), (0, u "()V"), (17, .class_ 26), (1, u "jdk/internal/util/Preconditions"), (28, .class_ 56), (0, u "jdk/internal/util/Preconditions$4"), (57, .class_ 115), (0, u "jdk/internal/util/Preconditions$1"), (7, u "SIOOBE_FORMATTER"), (0, u "Ljava/util/function/BiFunction;"), (0, .class_ 126), (0, u "jdk/internal/util/Preconditions$2"), (3, u "AIOOBE_FORMATTER"), (0, .class_ 132), (0, u "jdk/internal/util/Preconditions$3"), (3, u "IOOBE_FORMATTER")] 57

def k16m0 : Method := { name := "<init>", desc := "()V", sig := { parameters := [], returnType := none }, accessFlags := 1, code := none }
/-- jdk/internal/util/Preconditions -/
def k16 : Class := { plain "jdk/internal/util/Preconditions" (some 0) with
  accessFlags := 33
  interfaces := #[]
  cf := some (fileOf pool16 24 #[.nestMembers #[55, 131, 125, 114]] #[{ accessFlags := 1, nameIndex := 5, descriptorIndex := 6, attributes := #[] }] 33 2 #[] #[{ accessFlags := 25, nameIndex := 123, descriptorIndex := 124, attributes := #[] }, { accessFlags := 25, nameIndex := 130, descriptorIndex := 124, attributes := #[] }, { accessFlags := 25, nameIndex := 136, descriptorIndex := 124, attributes := #[] }])
  fields := #[{ name := "SIOOBE_FORMATTER", type := (.object "java/util/function/BiFunction"), accessFlags := 25, slot := 0, constantValue := 0 }, { name := "AIOOBE_FORMATTER", type := (.object "java/util/function/BiFunction"), accessFlags := 25, slot := 1, constantValue := 0 }, { name := "IOOBE_FORMATTER", type := (.object "java/util/function/BiFunction"), accessFlags := 25, slot := 2, constantValue := 0 }]
  methods := #[k16m0]
  instanceTypes := #[]
  staticTypes := #[(.object "java/util/function/BiFunction"), (.object "java/util/function/BiFunction"), (.object "java/util/function/BiFunction")]
  resolved := Array.replicate 194 none
  statics := some 1 }

def pool17 : Array CpInfo := pool [(1, u "java/lang/Cloneable"), (0, .class_ 1), (0, u "java/lang/Object"), (0, .class_ 3)] 3

/-- java/lang/Cloneable -/
def k17 : Class := { plain "java/lang/Cloneable" (some 0) with
  accessFlags := 1537
  interfaces := #[]
  cf := some (fileOf pool17 2 #[] #[] 1537 4 #[] #[])
  fields := #[]
  methods := #[]
  instanceTypes := #[]
  staticTypes := #[]
  resolved := Array.replicate 8 none
  statics := none }

/-- the primitive byte -/
def k18 : Class := { plain "byte" none with kind := .primitive 'B', accessFlags := 0x411 }
/-- [B -/
def k19 : Class := { plain "[B" (some 0) with kind := .array 18 .byte, interfaces := #[17, 6], accessFlags := 1041 }

/-- the primitive char -/
def k20 : Class := { plain "char" none with kind := .primitive 'C', accessFlags := 0x411 }
/-- [C -/
def k21 : Class := { plain "[C" (some 0) with kind := .array 20 .char, interfaces := #[17, 6], accessFlags := 1041 }

/-- the primitive int -/
def k22 : Class := { plain "int" none with kind := .primitive 'I', accessFlags := 0x411 }
/-- [I -/
def k23 : Class := { plain "[I" (some 0) with kind := .array 22 .int, interfaces := #[17, 6], accessFlags := 1041 }

def heap : Heap := #[{ cls := 11, slots := #[.long 0, .int 1, .null, .int 0, .null, .int 0, .int 0], vm := .statics 11 },
  { cls := 16, slots := #[.null, .null, .null], vm := .statics 16 }]
def classes : Array Class := #[k0, k1, k2, k3, k4, k5, k6, k7, k8, k9, k10, k11, k12, k13, k14, k15, k16, k17, k18, k19, k20, k21, k22, k23]
def interned : List (Array UInt16 × Addr) := []
def slotsUsed : Nat := 10
def theMethod : MethodId := ⟨1, 5⟩
def args0 : Array Value := #[.int 1, .int 1, .int 1, .int 1, .int 1]
def aboutOver (below : List Frame) : State where
  vm := { classes := classes, interned := interned.toArray }
  heap := heap
  slotsUsed := slotsUsed
  threads := #[{ frames := .invoking theMethod args0 :: below }]
def below0 : List Frame := [.native { method := ⟨0, 0⟩, args := #[] }]
def about1 : State := aboutOver below0
def p0 : Program := .bare "" "" ""
def e0 : Env := launch0.env 0 0 0
theorem w_frames : about1.frames = Frame.invoking theMethod args0 :: below0 := rfl
set_option maxRecDepth 65536 in
theorem w_args : argsFit about1.vm theMethod args0 = true := by decide +kernel
set_option maxRecDepth 65536 in
theorem w_heap : heapFits about1 = true := by decide +kernel
set_option maxRecDepth 65536 in
theorem w_runnable : about1.curStatus? = some .runnable := by decide +kernel
set_option maxRecDepth 65536 in
theorem w_alone : about1.alone = true := by decide +kernel
set_option maxRecDepth 65536 in
theorem w_named : about1.methodNamed? x = some theMethod := by decide +kernel
set_option maxRecDepth 65536 in
theorem w_hears : about1.hears theMethod below0 = true := by decide +kernel
set_option maxRecDepth 65536 in
theorem w_ripe : about1.ripe theMethod args0 below0 = true := by decide +kernel
theorem w_running : about1.status = .running := rfl
set_option maxRecDepth 65536 in
theorem w_room : about1.hasRoom e0.platform room_1 = true :=
  launch0.hasRoom_least _ room_1 (by decide +kernel) (by decide +kernel) (by decide +kernel) (by decide +kernel) (by decide +kernel) (by decide +kernel)
theorem allAtoms_all (ts : List Jvm.Cond) (a : Array Jvm.Value) (st : Jvm.State) : (allAtoms ts).before a st = ts.all (fun c => c.before a st) := by
  induction ts with
  | nil => rfl
  | cons c t ih =>
    show (Jvm.Cond.and c (allAtoms t)).before a st = _
    rw [Jvm.Cond.before_and, ih, List.all_cons]
def words1 : List Jvm.Cond := Jvm.Cond.code x code maxLocals ret :: tables_1
/-- a 'code' word, met by the world's own term for the bytes: nothing is compared byte by byte -/
theorem code_word {y : MethodName} {bytes : ByteArray} {mx : Nat} {rt : Option FieldType} {a : Array Value} {s : State} {m : MethodId} {meth : Method} {c : Code} (h1 : s.methodNamed? y = some m) (h2 : s.vm.method? m = some meth) (h3 : meth.code = some c) (h4 : c.code = bytes)
    (h5 : (c.maxLocals == mx && c.exceptionTable.isEmpty && decide (c.maxStack ≤ mostOperands) && decide (meth.sig.returnType = rt) && !meth.locks && decide (parseMethodDescriptor y.desc = some meth.sig)) = true) : (Jvm.Cond.code y bytes mx rt).before a s = true := by
  simp only [Bool.and_eq_true, beq_iff_eq, Bool.not_eq_true', decide_eq_true_eq] at h5
  obtain ⟨⟨⟨⟨⟨g1, g2⟩, g3⟩, g4⟩, g5⟩, g6⟩ := h5
  simp [Cond.before, Cond.holds, Cond.value, h1, h2, h3, h4, g1, g2, g3, g4, g5, g6]
def isCode : Jvm.Cond → Bool
  | .code _ _ _ _ => true
  | _ => false
theorem all_split {L : List Jvm.Cond} {P : Jvm.Cond → Bool} (h1 : L.all (fun c => isCode c || P c) = true) (h2 : ∀ c ∈ L.filter isCode, P c = true) : L.all P = true := by
  refine List.all_eq_true.mpr fun c hc => ?_
  have h := List.all_eq_true.mp h1 c hc
  rcases Bool.eq_false_or_eq_true (isCode c) with hi | hi
  · exact h2 c (List.mem_filter.mpr ⟨hc, hi⟩)
  · simpa [hi] using h
set_option maxRecDepth 65536 in
theorem w_c0 : (Jvm.Cond.code x code maxLocals ret).before args0 about1 = true := code_word (m := ⟨1, 5⟩) (meth := k1m5) (c := k1c5) (by decide +kernel) rfl rfl rfl (by decide +kernel)
set_option maxRecDepth 65536 in
theorem w_c1 : (Jvm.Cond.code ({ cls := "com/example/cascadex/cascadex/OfTextEqualsPinLaw", name := "str", desc := "(I)Ljava/lang/String;" } : Jvm.MethodName) method_4_code (2 : Nat) (Option.some (Jvm.ClassFile.FieldType.object "java/lang/String"))).before args0 about1 = true := code_word (m := ⟨1, 3⟩) (meth := k1m3) (c := k1c3) (by decide +kernel) rfl rfl rfl (by decide +kernel)
set_option maxRecDepth 65536 in
theorem w_c2 : (Jvm.Cond.code ({ cls := "com/example/cascadex/cascadex/OfTextEqualsPinLaw", name := "len", desc := "(I)I" } : Jvm.MethodName) method_2_code (1 : Nat) (Option.some Jvm.ClassFile.FieldType.int)).before args0 about1 = true := code_word (m := ⟨1, 1⟩) (meth := k1m1) (c := k1c1) (by decide +kernel) rfl rfl rfl (by decide +kernel)
set_option maxRecDepth 65536 in
theorem w_c3 : (Jvm.Cond.code ({ cls := "java/lang/String", name := "<init>", desc := "([C)V" } : Jvm.MethodName) jdk_42_method_3_code (2 : Nat) (Option.none : Option Jvm.ClassFile.FieldType)).before args0 about1 = true := code_word (m := ⟨11, 1⟩) (meth := k11m1) (c := k11c1) (by decide +kernel) rfl rfl rfl (by decide +kernel)
set_option maxRecDepth 65536 in
theorem w_c4 : (Jvm.Cond.code ({ cls := "java/lang/String", name := "<init>", desc := "([CIILjava/lang/Void;)V" } : Jvm.MethodName) jdk_42_method_149_code (6 : Nat) (Option.none : Option Jvm.ClassFile.FieldType)).before args0 about1 = true := code_word (m := ⟨11, 4⟩) (meth := k11m4) (c := k11c4) (by decide +kernel) rfl rfl rfl (by decide +kernel)
set_option maxRecDepth 65536 in
theorem w_c5 : (Jvm.Cond.code ({ cls := "java/lang/Object", name := "<init>", desc := "()V" } : Jvm.MethodName) object_method_1_code (1 : Nat) (Option.none : Option Jvm.ClassFile.FieldType)).before args0 about1 = true := code_word (m := ⟨0, 0⟩) (meth := k0m0) (c := k0c0) (by decide +kernel) rfl rfl rfl (by decide +kernel)
set_option maxRecDepth 65536 in
theorem w_c6 : (Jvm.Cond.code ({ cls := "com/example/cascadex/cascadex/OfTextEqualsPinLaw", name := "ch", desc := "(II)C" } : Jvm.MethodName) method_3_code (2 : Nat) (Option.some Jvm.ClassFile.FieldType.char)).before args0 about1 = true := code_word (m := ⟨1, 2⟩) (meth := k1m2) (c := k1c2) (by decide +kernel) rfl rfl rfl (by decide +kernel)
set_option maxRecDepth 65536 in
theorem w_c7 : (Jvm.Cond.code ({ cls := "java/lang/StringUTF16", name := "compress", desc := "([CII)[B" } : Jvm.MethodName) jdk_52_method_16_code (6 : Nat) (Option.some (Jvm.ClassFile.FieldType.array Jvm.ClassFile.FieldType.byte))).before args0 about1 = true := code_word (m := ⟨12, 2⟩) (meth := k12m2) (c := k12c2) (by decide +kernel) rfl rfl rfl (by decide +kernel)
set_option maxRecDepth 65536 in
theorem w_c8 : (Jvm.Cond.code ({ cls := "java/lang/StringUTF16", name := "compress", desc := "([CI[BII)I" } : Jvm.MethodName) jdk_52_method_21_code (7 : Nat) (Option.some Jvm.ClassFile.FieldType.int)).before args0 about1 = true := code_word (m := ⟨12, 3⟩) (meth := k12m3) (c := k12c3) (by decide +kernel) rfl rfl rfl (by decide +kernel)
set_option maxRecDepth 65536 in
theorem w_c9 : (Jvm.Cond.code ({ cls := "java/lang/StringUTF16", name := "coderFromArrayLen", desc := "([BI)B" } : Jvm.MethodName) jdk_52_method_15_code (2 : Nat) (Option.some Jvm.ClassFile.FieldType.byte)).before args0 about1 = true := code_word (m := ⟨12, 1⟩) (meth := k12m1) (c := k12c1) (by decide +kernel) rfl rfl rfl (by decide +kernel)
set_option maxRecDepth 65536 in
theorem w_c10 : (Jvm.Cond.code ({ cls := "com/example/cascadex/cascadex/Letter$OfText", name := "<init>", desc := "(Ljava/lang/String;Ljava/lang/String;)V" } : Jvm.MethodName) prog_52_method_1_code (3 : Nat) (Option.none : Option Jvm.ClassFile.FieldType)).before args0 about1 = true := code_word (m := ⟨5, 0⟩) (meth := k5m0) (c := k5c0) (by decide +kernel) rfl rfl rfl (by decide +kernel)
set_option maxRecDepth 65536 in
theorem w_c11 : (Jvm.Cond.code ({ cls := "java/lang/Record", name := "<init>", desc := "()V" } : Jvm.MethodName) jdk_30_method_1_code (1 : Nat) (Option.none : Option Jvm.ClassFile.FieldType)).before args0 about1 = true := code_word (m := ⟨2, 0⟩) (meth := k2m0) (c := k2c0) (by decide +kernel) rfl rfl rfl (by decide +kernel)
set_option maxRecDepth 65536 in
theorem w_c12 : (Jvm.Cond.code ({ cls := "com/example/cascadex/cascadex/OfTextEqualsPinLaw", name := "same", desc := "(II)Z" } : Jvm.MethodName) method_5_code (3 : Nat) (Option.some Jvm.ClassFile.FieldType.boolean)).before args0 about1 = true := code_word (m := ⟨1, 4⟩) (meth := k1m4) (c := k1c4) (by decide +kernel) rfl rfl rfl (by decide +kernel)
set_option maxRecDepth 65536 in
theorem w_c13 : (Jvm.Cond.code ({ cls := "com/example/cascadex/cascadex/Letter$OfText", name := "equals", desc := "(Ljava/lang/Object;)Z" } : Jvm.MethodName) prog_52_method_3_code (3 : Nat) (Option.some Jvm.ClassFile.FieldType.boolean)).before args0 about1 = true := code_word (m := ⟨5, 1⟩) (meth := k5m1) (c := k5c1) (by decide +kernel) rfl rfl rfl (by decide +kernel)
set_option maxRecDepth 65536 in
theorem w_c14 : (Jvm.Cond.code ({ cls := "java/lang/String", name := "equals", desc := "(Ljava/lang/Object;)Z" } : Jvm.MethodName) jdk_42_method_66_code (3 : Nat) (Option.some Jvm.ClassFile.FieldType.boolean)).before args0 about1 = true := code_word (m := ⟨11, 2⟩) (meth := k11m2) (c := k11c2) (by decide +kernel) rfl rfl rfl (by decide +kernel)
set_option maxRecDepth 65536 in
theorem w_c15 : (Jvm.Cond.code ({ cls := "java/lang/StringLatin1", name := "equals", desc := "([B[B)Z" } : Jvm.MethodName) jdk_43_method_13_code (3 : Nat) (Option.some Jvm.ClassFile.FieldType.boolean)).before args0 about1 = true := code_word (m := ⟨13, 1⟩) (meth := k13m1) (c := k13c1) (by decide +kernel) rfl rfl rfl (by decide +kernel)
set_option maxRecDepth 65536 in
theorem w_c16 : (Jvm.Cond.code ({ cls := "com/example/cascadex/cascadex/Letter$OfTag", name := "<init>", desc := "(Ljava/lang/String;)V" } : Jvm.MethodName) prog_51_method_1_code (2 : Nat) (Option.none : Option Jvm.ClassFile.FieldType)).before args0 about1 = true := code_word (m := ⟨14, 0⟩) (meth := k14m0) (c := k14c0) (by decide +kernel) rfl rfl rfl (by decide +kernel)
set_option maxRecDepth 65536 in
theorem w_c17 : (Jvm.Cond.code ({ cls := "com/example/cascadex/cascadex/Letter$OfText", name := "hashCode", desc := "()I" } : Jvm.MethodName) prog_52_method_4_code (1 : Nat) (Option.some Jvm.ClassFile.FieldType.int)).before args0 about1 = true := code_word (m := ⟨5, 2⟩) (meth := k5m2) (c := k5c2) (by decide +kernel) rfl rfl rfl (by decide +kernel)
set_option maxRecDepth 65536 in
theorem w_c18 : (Jvm.Cond.code ({ cls := "java/lang/String", name := "hashCode", desc := "()I" } : Jvm.MethodName) jdk_42_method_78_code (2 : Nat) (Option.some Jvm.ClassFile.FieldType.int)).before args0 about1 = true := code_word (m := ⟨11, 3⟩) (meth := k11m3) (c := k11c3) (by decide +kernel) rfl rfl rfl (by decide +kernel)
set_option maxRecDepth 65536 in
theorem w_c19 : (Jvm.Cond.code ({ cls := "java/lang/String", name := "isLatin1", desc := "()Z" } : Jvm.MethodName) jdk_42_method_154_code (1 : Nat) (Option.some Jvm.ClassFile.FieldType.boolean)).before args0 about1 = true := code_word (m := ⟨11, 5⟩) (meth := k11m5) (c := k11c5) (by decide +kernel) rfl rfl rfl (by decide +kernel)
set_option maxRecDepth 65536 in
theorem w_c20 : (Jvm.Cond.code ({ cls := "java/lang/StringLatin1", name := "hashCode", desc := "([B)I" } : Jvm.MethodName) jdk_43_method_21_code (1 : Nat) (Option.some Jvm.ClassFile.FieldType.int)).before args0 about1 = true := code_word (m := ⟨13, 2⟩) (meth := k13m2) (c := k13c2) (by decide +kernel) rfl rfl rfl (by decide +kernel)
set_option maxRecDepth 65536 in
theorem w_c21 : (Jvm.Cond.code ({ cls := "jdk/internal/util/ArraysSupport", name := "vectorizedHashCode", desc := "(Ljava/lang/Object;IIII)I" } : Jvm.MethodName) jdk_48_method_4_code (5 : Nat) (Option.some Jvm.ClassFile.FieldType.int)).before args0 about1 = true := code_word (m := ⟨15, 1⟩) (meth := k15m1) (c := k15c1) (by decide +kernel) rfl rfl rfl (by decide +kernel)
set_option maxRecDepth 65536 in
theorem w_c22 : (Jvm.Cond.code ({ cls := "jdk/internal/util/ArraysSupport", name := "signedHashCode", desc := "(I[BII)I" } : Jvm.MethodName) jdk_48_method_5_code (6 : Nat) (Option.some Jvm.ClassFile.FieldType.int)).before args0 about1 = true := code_word (m := ⟨15, 2⟩) (meth := k15m2) (c := k15c2) (by decide +kernel) rfl rfl rfl (by decide +kernel)
def codes1 : List Jvm.Cond := [Jvm.Cond.code x code maxLocals ret, Jvm.Cond.code ({ cls := "com/example/cascadex/cascadex/OfTextEqualsPinLaw", name := "str", desc := "(I)Ljava/lang/String;" } : Jvm.MethodName) method_4_code (2 : Nat) (Option.some (Jvm.ClassFile.FieldType.object "java/lang/String")), Jvm.Cond.code ({ cls := "com/example/cascadex/cascadex/OfTextEqualsPinLaw", name := "len", desc := "(I)I" } : Jvm.MethodName) method_2_code (1 : Nat) (Option.some Jvm.ClassFile.FieldType.int), Jvm.Cond.code ({ cls := "java/lang/String", name := "<init>", desc := "([C)V" } : Jvm.MethodName) jdk_42_method_3_code (2 : Nat) (Option.none : Option Jvm.ClassFile.FieldType), Jvm.Cond.code ({ cls := "java/lang/String", name := "<init>", desc := "([CIILjava/lang/Void;)V" } : Jvm.MethodName) jdk_42_method_149_code (6 : Nat) (Option.none : Option Jvm.ClassFile.FieldType), Jvm.Cond.code ({ cls := "java/lang/Object", name := "<init>", desc := "()V" } : Jvm.MethodName) object_method_1_code (1 : Nat) (Option.none : Option Jvm.ClassFile.FieldType), Jvm.Cond.code ({ cls := "com/example/cascadex/cascadex/OfTextEqualsPinLaw", name := "ch", desc := "(II)C" } : Jvm.MethodName) method_3_code (2 : Nat) (Option.some Jvm.ClassFile.FieldType.char), Jvm.Cond.code ({ cls := "java/lang/StringUTF16", name := "compress", desc := "([CII)[B" } : Jvm.MethodName) jdk_52_method_16_code (6 : Nat) (Option.some (Jvm.ClassFile.FieldType.array Jvm.ClassFile.FieldType.byte)), Jvm.Cond.code ({ cls := "java/lang/StringUTF16", name := "compress", desc := "([CI[BII)I" } : Jvm.MethodName) jdk_52_method_21_code (7 : Nat) (Option.some Jvm.ClassFile.FieldType.int), Jvm.Cond.code ({ cls := "java/lang/StringUTF16", name := "coderFromArrayLen", desc := "([BI)B" } : Jvm.MethodName) jdk_52_method_15_code (2 : Nat) (Option.some Jvm.ClassFile.FieldType.byte), Jvm.Cond.code ({ cls := "com/example/cascadex/cascadex/Letter$OfText", name := "<init>", desc := "(Ljava/lang/String;Ljava/lang/String;)V" } : Jvm.MethodName) prog_52_method_1_code (3 : Nat) (Option.none : Option Jvm.ClassFile.FieldType), Jvm.Cond.code ({ cls := "java/lang/Record", name := "<init>", desc := "()V" } : Jvm.MethodName) jdk_30_method_1_code (1 : Nat) (Option.none : Option Jvm.ClassFile.FieldType), Jvm.Cond.code ({ cls := "com/example/cascadex/cascadex/OfTextEqualsPinLaw", name := "same", desc := "(II)Z" } : Jvm.MethodName) method_5_code (3 : Nat) (Option.some Jvm.ClassFile.FieldType.boolean), Jvm.Cond.code ({ cls := "com/example/cascadex/cascadex/Letter$OfText", name := "equals", desc := "(Ljava/lang/Object;)Z" } : Jvm.MethodName) prog_52_method_3_code (3 : Nat) (Option.some Jvm.ClassFile.FieldType.boolean), Jvm.Cond.code ({ cls := "java/lang/String", name := "equals", desc := "(Ljava/lang/Object;)Z" } : Jvm.MethodName) jdk_42_method_66_code (3 : Nat) (Option.some Jvm.ClassFile.FieldType.boolean), Jvm.Cond.code ({ cls := "java/lang/StringLatin1", name := "equals", desc := "([B[B)Z" } : Jvm.MethodName) jdk_43_method_13_code (3 : Nat) (Option.some Jvm.ClassFile.FieldType.boolean), Jvm.Cond.code ({ cls := "com/example/cascadex/cascadex/Letter$OfTag", name := "<init>", desc := "(Ljava/lang/String;)V" } : Jvm.MethodName) prog_51_method_1_code (2 : Nat) (Option.none : Option Jvm.ClassFile.FieldType), Jvm.Cond.code ({ cls := "com/example/cascadex/cascadex/Letter$OfText", name := "hashCode", desc := "()I" } : Jvm.MethodName) prog_52_method_4_code (1 : Nat) (Option.some Jvm.ClassFile.FieldType.int), Jvm.Cond.code ({ cls := "java/lang/String", name := "hashCode", desc := "()I" } : Jvm.MethodName) jdk_42_method_78_code (2 : Nat) (Option.some Jvm.ClassFile.FieldType.int), Jvm.Cond.code ({ cls := "java/lang/String", name := "isLatin1", desc := "()Z" } : Jvm.MethodName) jdk_42_method_154_code (1 : Nat) (Option.some Jvm.ClassFile.FieldType.boolean), Jvm.Cond.code ({ cls := "java/lang/StringLatin1", name := "hashCode", desc := "([B)I" } : Jvm.MethodName) jdk_43_method_21_code (1 : Nat) (Option.some Jvm.ClassFile.FieldType.int), Jvm.Cond.code ({ cls := "jdk/internal/util/ArraysSupport", name := "vectorizedHashCode", desc := "(Ljava/lang/Object;IIII)I" } : Jvm.MethodName) jdk_48_method_4_code (5 : Nat) (Option.some Jvm.ClassFile.FieldType.int), Jvm.Cond.code ({ cls := "jdk/internal/util/ArraysSupport", name := "signedHashCode", desc := "(I[BII)I" } : Jvm.MethodName) jdk_48_method_5_code (6 : Nat) (Option.some Jvm.ClassFile.FieldType.int)]
set_option maxRecDepth 65536 in
theorem codes_eq : words1.filter isCode = codes1 := rfl
theorem w_codes : ∀ c ∈ words1.filter isCode, c.before args0 about1 = true := by
  rw [codes_eq]
  intro c hc
  simp only [codes1, List.mem_cons, List.not_mem_nil, or_false] at hc
  rcases hc with rfl | rfl | rfl | rfl | rfl | rfl | rfl | rfl | rfl | rfl | rfl | rfl | rfl | rfl | rfl | rfl | rfl | rfl | rfl | rfl | rfl | rfl | rfl
  · exact w_c0
  · exact w_c1
  · exact w_c2
  · exact w_c3
  · exact w_c4
  · exact w_c5
  · exact w_c6
  · exact w_c7
  · exact w_c8
  · exact w_c9
  · exact w_c10
  · exact w_c11
  · exact w_c12
  · exact w_c13
  · exact w_c14
  · exact w_c15
  · exact w_c16
  · exact w_c17
  · exact w_c18
  · exact w_c19
  · exact w_c20
  · exact w_c21
  · exact w_c22
set_option maxRecDepth 65536 in
theorem w_t1 : (words1.take 24).all (fun c => isCode c || c.before args0 about1) = true := by decide +kernel
set_option maxRecDepth 65536 in
theorem w_t2 : ((words1.drop 24).take 24).all (fun c => isCode c || c.before args0 about1) = true := by decide +kernel
set_option maxRecDepth 65536 in
theorem w_t3 : (((words1.drop 24).drop 24).take 24).all (fun c => isCode c || c.before args0 about1) = true := by decide +kernel
set_option maxRecDepth 65536 in
theorem w_t4 : ((((words1.drop 24).drop 24).drop 24).take 24).all (fun c => isCode c || c.before args0 about1) = true := by decide +kernel
set_option maxRecDepth 65536 in
theorem w_t5 : (((((words1.drop 24).drop 24).drop 24).drop 24).take 24).all (fun c => isCode c || c.before args0 about1) = true := by decide +kernel
set_option maxRecDepth 65536 in
theorem w_t6 : (((((words1.drop 24).drop 24).drop 24).drop 24).drop 24).all (fun c => isCode c || c.before args0 about1) = true := by decide +kernel
theorem w_tables : (allAtoms (Jvm.Cond.code x code maxLocals ret :: tables_1)).before args0 about1 = true := by
  rw [allAtoms_all]
  show words1.all (fun c => c.before args0 about1) = true
  refine all_split ?_ w_codes
  rw [← List.take_append_drop 24 words1, List.all_append, w_t1, ← List.take_append_drop 24 (words1.drop 24), List.all_append, w_t2, ← List.take_append_drop 24 ((words1.drop 24).drop 24), List.all_append, w_t3, ← List.take_append_drop 24 (((words1.drop 24).drop 24).drop 24), List.all_append, w_t4, ← List.take_append_drop 24 ((((words1.drop 24).drop 24).drop 24).drop 24), List.all_append, w_t5, w_t6]
  rfl
set_option maxRecDepth 65536 in
theorem w_rest : rest_1_c.before args0 about1 = true := by decide +kernel
set_option maxRecDepth 65536 in
theorem w_case : (Jvm.Cond.and given_1 narrow_1).before args0 about1 = true := by decide +kernel
set_option maxRecDepth 65536 in
theorem w_consts : constsHeld consts_1 about1 := Jvm.Lit.constsHeldB_iff.mp (by decide +kernel)
theorem w_applies : (headSpec (Jvm.Cond.code x code maxLocals ret :: tables_1) room_1).applies x e0.platform about1 = true :=
  (Spec.applies_iff w_frames).mpr ⟨w_running, w_runnable, w_alone, w_named, w_hears, w_ripe, w_room, w_tables⟩
theorem atStart : AtStart classFile x code maxLocals ret World_1 tables_1 room_1 Calls_1 rest_1 Pre_1 launch0 p0 e0 about1 theMethod args0 below0 :=
  ⟨lists_1, trivial, launch0.admits_env _ _ _, launch0.least_env, fairChoices_fair.cas, fairChoices_fair.clock, w_frames, w_args, w_heap, w_applies, ⟨w_consts, trivial⟩, w_rest, w_case⟩
end start1
theorem witness_1 : WitnessClaimed_1 := ⟨start1.p0, start1.e0, start1.about1, start1.theMethod, start1.args0, start1.below0, start1.atStart⟩
end Jvm.Pilot.@@N@@
