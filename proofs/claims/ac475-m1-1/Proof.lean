import JvmDerived
import JvmDerived.Pilot.@@N@@Statement
import JvmDerived.Pilot.@@N@@Code
set_option linter.unusedVariables false
set_option linter.unusedSimpArgs false
@@BLOCK:NumsL.lean.txt@@
namespace Jvm.Pilot.@@N@@
open Jvm Jvm.ClassFile Sem Op Lib Jvm.Free Jvm.Stand Jvm.LawKit Jvm.RoadKit Bundle Jvm.Pilot.@@N@@.Jvm.D
section own_kit
variable {p : Program} {l : Launch} {e : Env} {R : Room} {s : State} {m : MethodId} {args : Array Value} {below : List Frame} {meth : Method} {c : Code} {T T' : State} {locs : List Loc} {cells slots : Nat}
/-- from the frame g over the state T the run comes to an end of which K speaks -/
def Go (p : Program) (e : Env) (below : List Frame) (T : State) (g : JFrame) (K : Outcome → State → Prop) : Prop :=
  ∃ s₂ o, Steps p.tables e below (T.setTop g) s₂ ∧ s₂.status = .running ∧ Ended s₂ below o ∧ K o s₂
def KQ (s : State) (Q : Option Value → Heap → List Loc → Prop) (k n : Nat) (o : Outcome) (U : State) : Prop :=
  ∃ v L, o = .returned v ∧ Q v U.heap L ∧ FrameEnd s o U L k n
theorem Go.of {g g' : JFrame} {K : Outcome → State → Prop} (h : ∀ t, Steps p.tables e below (T'.setTop g') t → Steps p.tables e below (T.setTop g) t) (k : Go p e below T' g' K) : Go p e below T g K := by
  obtain ⟨s₂, o, h1, h2⟩ := k
  exact ⟨s₂, o, h _ h1, h2⟩
theorem Go.cast {g g' : JFrame} {K : Outcome → State → Prop} (q : g = g') (k : Go p e below T g' K) : Go p e below T g K := q ▸ k
theorem Go.ret0 (X : Stand p l e R s m args below meth c T locs cells slots) (hx : p.tables.exec = Jvm.exec) (hret : meth.sig.returnType = none) (hlk : meth.locks = false) {pc : Nat} {Ls : Array Slot} {Q : Option Value → Heap → List Loc → Prop} {k n : Nat} {h : Heap}
    (hd : decode c.code pc = .ok (.return_, 1)) (eT : T.heap = h) (hk : cells ≤ k) (hn : slots ≤ n) (hq : Q none h locs) : Go p e below T (mkF m pc Ls []) (KQ s Q k n) := by
  obtain ⟨fs, hr, hrun, hended, hW, hsame⟩ := X.leave (v := none) (fun _ => rfl) hlk
  exact ⟨_, _, X.returnOut hx hret hd hr, hrun, hended, _, _, rfl, by show Q none T.heap _; rw [eT]; exact hq, ⟨_, rfl⟩, hW, hsame.mono hk hn⟩
theorem Go.retV (X : Stand p l e R s m args below meth c T locs cells slots) (hx : p.tables.exec = Jvm.exec) {t : FieldType} {w : Value} {i : Instr} {rest : List Value} (hret : meth.sig.returnType = some t) (hlk : meth.locks = false) {pc : Nat} {Ls : Array Slot} {Q : Option Value → Heap → List Loc → Prop} {k n : Nat} {h : Heap} (hn0 : narrow t w = w)
    (hi : (i = .ireturn ∧ (t = .int ∨ t = .boolean ∨ t = .byte ∨ t = .char ∨ t = .short) ∧ ∃ z, w = .int z) ∨ (i = .lreturn ∧ t = .long ∧ ∃ z, w = .long z) ∨ (i = .dreturn ∧ t = .double ∧ ∃ z, w = .double z) ∨ (i = .freturn ∧ t = .float ∧ ∃ z, w = .float z) ∨ (i = .areturn ∧ t.isReference = true ∧ w.isRef = true))
    (hd : decode c.code pc = .ok (i, 1)) (eT : T.heap = h) (hk : cells ≤ k) (hn : slots ≤ n) (hq : Q (some w) h locs) : Go p e below T (mkF m pc Ls (w :: rest)) (KQ s Q k n) := by
  obtain ⟨fs, hr, hrun, hended, hW, hsame⟩ := X.leave (v := some w) (fun h => by rw [hret] at h; cases h) hlk
  exact ⟨_, _, retOut X hx hret hn0 hi hd hr, hrun, hended, _, _, rfl, by show Q (some w) T.heap _; rw [eT]; exact hq, ⟨_, rfl⟩, hW, hsame.mono hk hn⟩
theorem Go.retI (X : Stand p l e R s m args below meth c T locs cells slots) (hx : p.tables.exec = Jvm.exec) {z : Int32} {rest : List Value} (hret : meth.sig.returnType = some .int) (hlk : meth.locks = false) {pc : Nat} {Ls : Array Slot} {Q : Option Value → Heap → List Loc → Prop} {k n : Nat} {h : Heap}
    (hd : decode c.code pc = .ok (.ireturn, 1)) (eT : T.heap = h) (hk : cells ≤ k) (hn : slots ≤ n) (hq : Q (some (.int z)) h locs) : Go p e below T (mkF m pc Ls (.int z :: rest)) (KQ s Q k n) :=
  Go.retV X hx hret hlk rfl (Or.inl ⟨rfl, Or.inl rfl, z, rfl⟩) hd eT hk hn hq
theorem Go.retJ (X : Stand p l e R s m args below meth c T locs cells slots) (hx : p.tables.exec = Jvm.exec) {z : Int64} {rest : List Value} (hret : meth.sig.returnType = some .long) (hlk : meth.locks = false) {pc : Nat} {Ls : Array Slot} {Q : Option Value → Heap → List Loc → Prop} {k n : Nat} {h : Heap}
    (hd : decode c.code pc = .ok (.lreturn, 1)) (eT : T.heap = h) (hk : cells ≤ k) (hn : slots ≤ n) (hq : Q (some (.long z)) h locs) : Go p e below T (mkF m pc Ls (.long z :: rest)) (KQ s Q k n) :=
  Go.retV X hx hret hlk rfl (Or.inr (Or.inl ⟨rfl, rfl, z, rfl⟩)) hd eT hk hn hq
theorem narrow_ref {t : FieldType} {w : Value} (ht : t.isReference = true) (hw : w.isRef = true) : narrow t w = w := by
  rcases ref_cases hw with rfl | ⟨z, rfl⟩ <;> cases t <;> first | rfl | (cases ht; done)
theorem Go.retA (X : Stand p l e R s m args below meth c T locs cells slots) (hx : p.tables.exec = Jvm.exec) {t : FieldType} {w : Value} {rest : List Value} (hret : meth.sig.returnType = some t) (hlk : meth.locks = false) {pc : Nat} {Ls : Array Slot} {Q : Option Value → Heap → List Loc → Prop} {k n : Nat} {h : Heap} (ht : t.isReference = true) (hw : w.isRef = true)
    (hd : decode c.code pc = .ok (.areturn, 1)) (eT : T.heap = h) (hk : cells ≤ k) (hn : slots ≤ n) (hq : Q (some w) h locs) : Go p e below T (mkF m pc Ls (w :: rest)) (KQ s Q k n) :=
  Go.retV X hx hret hlk (narrow_ref ht hw) (Or.inr (Or.inr (Or.inr (Or.inr ⟨rfl, ht, hw⟩)))) hd eT hk hn hq
theorem Go.retN (X : Stand p l e R s m args below meth c T locs cells slots) (hx : p.tables.exec = Jvm.exec) {t : FieldType} {z : Int32} {rest : List Value} (hret : meth.sig.returnType = some t) (hlk : meth.locks = false) {pc : Nat} {Ls : Array Slot} {Q : Option Value → Heap → List Loc → Prop} {k n : Nat} {h : Heap} (ht : t = .boolean ∨ t = .byte ∨ t = .char ∨ t = .short)
    (hd : decode c.code pc = .ok (.ireturn, 1)) (eT : T.heap = h) (hk : cells ≤ k) (hn : slots ≤ n) (hq : Q (some (.int (nar t z))) h locs) : Go p e below T (mkF m pc Ls (.int z :: rest)) (KQ s Q k n) := by
  obtain ⟨fs, hr, hrun, hended, hW, hsame⟩ := X.leave (v := some (.int (nar t z))) (fun h => by rw [hret] at h; cases h) hlk
  exact ⟨_, _, Jvm.RoadKit.retN X hx hret ht hd hr, hrun, hended, _, _, rfl, by show Q _ T.heap _; rw [eT]; exact hq, ⟨_, rfl⟩, hW, hsame.mono hk hn⟩
/-- the contract of one body, at the arguments as and the heap h0 -/
abbrev Ctr (l : Launch) (Z : State) (y : MethodName) (bytes : ByteArray) (mx : Nat) (rt : Option FieldType) (ws : List Jvm.Cond) (R : Room) (as : Array Value) (h0 : Heap) (Q : Option Value → Heap → List Loc → Prop) : Prop :=
  MetFree l y (head1 (Jvm.Cond.code y bytes mx rt :: ws) R) (fun a U => a = as ∧ Z.Warmed39 U.vm ∧ U.heap = h0) (fun _ _ _ _ _ => True) (fun _ U o U' => ∃ v L, o = .returned v ∧ Q v U'.heap L ∧ FrameEnd U o U' L R.cells R.slots)
theorem Ctr.intro {Z : State} {y : MethodName} {bytes : ByteArray} {mx : Nat} {rt : Option FieldType} {ws : List Jvm.Cond} {as : Array Value} {h0 : Heap} {Q : Option Value → Heap → List Loc → Prop} (hpl : plainFor y = true)
    (body : ∀ (p : Program) (e : Env) (s : State) (m : MethodId) (below : List Frame) (meth : Method) (c : Code) (s₁ : State), p.tables.exec = Jvm.exec → c.code = bytes → c.maxLocals = mx → s.vm.findClass y.cls = some m.cls → meth.name = y.name → meth.sig.returnType = rt → meth.locks = false → Z.Warmed39 s.vm →
      Stand p l e R s m as below meth c s₁ [] 0 0 → s₁.heap = h0 → Go p e below s₁ (entryFrame m as mx) (KQ s Q R.cells R.slots)) : Ctr l Z y bytes mx rt ws R as h0 Q := by
  refine MetFree.of_bodySF hpl hisR ?_
  intro p e s m args below meth c s₁ Bd hml0 hP hK
  obtain ⟨rfl, hZ, hh⟩ := hP
  obtain ⟨s₂, o, h1, h2, h3, h4⟩ := body p e s m below meth c s₁ Bd.exec Bd.bytes hml0 (findClass_of_methodNamed Bd.named) (name_of_methodNamed Bd.named Bd.method).1 Bd.returns Bd.notSynchronized hZ (Stand.of_body Bd) (by rw [← hh, Bd.state]; rfl)
  exact ⟨s₂, o, h1, h2, h3, h4⟩
end own_kit
theorem own_mask31 (x : Int32) : 0 ≤ (x &&& 2147483647).toInt ∧ (x &&& 2147483647).toInt < 2 ^ 31 := by
  have e : (x &&& 2147483647).toInt = x.toInt % 2 ^ 31 := Jvm.Kit.i32_mask x 2147483647 (k := 31) (by decide) (by decide)
  omega
theorem own_rem {x y : Int32} (hx : 0 ≤ x.toInt) (hy : 0 < y.toInt) : 0 ≤ (x % y).toInt ∧ (x % y).toInt < y.toInt := by
  have e : (x % y).toInt = x.toInt.tmod y.toInt := Int32.toInt_mod x y
  rw [Int.tmod_eq_emod_of_nonneg hx] at e
  have h1 := Int.emod_nonneg x.toInt (show y.toInt ≠ 0 by omega)
  have h2 := Int.emod_lt_of_pos x.toInt hy
  omega
theorem own_lt {a b : Int32} : a < b ↔ a.toInt < b.toInt := Int32.lt_iff_toInt_lt
theorem own_eq {a b : Int32} : a = b ↔ a.toInt = b.toInt := Int32.toInt_inj.symm
theorem own_or' {args : Array Value} {first s : State} {o : Option Outcome} {idx : List Nat} {G Y : Jvm.Cond} {P : Prop} [Decidable P] (h : (Jvm.Cond.or G Y).value args first o s idx = some true) (hG : G.value args first o s idx = some (decide P)) (hn : ¬ P) : Y.value args first o s idx = some true := by
  simpa [Cond.value, hG, hn] using h
theorem own_len {Z : State} {args : Array Value} {t : Term} {a : Addr} {cl : Cell} {ty : FieldType} {n : Int32} (ea : t.eval args Z none [] Z = some (.ref a)) (A : Arr Z Z.heap a cl ty) (h : (Term.length t).eval args Z none [] Z = some (.int n)) : cl.slots.size = n.toNatClampNeg ∧ ¬ n < 0 := by
  have ha := A.fin (Vm.Alike.refl _)
  by_cases p : cl.slots.size < 2 ^ 31
  · have e := (len_f ea ha p).symm.trans h
    have e2 : cl.slots.size.toInt32 = n := Value.int.inj (Option.some.inj e)
    have e3 := len_toInt p
    rw [e2] at e3
    refine ⟨by simp only [Int32.toNatClampNeg, e3]; rfl, by rw [Int32.lt_iff_toInt_lt, e3]; simp⟩
  · simp [Term.eval, ea, ha, p] at h
theorem own_at {Z : State} {args : Array Value} {t F : Term} {a : Addr} {cl : Cell} {ty : FieldType} {j y : Int32} (et : ∀ idx, t.eval args Z none idx Z = some (.ref a)) (A : Arr Z Z.heap a cl ty) (nn : ¬ j < 0) (hF : F.eval args Z none [j.toNatClampNeg] Z = some (.int y))
    (h : (Jvm.Cond.eq (.elem t (.index 0)) F).value args Z none Z [j.toNatClampNeg] = some true) : cl.slots[j.toNatClampNeg]? = some (.int y) :=
  (elem_f (et _) (idx_at nn) (A.fin (Vm.Alike.refl _)) nn).symm.trans (eqv_i hF h)
theorem own_nlt {a b : Int32} : ¬ a < b ↔ b.toInt ≤ a.toInt := by rw [own_lt]; omega
theorem own_le {a b : Int32} : a ≤ b ↔ a.toInt ≤ b.toInt := Int32.le_iff_toInt_le
theorem own_clamp {j n : Int32} {k : Nat} (h0 : ¬ j < 0) (h1 : j < n) (hk : k = n.toNatClampNeg) : j.toNatClampNeg < k := by
  rw [own_lt] at h0 h1; subst hk
  have : (0 : Int32).toInt = 0 := by decide
  simp only [Int32.toNatClampNeg]; omega


theorem own_or32 (n : Nat) : (97 ≤ n ||| 32 ∧ n ||| 32 ≤ 122) ↔ ((97 ≤ n ∧ n ≤ 122) ∨ (65 ≤ n ∧ n ≤ 90)) := by
  by_cases h : n < 128
  · revert h; revert n; decide +kernel
  · have := Nat.left_le_or (n := n) (m := 32); omega
theorem own_nn {a : Int32} (h : a.toBitVec.toNat < 2 ^ 31) : a.toInt = (a.toBitVec.toNat : Int) := by
  show a.toBitVec.toInt = _
  rw [BitVec.toInt_eq_toNat_cond, if_pos (by omega)]
theorem own_16 (x : Int32) : (x &&& 65535).toBitVec.toNat < 65536 := by
  simp only [Int32.toBitVec_and, BitVec.toNat_and]
  exact Nat.lt_succ_of_le Nat.and_le_right
theorem own_i2c (x : Int32) : (x &&& 65535).toUInt32.toUInt16.toUInt32.toInt32 = x &&& 65535 := by
  apply Int32.toBitVec_inj.mp
  apply BitVec.eq_of_toNat_eq
  have h := own_16 x
  have e : (x &&& 65535).toUInt32.toUInt16.toUInt32.toInt32.toBitVec.toNat = (x &&& 65535).toUInt32.toUInt16.toUInt32.toNat := rfl
  rw [e, UInt16.toNat_toUInt32, UInt32.toNat_toUInt16]
  show (x &&& 65535).toBitVec.toNat % 2 ^ 16 = _
  omega
def fL (x : Int32) : Int32 := if ¬ (x < 97) ∧ ¬ (122 < x) then 1 else if ¬ (x < 65) ∧ ¬ (90 < x) then 1 else 0
theorem own_letter (x : Int32) : fL ((x &&& 65535).toUInt32.toUInt16.toUInt32.toInt32) = if ¬ ((x &&& 65535) ||| 32 < 97) ∧ ¬ (122 < (x &&& 65535) ||| 32) then 1 else 0 := by
  rw [own_i2c]
  have h := own_16 x
  generalize x &&& 65535 = a at *
  have h1 := own_nn (a := a) (by omega)
  have e2 : (a ||| 32).toBitVec.toNat = a.toBitVec.toNat ||| 32 := by rw [Int32.toBitVec_or, BitVec.toNat_or]; rfl
  have hl : a.toBitVec.toNat ||| 32 < 2 ^ 16 := Nat.or_lt_two_pow (by omega) (by decide)
  have h2 := own_nn (a := a ||| 32) (by omega)
  have k := own_or32 a.toBitVec.toNat
  rw [e2] at h2
  have c1 : (97 : Int32).toInt = 97 := by decide
  have c2 : (122 : Int32).toInt = 122 := by decide
  have c3 : (65 : Int32).toInt = 65 := by decide
  have c4 : (90 : Int32).toInt = 90 := by decide
  simp only [fL, own_lt, c1, c2, c3, c4, h1, h2]
  by_cases q : 97 ≤ a.toBitVec.toNat ||| 32 ∧ a.toBitVec.toNat ||| 32 ≤ 122
  · rw [if_pos (show ¬ ((((a.toBitVec.toNat ||| 32 : Nat)) : Int) < 97) ∧ ¬ (122 < (((a.toBitVec.toNat ||| 32 : Nat)) : Int)) by omega)]
    rcases k.mp q with r | r
    · rw [if_pos (by omega)]
    · rw [if_neg (by omega), if_pos (by omega)]
  · rw [if_neg (show ¬ (¬ ((((a.toBitVec.toNat ||| 32 : Nat)) : Int) < 97) ∧ ¬ (122 < (((a.toBitVec.toNat ||| 32 : Nat)) : Int))) by omega)]
    have r := fun z => q (k.mpr z)
    rw [if_neg (fun z => r (by omega)), if_neg (fun z => r (by omega))]

theorem d1_0 : decode prog_26_method_11_code 0 = .ok (.iload_n 0, 1) := by decide +kernel
theorem d1_1 : decode prog_26_method_11_code 1 = .ok (.bipush 97, 2) := by decide +kernel
theorem d1_3 : decode prog_26_method_11_code 3 = .ok (.if_icmp .lt 9, 3) := by decide +kernel
theorem d1_12 : decode prog_26_method_11_code 12 = .ok (.iload_n 0, 1) := by decide +kernel
theorem d1_13 : decode prog_26_method_11_code 13 = .ok (.bipush 65, 2) := by decide +kernel
theorem d1_15 : decode prog_26_method_11_code 15 = .ok (.if_icmp .lt 13, 3) := by decide +kernel
theorem d1_28 : decode prog_26_method_11_code 28 = .ok (.iconst 0, 1) := by decide +kernel
theorem d1_29 : decode prog_26_method_11_code 29 = .ok (.ireturn, 1) := by decide +kernel
theorem d1_18 : decode prog_26_method_11_code 18 = .ok (.iload_n 0, 1) := by decide +kernel
theorem d1_19 : decode prog_26_method_11_code 19 = .ok (.bipush 90, 2) := by decide +kernel
theorem d1_21 : decode prog_26_method_11_code 21 = .ok (.if_icmp .gt 7, 3) := by decide +kernel
theorem d1_24 : decode prog_26_method_11_code 24 = .ok (.iconst 1, 1) := by decide +kernel
theorem d1_25 : decode prog_26_method_11_code 25 = .ok (.goto 4, 3) := by decide +kernel
theorem d1_6 : decode prog_26_method_11_code 6 = .ok (.iload_n 0, 1) := by decide +kernel
theorem d1_7 : decode prog_26_method_11_code 7 = .ok (.bipush 122, 2) := by decide +kernel
theorem d1_9 : decode prog_26_method_11_code 9 = .ok (.if_icmp .le 15, 3) := by decide +kernel
theorem own_pn0 : plainName "com/example/farcall/farcall/gen/Lexer" = true := by first | (simp [plainName, overriddenIn]; done) | decide +kernel
theorem own_ef_rm1 (m : MethodId) (x0 : Int32) : entryFrame m #[(.int x0)] 1 = mkF m 0 #[.val (.int x0)] [] := by first | (simp [entryFrame, mkF, argsToLocals, Value.category]; done) | rfl
def Q_rm1 (Z : State) (x0 : Int32) (h0 : Heap) (n0 : Nat) : Option Value → Heap → List Loc → Prop := fun v h L => v = some (.int (fL x0)) ∧ Fr n0 L ∧ h = h0
set_option maxRecDepth 65536 in
set_option maxHeartbeats 40000000 in
theorem rm1 (l : Launch) (Z : State) (a0 : Array Value) (hw : ∀ d ∈ tables_1, d.before a0 Z = true) (ws : List Jvm.Cond) (x0 : Int32) (h0 : Heap) (n0 : Nat) (Z0 : n0 ≤ h0.size)  :
    Ctr l Z (⟨"com/example/farcall/farcall/gen/Lexer", "isLetter", "(C)Z"⟩ : MethodName) prog_26_method_11_code 1 (some .boolean) ws ({ frames := 0, cells := 0, slots := 0, locals := 0 } : Room) #[(.int x0)] h0 (Q_rm1 Z x0 h0 n0) := by
  refine Ctr.intro (plainFor_of_name own_pn0) ?_
  intro p e s m below meth c s₁ hx hby hml hown hnm hret hlk hZ X0 e0
  have hown : s.vm.findClass "com/example/farcall/farcall/gen/Lexer" = some m.cls := hown
  have hml : c.maxLocals = 1 := hml
  have N0 := Fr.nil n0
  refine Go.cast (own_ef_rm1 m x0) ?_
  show Go p e below s₁ (mkF m 0 #[.val (.int x0)] []) _
  refine Go.of (fun _ k => XS.iloadN X0.here hx rfl (hb hby d1_0) rfl  k) ?_
  show Go p e below s₁ (mkF m 1 #[.val (.int x0)] [(.int x0)]) _
  refine Go.of (fun _ k => XS.bipush X0.here hx rfl (hb hby d1_1) k) ?_
  show Go p e below s₁ (mkF m 3 #[.val (.int x0)] [(.int (97 : Int32)), (.int x0)]) _
  by_cases hc3_0 : x0 < (97 : Int32)
  · refine Go.of (fun _ k => XS.icmpYes X0.here hx rfl (pc0 := 3) (pc' := 12) rfl (hb hby d1_3) rfl (tlt hc3_0).1 (by decide) (by decide) k) ?_
    show Go p e below s₁ (mkF m 12 #[.val (.int x0)] []) _
    refine Go.of (fun _ k => XS.iloadN X0.here hx rfl (hb hby d1_12) rfl  k) ?_
    show Go p e below s₁ (mkF m 13 #[.val (.int x0)] [(.int x0)]) _
    refine Go.of (fun _ k => XS.bipush X0.here hx rfl (hb hby d1_13) k) ?_
    show Go p e below s₁ (mkF m 15 #[.val (.int x0)] [(.int (65 : Int32)), (.int x0)]) _
    by_cases hc15_1 : x0 < (65 : Int32)
    · refine Go.of (fun _ k => XS.icmpYes X0.here hx rfl (pc0 := 15) (pc' := 28) rfl (hb hby d1_15) rfl (tlt hc15_1).1 (by decide) (by decide) k) ?_
      show Go p e below s₁ (mkF m 28 #[.val (.int x0)] []) _
      refine Go.of (fun _ k => XS.iconst X0.here hx rfl (hb hby d1_28) k) ?_
      show Go p e below s₁ (mkF m 29 #[.val (.int x0)] [(.int (0 : Int32))]) _
      refine Go.retN X0 hx (t := .boolean) hret hlk (by simp) (hb hby d1_29) e0 (by decide) (by decide) ?_
      exact ⟨show some (Value.int (0 : Int32)) = _ from by simp [fL, *], N0, rfl⟩
    · refine Go.of (fun _ k => XS.icmpNo X0.here hx rfl (hb hby d1_15) rfl (flt hc15_1).1 k) ?_
      show Go p e below s₁ (mkF m 18 #[.val (.int x0)] []) _
      refine Go.of (fun _ k => XS.iloadN X0.here hx rfl (hb hby d1_18) rfl  k) ?_
      show Go p e below s₁ (mkF m 19 #[.val (.int x0)] [(.int x0)]) _
      refine Go.of (fun _ k => XS.bipush X0.here hx rfl (hb hby d1_19) k) ?_
      show Go p e below s₁ (mkF m 21 #[.val (.int x0)] [(.int (90 : Int32)), (.int x0)]) _
      by_cases hc21_2 : (90 : Int32) < x0
      · refine Go.of (fun _ k => XS.icmpYes X0.here hx rfl (pc0 := 21) (pc' := 28) rfl (hb hby d1_21) rfl (tlt hc21_2).2.2.1 (by decide) (by decide) k) ?_
        show Go p e below s₁ (mkF m 28 #[.val (.int x0)] []) _
        refine Go.of (fun _ k => XS.iconst X0.here hx rfl (hb hby d1_28) k) ?_
        show Go p e below s₁ (mkF m 29 #[.val (.int x0)] [(.int (0 : Int32))]) _
        refine Go.retN X0 hx (t := .boolean) hret hlk (by simp) (hb hby d1_29) e0 (by decide) (by decide) ?_
        exact ⟨show some (Value.int (0 : Int32)) = _ from by simp [fL, *], N0, rfl⟩
      · refine Go.of (fun _ k => XS.icmpNo X0.here hx rfl (hb hby d1_21) rfl (flt hc21_2).2.2.1 k) ?_
        show Go p e below s₁ (mkF m 24 #[.val (.int x0)] []) _
        refine Go.of (fun _ k => XS.iconst X0.here hx rfl (hb hby d1_24) k) ?_
        show Go p e below s₁ (mkF m 25 #[.val (.int x0)] [(.int (1 : Int32))]) _
        refine Go.of (fun _ k => XS.goto X0.here hx rfl (pc0 := 25) (pc' := 29) rfl (hb hby d1_25) (by decide) (by decide) k) ?_
        show Go p e below s₁ (mkF m 29 #[.val (.int x0)] [(.int (1 : Int32))]) _
        refine Go.retN X0 hx (t := .boolean) hret hlk (by simp) (hb hby d1_29) e0 (by decide) (by decide) ?_
        exact ⟨show some (Value.int (1 : Int32)) = _ from by simp [fL, *], N0, rfl⟩
  · refine Go.of (fun _ k => XS.icmpNo X0.here hx rfl (hb hby d1_3) rfl (flt hc3_0).1 k) ?_
    show Go p e below s₁ (mkF m 6 #[.val (.int x0)] []) _
    refine Go.of (fun _ k => XS.iloadN X0.here hx rfl (hb hby d1_6) rfl  k) ?_
    show Go p e below s₁ (mkF m 7 #[.val (.int x0)] [(.int x0)]) _
    refine Go.of (fun _ k => XS.bipush X0.here hx rfl (hb hby d1_7) k) ?_
    show Go p e below s₁ (mkF m 9 #[.val (.int x0)] [(.int (122 : Int32)), (.int x0)]) _
    by_cases hc9_1 : (122 : Int32) < x0
    · refine Go.of (fun _ k => XS.icmpNo X0.here hx rfl (hb hby d1_9) rfl (tlt hc9_1).2.2.2 k) ?_
      show Go p e below s₁ (mkF m 12 #[.val (.int x0)] []) _
      refine Go.of (fun _ k => XS.iloadN X0.here hx rfl (hb hby d1_12) rfl  k) ?_
      show Go p e below s₁ (mkF m 13 #[.val (.int x0)] [(.int x0)]) _
      refine Go.of (fun _ k => XS.bipush X0.here hx rfl (hb hby d1_13) k) ?_
      show Go p e below s₁ (mkF m 15 #[.val (.int x0)] [(.int (65 : Int32)), (.int x0)]) _
      by_cases hc15_2 : x0 < (65 : Int32)
      · refine Go.of (fun _ k => XS.icmpYes X0.here hx rfl (pc0 := 15) (pc' := 28) rfl (hb hby d1_15) rfl (tlt hc15_2).1 (by decide) (by decide) k) ?_
        show Go p e below s₁ (mkF m 28 #[.val (.int x0)] []) _
        refine Go.of (fun _ k => XS.iconst X0.here hx rfl (hb hby d1_28) k) ?_
        show Go p e below s₁ (mkF m 29 #[.val (.int x0)] [(.int (0 : Int32))]) _
        refine Go.retN X0 hx (t := .boolean) hret hlk (by simp) (hb hby d1_29) e0 (by decide) (by decide) ?_
        exact ⟨show some (Value.int (0 : Int32)) = _ from by simp [fL, *], N0, rfl⟩
      · refine Go.of (fun _ k => XS.icmpNo X0.here hx rfl (hb hby d1_15) rfl (flt hc15_2).1 k) ?_
        show Go p e below s₁ (mkF m 18 #[.val (.int x0)] []) _
        refine Go.of (fun _ k => XS.iloadN X0.here hx rfl (hb hby d1_18) rfl  k) ?_
        show Go p e below s₁ (mkF m 19 #[.val (.int x0)] [(.int x0)]) _
        refine Go.of (fun _ k => XS.bipush X0.here hx rfl (hb hby d1_19) k) ?_
        show Go p e below s₁ (mkF m 21 #[.val (.int x0)] [(.int (90 : Int32)), (.int x0)]) _
        by_cases hc21_3 : (90 : Int32) < x0
        · refine Go.of (fun _ k => XS.icmpYes X0.here hx rfl (pc0 := 21) (pc' := 28) rfl (hb hby d1_21) rfl (tlt hc21_3).2.2.1 (by decide) (by decide) k) ?_
          show Go p e below s₁ (mkF m 28 #[.val (.int x0)] []) _
          refine Go.of (fun _ k => XS.iconst X0.here hx rfl (hb hby d1_28) k) ?_
          show Go p e below s₁ (mkF m 29 #[.val (.int x0)] [(.int (0 : Int32))]) _
          refine Go.retN X0 hx (t := .boolean) hret hlk (by simp) (hb hby d1_29) e0 (by decide) (by decide) ?_
          exact ⟨show some (Value.int (0 : Int32)) = _ from by simp [fL, *], N0, rfl⟩
        · refine Go.of (fun _ k => XS.icmpNo X0.here hx rfl (hb hby d1_21) rfl (flt hc21_3).2.2.1 k) ?_
          show Go p e below s₁ (mkF m 24 #[.val (.int x0)] []) _
          refine Go.of (fun _ k => XS.iconst X0.here hx rfl (hb hby d1_24) k) ?_
          show Go p e below s₁ (mkF m 25 #[.val (.int x0)] [(.int (1 : Int32))]) _
          refine Go.of (fun _ k => XS.goto X0.here hx rfl (pc0 := 25) (pc' := 29) rfl (hb hby d1_25) (by decide) (by decide) k) ?_
          show Go p e below s₁ (mkF m 29 #[.val (.int x0)] [(.int (1 : Int32))]) _
          refine Go.retN X0 hx (t := .boolean) hret hlk (by simp) (hb hby d1_29) e0 (by decide) (by decide) ?_
          exact ⟨show some (Value.int (1 : Int32)) = _ from by simp [fL, *], N0, rfl⟩
    · refine Go.of (fun _ k => XS.icmpYes X0.here hx rfl (pc0 := 9) (pc' := 24) rfl (hb hby d1_9) rfl (flt hc9_1).2.2.2 (by decide) (by decide) k) ?_
      show Go p e below s₁ (mkF m 24 #[.val (.int x0)] []) _
      refine Go.of (fun _ k => XS.iconst X0.here hx rfl (hb hby d1_24) k) ?_
      show Go p e below s₁ (mkF m 25 #[.val (.int x0)] [(.int (1 : Int32))]) _
      refine Go.of (fun _ k => XS.goto X0.here hx rfl (pc0 := 25) (pc' := 29) rfl (hb hby d1_25) (by decide) (by decide) k) ?_
      show Go p e below s₁ (mkF m 29 #[.val (.int x0)] [(.int (1 : Int32))]) _
      refine Go.retN X0 hx (t := .boolean) hret hlk (by simp) (hb hby d1_29) e0 (by decide) (by decide) ?_
      exact ⟨show some (Value.int (1 : Int32)) = _ from by simp [fL, *], N0, rfl⟩
theorem own_pd0 : parseMethodDescriptor "(C)Z" = some ⟨[.char], some .boolean⟩ := by decide +kernel
theorem own_pn1 : plainName "com/example/farcall/farcall/gen/LexerIsLetterPinLaw" = true := by first | (simp [plainName, overriddenIn]; done) | decide +kernel
theorem own_ef_rm0 (m : MethodId) (x0 : Int32) : entryFrame m #[(.int x0)] maxLocals = mkF m 0 #[.val (.int x0), .unset, .unset, .unset, .unset] [] := by first | (simp [entryFrame, mkF, argsToLocals, Value.category, maxLocals]; done) | rfl
def Q_rm0 (Z : State) (x0 : Int32) (h0 : Heap) (n0 : Nat) : Option Value → Heap → List Loc → Prop := fun v h L => v = some (.int 1) ∧ Fr n0 L
set_option maxRecDepth 65536 in
set_option maxHeartbeats 40000000 in
theorem rm0 (l : Launch) (Z : State) (a0 : Array Value) (hw : ∀ d ∈ tables_1, d.before a0 Z = true) (ws : List Jvm.Cond) (x0 : Int32) (h0 : Heap) (n0 : Nat) (Z0 : n0 ≤ h0.size)  :
    Ctr l Z x code maxLocals ret ws room_1 #[(.int x0)] h0 (Q_rm0 Z x0 h0 n0) := by
  refine Ctr.intro (plainFor_of_name own_pn1) ?_
  intro p e s m below meth c s₁ hx hby hml hown hnm hret hlk hZ X0 e0
  have hown : s.vm.findClass "com/example/farcall/farcall/gen/LexerIsLetterPinLaw" = some m.cls := hown
  have hml : c.maxLocals = 5 := hml
  have N0 := Fr.nil n0
  refine Go.cast (own_ef_rm0 m x0) ?_
  show Go p e below s₁ (mkF m 0 #[.val (.int x0), .unset, .unset, .unset, .unset] []) _
  refine Go.of (fun _ k => XS.iloadN X0.here hx rfl (hb hby at_0) rfl  k) ?_
  show Go p e below s₁ (mkF m 1 #[.val (.int x0), .unset, .unset, .unset, .unset] [(.int x0)]) _
  refine Go.of (fun _ k => X0.ldcInt hx hown (mvT hZ (hw _ (List.mem_of_getElem? (i := 0) rfl))) (g := (mkF m 1 #[.val (.int x0), .unset, .unset, .unset, .unset] [(.int x0)])) rfl (hb hby at_1) _ k) ?_
  show Go p e below s₁ (mkF m 3 #[.val (.int x0), .unset, .unset, .unset, .unset] [(.int (65535 : Int32)), (.int x0)]) _
  refine Go.of (fun _ k => XS.iand X0.here hx rfl (hb hby at_3) rfl k) ?_
  show Go p e below s₁ (mkF m 4 #[.val (.int x0), .unset, .unset, .unset, .unset] [(.int (x0 &&& (65535 : Int32)))]) _
  refine Go.of (fun _ k => XS.istoreN X0.here hx rfl (hb hby at_4) rfl (l' := #[.val (.int x0), .val (.int (x0 &&& (65535 : Int32))), .unset, .unset, .unset]) rfl k) ?_
  show Go p e below s₁ (mkF m 5 #[.val (.int x0), .val (.int (x0 &&& (65535 : Int32))), .unset, .unset, .unset] []) _
  refine Go.of (fun _ k => XS.iloadN X0.here hx rfl (hb hby at_5) rfl  k) ?_
  show Go p e below s₁ (mkF m 6 #[.val (.int x0), .val (.int (x0 &&& (65535 : Int32))), .unset, .unset, .unset] [(.int (x0 &&& (65535 : Int32)))]) _
  refine Go.of (fun _ k => XS.i2c X0.here hx rfl (hb hby at_6) rfl k) ?_
  show Go p e below s₁ (mkF m 7 #[.val (.int x0), .val (.int (x0 &&& (65535 : Int32))), .unset, .unset, .unset] [(.int ((x0 &&& (65535 : Int32)).toUInt32.toUInt16.toUInt32.toInt32))]) _
  refine Go.of (fun _ k => XS.istoreN X0.here hx rfl (hb hby at_7) rfl (l' := #[.val (.int x0), .val (.int (x0 &&& (65535 : Int32))), .val (.int ((x0 &&& (65535 : Int32)).toUInt32.toUInt16.toUInt32.toInt32)), .unset, .unset]) rfl k) ?_
  show Go p e below s₁ (mkF m 8 #[.val (.int x0), .val (.int (x0 &&& (65535 : Int32))), .val (.int ((x0 &&& (65535 : Int32)).toUInt32.toUInt16.toUInt32.toInt32)), .unset, .unset] []) _
  refine Go.of (fun _ k => XS.iloadN X0.here hx rfl (hb hby at_8) rfl  k) ?_
  show Go p e below s₁ (mkF m 9 #[.val (.int x0), .val (.int (x0 &&& (65535 : Int32))), .val (.int ((x0 &&& (65535 : Int32)).toUInt32.toUInt16.toUInt32.toInt32)), .unset, .unset] [(.int (x0 &&& (65535 : Int32)))]) _
  refine Go.of (fun _ k => XS.bipush X0.here hx rfl (hb hby at_9) k) ?_
  show Go p e below s₁ (mkF m 11 #[.val (.int x0), .val (.int (x0 &&& (65535 : Int32))), .val (.int ((x0 &&& (65535 : Int32)).toUInt32.toUInt16.toUInt32.toInt32)), .unset, .unset] [(.int (32 : Int32)), (.int (x0 &&& (65535 : Int32)))]) _
  refine Go.of (fun _ k => XS.ior X0.here hx rfl (hb hby at_11) rfl k) ?_
  show Go p e below s₁ (mkF m 12 #[.val (.int x0), .val (.int (x0 &&& (65535 : Int32))), .val (.int ((x0 &&& (65535 : Int32)).toUInt32.toUInt16.toUInt32.toInt32)), .unset, .unset] [(.int ((x0 &&& (65535 : Int32)) ||| (32 : Int32)))]) _
  refine Go.of (fun _ k => XS.istoreN X0.here hx rfl (hb hby at_12) rfl (l' := #[.val (.int x0), .val (.int (x0 &&& (65535 : Int32))), .val (.int ((x0 &&& (65535 : Int32)).toUInt32.toUInt16.toUInt32.toInt32)), .val (.int ((x0 &&& (65535 : Int32)) ||| (32 : Int32))), .unset]) rfl k) ?_
  show Go p e below s₁ (mkF m 13 #[.val (.int x0), .val (.int (x0 &&& (65535 : Int32))), .val (.int ((x0 &&& (65535 : Int32)).toUInt32.toUInt16.toUInt32.toInt32)), .val (.int ((x0 &&& (65535 : Int32)) ||| (32 : Int32))), .unset] []) _
  refine Go.of (fun _ k => XS.iloadN X0.here hx rfl (hb hby at_13) rfl  k) ?_
  show Go p e below s₁ (mkF m 14 #[.val (.int x0), .val (.int (x0 &&& (65535 : Int32))), .val (.int ((x0 &&& (65535 : Int32)).toUInt32.toUInt16.toUInt32.toInt32)), .val (.int ((x0 &&& (65535 : Int32)) ||| (32 : Int32))), .unset] [(.int ((x0 &&& (65535 : Int32)) ||| (32 : Int32)))]) _
  refine Go.of (fun _ k => XS.bipush X0.here hx rfl (hb hby at_14) k) ?_
  show Go p e below s₁ (mkF m 16 #[.val (.int x0), .val (.int (x0 &&& (65535 : Int32))), .val (.int ((x0 &&& (65535 : Int32)).toUInt32.toUInt16.toUInt32.toInt32)), .val (.int ((x0 &&& (65535 : Int32)) ||| (32 : Int32))), .unset] [(.int (97 : Int32)), (.int ((x0 &&& (65535 : Int32)) ||| (32 : Int32)))]) _
  by_cases hc16_0 : ((x0 &&& (65535 : Int32)) ||| (32 : Int32)) < (97 : Int32)
  · refine Go.of (fun _ k => XS.icmpYes X0.here hx rfl (pc0 := 16) (pc' := 29) rfl (hb hby at_16) rfl (tlt hc16_0).1 (by decide) (by decide) k) ?_
    show Go p e below s₁ (mkF m 29 #[.val (.int x0), .val (.int (x0 &&& (65535 : Int32))), .val (.int ((x0 &&& (65535 : Int32)).toUInt32.toUInt16.toUInt32.toInt32)), .val (.int ((x0 &&& (65535 : Int32)) ||| (32 : Int32))), .unset] []) _
    refine Go.of (fun _ k => XS.iconst X0.here hx rfl (hb hby at_29) k) ?_
    show Go p e below s₁ (mkF m 30 #[.val (.int x0), .val (.int (x0 &&& (65535 : Int32))), .val (.int ((x0 &&& (65535 : Int32)).toUInt32.toUInt16.toUInt32.toInt32)), .val (.int ((x0 &&& (65535 : Int32)) ||| (32 : Int32))), .unset] [(.int (0 : Int32))]) _
    refine Go.of (fun _ k => XS.istore X0.here hx rfl (hb hby at_30) rfl (l' := #[.val (.int x0), .val (.int (x0 &&& (65535 : Int32))), .val (.int ((x0 &&& (65535 : Int32)).toUInt32.toUInt16.toUInt32.toInt32)), .val (.int ((x0 &&& (65535 : Int32)) ||| (32 : Int32))), .val (.int (0 : Int32))]) rfl k) ?_
    show Go p e below s₁ (mkF m 32 #[.val (.int x0), .val (.int (x0 &&& (65535 : Int32))), .val (.int ((x0 &&& (65535 : Int32)).toUInt32.toUInt16.toUInt32.toInt32)), .val (.int ((x0 &&& (65535 : Int32)) ||| (32 : Int32))), .val (.int (0 : Int32))] []) _
    refine Go.of (fun _ k => XS.iloadN X0.here hx rfl (hb hby at_32) rfl  k) ?_
    show Go p e below s₁ (mkF m 33 #[.val (.int x0), .val (.int (x0 &&& (65535 : Int32))), .val (.int ((x0 &&& (65535 : Int32)).toUInt32.toUInt16.toUInt32.toInt32)), .val (.int ((x0 &&& (65535 : Int32)) ||| (32 : Int32))), .val (.int (0 : Int32))] [(.int ((x0 &&& (65535 : Int32)).toUInt32.toUInt16.toUInt32.toInt32))]) _
    obtain ⟨_, _, ⟨T1, L1, kq1, nq1⟩, -, X1, ⟨Lc1, hQ1, l1, y1, z1⟩, st1⟩ := Jvm.LawKit.callS X0 hx (y := (⟨"com/example/farcall/farcall/gen/Lexer", "isLetter", "(C)Z"⟩ : MethodName)) hown (mvT hZ (hw _ (List.mem_of_getElem? (i := 1) rfl))) (mvT hZ (hw _ (List.mem_of_getElem? (i := 2) rfl))) (mvT hZ (hw _ (List.mem_of_getElem? (i := 3) rfl))) (mvT hZ (hw _ (List.mem_of_getElem? (i := 4) rfl))) (by decide) (backOf (W := 0) (rm1 l Z a0 hw [] ((x0 &&& (65535 : Int32)).toUInt32.toUInt16.toUInt32.toInt32) h0 n0 Z0 ) hZ (hw _ (List.mem_of_getElem? (i := 4) rfl)) (hw _ (List.mem_of_getElem? (i := 3) rfl)) (by decide) (by decide)) (g := (mkF m 33 #[.val (.int x0), .val (.int (x0 &&& (65535 : Int32))), .val (.int ((x0 &&& (65535 : Int32)).toUInt32.toUInt16.toUInt32.toInt32)), .val (.int ((x0 &&& (65535 : Int32)) ||| (32 : Int32))), .val (.int (0 : Int32))] [(.int ((x0 &&& (65535 : Int32)).toUInt32.toUInt16.toUInt32.toInt32))])) rfl (by rw [hml]; rfl) (argsL := [(.int ((x0 &&& (65535 : Int32)).toUInt32.toUInt16.toUInt32.toInt32))]) (rest := []) (lenOf own_pd0 rfl) rfl (by show 2 * 0 + _ ≤ _; exact Nat.le_of_eq rfl) (hb hby at_33) (fun _ _ => ⟨rfl, e0, (by decide : 0 + 0 ≤ _), (by decide : 0 + 0 ≤ _)⟩)
    dsimp only [Pt.U, Pt.locs, Pt.cells, Pt.slots] at X1 l1 y1 z1 st1 hQ1
    subst l1 y1 z1
    obtain ⟨rfl, Nq1, e1⟩ := hQ1
    have e1 := e1.trans rfl
    have N1 := Fr.app N0 Nq1
    refine Go.of (fun _ k => st1 _ k) ?_
    show Go p e below T1 (mkF m 36 #[.val (.int x0), .val (.int (x0 &&& (65535 : Int32))), .val (.int ((x0 &&& (65535 : Int32)).toUInt32.toUInt16.toUInt32.toInt32)), .val (.int ((x0 &&& (65535 : Int32)) ||| (32 : Int32))), .val (.int (0 : Int32))] [(.int (fL ((x0 &&& (65535 : Int32)).toUInt32.toUInt16.toUInt32.toInt32)))]) _
    refine Go.of (fun _ k => XS.iload X1.here hx rfl (hb hby at_36) rfl  k) ?_
    show Go p e below T1 (mkF m 38 #[.val (.int x0), .val (.int (x0 &&& (65535 : Int32))), .val (.int ((x0 &&& (65535 : Int32)).toUInt32.toUInt16.toUInt32.toInt32)), .val (.int ((x0 &&& (65535 : Int32)) ||| (32 : Int32))), .val (.int (0 : Int32))] [(.int (0 : Int32)), (.int (fL ((x0 &&& (65535 : Int32)).toUInt32.toUInt16.toUInt32.toInt32)))]) _
    by_cases hc38_1 : (fL ((x0 &&& (65535 : Int32)).toUInt32.toUInt16.toUInt32.toInt32)) = (0 : Int32)
    · refine Go.of (fun _ k => XS.icmpNo X1.here hx rfl (hb hby at_38) rfl (teq hc38_1).2 k) ?_
      show Go p e below T1 (mkF m 41 #[.val (.int x0), .val (.int (x0 &&& (65535 : Int32))), .val (.int ((x0 &&& (65535 : Int32)).toUInt32.toUInt16.toUInt32.toInt32)), .val (.int ((x0 &&& (65535 : Int32)) ||| (32 : Int32))), .val (.int (0 : Int32))] []) _
      refine Go.of (fun _ k => XS.iconst X1.here hx rfl (hb hby at_41) k) ?_
      show Go p e below T1 (mkF m 42 #[.val (.int x0), .val (.int (x0 &&& (65535 : Int32))), .val (.int ((x0 &&& (65535 : Int32)).toUInt32.toUInt16.toUInt32.toInt32)), .val (.int ((x0 &&& (65535 : Int32)) ||| (32 : Int32))), .val (.int (0 : Int32))] [(.int (1 : Int32))]) _
      refine Go.of (fun _ k => XS.goto X1.here hx rfl (pc0 := 42) (pc' := 46) rfl (hb hby at_42) (by decide) (by decide) k) ?_
      show Go p e below T1 (mkF m 46 #[.val (.int x0), .val (.int (x0 &&& (65535 : Int32))), .val (.int ((x0 &&& (65535 : Int32)).toUInt32.toUInt16.toUInt32.toInt32)), .val (.int ((x0 &&& (65535 : Int32)) ||| (32 : Int32))), .val (.int (0 : Int32))] [(.int (1 : Int32))]) _
      refine Go.retN X1 hx (t := .boolean) hret hlk (by simp) (hb hby at_46) e1 (by decide) (by decide) ?_
      exact ⟨rfl, N1⟩
    · refine Go.of (fun _ k => XS.icmpYes X1.here hx rfl (pc0 := 38) (pc' := 45) rfl (hb hby at_38) rfl (feq hc38_1).2 (by decide) (by decide) k) ?_
      show Go p e below T1 (mkF m 45 #[.val (.int x0), .val (.int (x0 &&& (65535 : Int32))), .val (.int ((x0 &&& (65535 : Int32)).toUInt32.toUInt16.toUInt32.toInt32)), .val (.int ((x0 &&& (65535 : Int32)) ||| (32 : Int32))), .val (.int (0 : Int32))] []) _
      refine Go.of (fun _ k => XS.iconst X1.here hx rfl (hb hby at_45) k) ?_
      show Go p e below T1 (mkF m 46 #[.val (.int x0), .val (.int (x0 &&& (65535 : Int32))), .val (.int ((x0 &&& (65535 : Int32)).toUInt32.toUInt16.toUInt32.toInt32)), .val (.int ((x0 &&& (65535 : Int32)) ||| (32 : Int32))), .val (.int (0 : Int32))] [(.int (0 : Int32))]) _
      refine Go.retN X1 hx (t := .boolean) hret hlk (by simp) (hb hby at_46) e1 (by decide) (by decide) ?_
      exfalso
      have hL := own_letter x0
      simp_all
  · refine Go.of (fun _ k => XS.icmpNo X0.here hx rfl (hb hby at_16) rfl (flt hc16_0).1 k) ?_
    show Go p e below s₁ (mkF m 19 #[.val (.int x0), .val (.int (x0 &&& (65535 : Int32))), .val (.int ((x0 &&& (65535 : Int32)).toUInt32.toUInt16.toUInt32.toInt32)), .val (.int ((x0 &&& (65535 : Int32)) ||| (32 : Int32))), .unset] []) _
    refine Go.of (fun _ k => XS.iloadN X0.here hx rfl (hb hby at_19) rfl  k) ?_
    show Go p e below s₁ (mkF m 20 #[.val (.int x0), .val (.int (x0 &&& (65535 : Int32))), .val (.int ((x0 &&& (65535 : Int32)).toUInt32.toUInt16.toUInt32.toInt32)), .val (.int ((x0 &&& (65535 : Int32)) ||| (32 : Int32))), .unset] [(.int ((x0 &&& (65535 : Int32)) ||| (32 : Int32)))]) _
    refine Go.of (fun _ k => XS.bipush X0.here hx rfl (hb hby at_20) k) ?_
    show Go p e below s₁ (mkF m 22 #[.val (.int x0), .val (.int (x0 &&& (65535 : Int32))), .val (.int ((x0 &&& (65535 : Int32)).toUInt32.toUInt16.toUInt32.toInt32)), .val (.int ((x0 &&& (65535 : Int32)) ||| (32 : Int32))), .unset] [(.int (122 : Int32)), (.int ((x0 &&& (65535 : Int32)) ||| (32 : Int32)))]) _
    by_cases hc22_1 : (122 : Int32) < ((x0 &&& (65535 : Int32)) ||| (32 : Int32))
    · refine Go.of (fun _ k => XS.icmpYes X0.here hx rfl (pc0 := 22) (pc' := 29) rfl (hb hby at_22) rfl (tlt hc22_1).2.2.1 (by decide) (by decide) k) ?_
      show Go p e below s₁ (mkF m 29 #[.val (.int x0), .val (.int (x0 &&& (65535 : Int32))), .val (.int ((x0 &&& (65535 : Int32)).toUInt32.toUInt16.toUInt32.toInt32)), .val (.int ((x0 &&& (65535 : Int32)) ||| (32 : Int32))), .unset] []) _
      refine Go.of (fun _ k => XS.iconst X0.here hx rfl (hb hby at_29) k) ?_
      show Go p e below s₁ (mkF m 30 #[.val (.int x0), .val (.int (x0 &&& (65535 : Int32))), .val (.int ((x0 &&& (65535 : Int32)).toUInt32.toUInt16.toUInt32.toInt32)), .val (.int ((x0 &&& (65535 : Int32)) ||| (32 : Int32))), .unset] [(.int (0 : Int32))]) _
      refine Go.of (fun _ k => XS.istore X0.here hx rfl (hb hby at_30) rfl (l' := #[.val (.int x0), .val (.int (x0 &&& (65535 : Int32))), .val (.int ((x0 &&& (65535 : Int32)).toUInt32.toUInt16.toUInt32.toInt32)), .val (.int ((x0 &&& (65535 : Int32)) ||| (32 : Int32))), .val (.int (0 : Int32))]) rfl k) ?_
      show Go p e below s₁ (mkF m 32 #[.val (.int x0), .val (.int (x0 &&& (65535 : Int32))), .val (.int ((x0 &&& (65535 : Int32)).toUInt32.toUInt16.toUInt32.toInt32)), .val (.int ((x0 &&& (65535 : Int32)) ||| (32 : Int32))), .val (.int (0 : Int32))] []) _
      refine Go.of (fun _ k => XS.iloadN X0.here hx rfl (hb hby at_32) rfl  k) ?_
      show Go p e below s₁ (mkF m 33 #[.val (.int x0), .val (.int (x0 &&& (65535 : Int32))), .val (.int ((x0 &&& (65535 : Int32)).toUInt32.toUInt16.toUInt32.toInt32)), .val (.int ((x0 &&& (65535 : Int32)) ||| (32 : Int32))), .val (.int (0 : Int32))] [(.int ((x0 &&& (65535 : Int32)).toUInt32.toUInt16.toUInt32.toInt32))]) _
      obtain ⟨_, _, ⟨T2, L2, kq2, nq2⟩, -, X2, ⟨Lc2, hQ2, l2, y2, z2⟩, st2⟩ := Jvm.LawKit.callS X0 hx (y := (⟨"com/example/farcall/farcall/gen/Lexer", "isLetter", "(C)Z"⟩ : MethodName)) hown (mvT hZ (hw _ (List.mem_of_getElem? (i := 1) rfl))) (mvT hZ (hw _ (List.mem_of_getElem? (i := 2) rfl))) (mvT hZ (hw _ (List.mem_of_getElem? (i := 3) rfl))) (mvT hZ (hw _ (List.mem_of_getElem? (i := 4) rfl))) (by decide) (backOf (W := 0) (rm1 l Z a0 hw [] ((x0 &&& (65535 : Int32)).toUInt32.toUInt16.toUInt32.toInt32) h0 n0 Z0 ) hZ (hw _ (List.mem_of_getElem? (i := 4) rfl)) (hw _ (List.mem_of_getElem? (i := 3) rfl)) (by decide) (by decide)) (g := (mkF m 33 #[.val (.int x0), .val (.int (x0 &&& (65535 : Int32))), .val (.int ((x0 &&& (65535 : Int32)).toUInt32.toUInt16.toUInt32.toInt32)), .val (.int ((x0 &&& (65535 : Int32)) ||| (32 : Int32))), .val (.int (0 : Int32))] [(.int ((x0 &&& (65535 : Int32)).toUInt32.toUInt16.toUInt32.toInt32))])) rfl (by rw [hml]; rfl) (argsL := [(.int ((x0 &&& (65535 : Int32)).toUInt32.toUInt16.toUInt32.toInt32))]) (rest := []) (lenOf own_pd0 rfl) rfl (by show 2 * 0 + _ ≤ _; exact Nat.le_of_eq rfl) (hb hby at_33) (fun _ _ => ⟨rfl, e0, (by decide : 0 + 0 ≤ _), (by decide : 0 + 0 ≤ _)⟩)
      dsimp only [Pt.U, Pt.locs, Pt.cells, Pt.slots] at X2 l2 y2 z2 st2 hQ2
      subst l2 y2 z2
      obtain ⟨rfl, Nq2, e2⟩ := hQ2
      have e2 := e2.trans rfl
      have N2 := Fr.app N0 Nq2
      refine Go.of (fun _ k => st2 _ k) ?_
      show Go p e below T2 (mkF m 36 #[.val (.int x0), .val (.int (x0 &&& (65535 : Int32))), .val (.int ((x0 &&& (65535 : Int32)).toUInt32.toUInt16.toUInt32.toInt32)), .val (.int ((x0 &&& (65535 : Int32)) ||| (32 : Int32))), .val (.int (0 : Int32))] [(.int (fL ((x0 &&& (65535 : Int32)).toUInt32.toUInt16.toUInt32.toInt32)))]) _
      refine Go.of (fun _ k => XS.iload X2.here hx rfl (hb hby at_36) rfl  k) ?_
      show Go p e below T2 (mkF m 38 #[.val (.int x0), .val (.int (x0 &&& (65535 : Int32))), .val (.int ((x0 &&& (65535 : Int32)).toUInt32.toUInt16.toUInt32.toInt32)), .val (.int ((x0 &&& (65535 : Int32)) ||| (32 : Int32))), .val (.int (0 : Int32))] [(.int (0 : Int32)), (.int (fL ((x0 &&& (65535 : Int32)).toUInt32.toUInt16.toUInt32.toInt32)))]) _
      by_cases hc38_2 : (fL ((x0 &&& (65535 : Int32)).toUInt32.toUInt16.toUInt32.toInt32)) = (0 : Int32)
      · refine Go.of (fun _ k => XS.icmpNo X2.here hx rfl (hb hby at_38) rfl (teq hc38_2).2 k) ?_
        show Go p e below T2 (mkF m 41 #[.val (.int x0), .val (.int (x0 &&& (65535 : Int32))), .val (.int ((x0 &&& (65535 : Int32)).toUInt32.toUInt16.toUInt32.toInt32)), .val (.int ((x0 &&& (65535 : Int32)) ||| (32 : Int32))), .val (.int (0 : Int32))] []) _
        refine Go.of (fun _ k => XS.iconst X2.here hx rfl (hb hby at_41) k) ?_
        show Go p e below T2 (mkF m 42 #[.val (.int x0), .val (.int (x0 &&& (65535 : Int32))), .val (.int ((x0 &&& (65535 : Int32)).toUInt32.toUInt16.toUInt32.toInt32)), .val (.int ((x0 &&& (65535 : Int32)) ||| (32 : Int32))), .val (.int (0 : Int32))] [(.int (1 : Int32))]) _
        refine Go.of (fun _ k => XS.goto X2.here hx rfl (pc0 := 42) (pc' := 46) rfl (hb hby at_42) (by decide) (by decide) k) ?_
        show Go p e below T2 (mkF m 46 #[.val (.int x0), .val (.int (x0 &&& (65535 : Int32))), .val (.int ((x0 &&& (65535 : Int32)).toUInt32.toUInt16.toUInt32.toInt32)), .val (.int ((x0 &&& (65535 : Int32)) ||| (32 : Int32))), .val (.int (0 : Int32))] [(.int (1 : Int32))]) _
        refine Go.retN X2 hx (t := .boolean) hret hlk (by simp) (hb hby at_46) e2 (by decide) (by decide) ?_
        exact ⟨rfl, N2⟩
      · refine Go.of (fun _ k => XS.icmpYes X2.here hx rfl (pc0 := 38) (pc' := 45) rfl (hb hby at_38) rfl (feq hc38_2).2 (by decide) (by decide) k) ?_
        show Go p e below T2 (mkF m 45 #[.val (.int x0), .val (.int (x0 &&& (65535 : Int32))), .val (.int ((x0 &&& (65535 : Int32)).toUInt32.toUInt16.toUInt32.toInt32)), .val (.int ((x0 &&& (65535 : Int32)) ||| (32 : Int32))), .val (.int (0 : Int32))] []) _
        refine Go.of (fun _ k => XS.iconst X2.here hx rfl (hb hby at_45) k) ?_
        show Go p e below T2 (mkF m 46 #[.val (.int x0), .val (.int (x0 &&& (65535 : Int32))), .val (.int ((x0 &&& (65535 : Int32)).toUInt32.toUInt16.toUInt32.toInt32)), .val (.int ((x0 &&& (65535 : Int32)) ||| (32 : Int32))), .val (.int (0 : Int32))] [(.int (0 : Int32))]) _
        refine Go.retN X2 hx (t := .boolean) hret hlk (by simp) (hb hby at_46) e2 (by decide) (by decide) ?_
        exfalso
        have hL := own_letter x0
        simp_all
    · refine Go.of (fun _ k => XS.icmpNo X0.here hx rfl (hb hby at_22) rfl (flt hc22_1).2.2.1 k) ?_
      show Go p e below s₁ (mkF m 25 #[.val (.int x0), .val (.int (x0 &&& (65535 : Int32))), .val (.int ((x0 &&& (65535 : Int32)).toUInt32.toUInt16.toUInt32.toInt32)), .val (.int ((x0 &&& (65535 : Int32)) ||| (32 : Int32))), .unset] []) _
      refine Go.of (fun _ k => XS.iconst X0.here hx rfl (hb hby at_25) k) ?_
      show Go p e below s₁ (mkF m 26 #[.val (.int x0), .val (.int (x0 &&& (65535 : Int32))), .val (.int ((x0 &&& (65535 : Int32)).toUInt32.toUInt16.toUInt32.toInt32)), .val (.int ((x0 &&& (65535 : Int32)) ||| (32 : Int32))), .unset] [(.int (1 : Int32))]) _
      refine Go.of (fun _ k => XS.goto X0.here hx rfl (pc0 := 26) (pc' := 30) rfl (hb hby at_26) (by decide) (by decide) k) ?_
      show Go p e below s₁ (mkF m 30 #[.val (.int x0), .val (.int (x0 &&& (65535 : Int32))), .val (.int ((x0 &&& (65535 : Int32)).toUInt32.toUInt16.toUInt32.toInt32)), .val (.int ((x0 &&& (65535 : Int32)) ||| (32 : Int32))), .unset] [(.int (1 : Int32))]) _
      refine Go.of (fun _ k => XS.istore X0.here hx rfl (hb hby at_30) rfl (l' := #[.val (.int x0), .val (.int (x0 &&& (65535 : Int32))), .val (.int ((x0 &&& (65535 : Int32)).toUInt32.toUInt16.toUInt32.toInt32)), .val (.int ((x0 &&& (65535 : Int32)) ||| (32 : Int32))), .val (.int (1 : Int32))]) rfl k) ?_
      show Go p e below s₁ (mkF m 32 #[.val (.int x0), .val (.int (x0 &&& (65535 : Int32))), .val (.int ((x0 &&& (65535 : Int32)).toUInt32.toUInt16.toUInt32.toInt32)), .val (.int ((x0 &&& (65535 : Int32)) ||| (32 : Int32))), .val (.int (1 : Int32))] []) _
      refine Go.of (fun _ k => XS.iloadN X0.here hx rfl (hb hby at_32) rfl  k) ?_
      show Go p e below s₁ (mkF m 33 #[.val (.int x0), .val (.int (x0 &&& (65535 : Int32))), .val (.int ((x0 &&& (65535 : Int32)).toUInt32.toUInt16.toUInt32.toInt32)), .val (.int ((x0 &&& (65535 : Int32)) ||| (32 : Int32))), .val (.int (1 : Int32))] [(.int ((x0 &&& (65535 : Int32)).toUInt32.toUInt16.toUInt32.toInt32))]) _
      obtain ⟨_, _, ⟨T3, L3, kq3, nq3⟩, -, X3, ⟨Lc3, hQ3, l3, y3, z3⟩, st3⟩ := Jvm.LawKit.callS X0 hx (y := (⟨"com/example/farcall/farcall/gen/Lexer", "isLetter", "(C)Z"⟩ : MethodName)) hown (mvT hZ (hw _ (List.mem_of_getElem? (i := 1) rfl))) (mvT hZ (hw _ (List.mem_of_getElem? (i := 2) rfl))) (mvT hZ (hw _ (List.mem_of_getElem? (i := 3) rfl))) (mvT hZ (hw _ (List.mem_of_getElem? (i := 4) rfl))) (by decide) (backOf (W := 0) (rm1 l Z a0 hw [] ((x0 &&& (65535 : Int32)).toUInt32.toUInt16.toUInt32.toInt32) h0 n0 Z0 ) hZ (hw _ (List.mem_of_getElem? (i := 4) rfl)) (hw _ (List.mem_of_getElem? (i := 3) rfl)) (by decide) (by decide)) (g := (mkF m 33 #[.val (.int x0), .val (.int (x0 &&& (65535 : Int32))), .val (.int ((x0 &&& (65535 : Int32)).toUInt32.toUInt16.toUInt32.toInt32)), .val (.int ((x0 &&& (65535 : Int32)) ||| (32 : Int32))), .val (.int (1 : Int32))] [(.int ((x0 &&& (65535 : Int32)).toUInt32.toUInt16.toUInt32.toInt32))])) rfl (by rw [hml]; rfl) (argsL := [(.int ((x0 &&& (65535 : Int32)).toUInt32.toUInt16.toUInt32.toInt32))]) (rest := []) (lenOf own_pd0 rfl) rfl (by show 2 * 0 + _ ≤ _; exact Nat.le_of_eq rfl) (hb hby at_33) (fun _ _ => ⟨rfl, e0, (by decide : 0 + 0 ≤ _), (by decide : 0 + 0 ≤ _)⟩)
      dsimp only [Pt.U, Pt.locs, Pt.cells, Pt.slots] at X3 l3 y3 z3 st3 hQ3
      subst l3 y3 z3
      obtain ⟨rfl, Nq3, e3⟩ := hQ3
      have e3 := e3.trans rfl
      have N3 := Fr.app N0 Nq3
      refine Go.of (fun _ k => st3 _ k) ?_
      show Go p e below T3 (mkF m 36 #[.val (.int x0), .val (.int (x0 &&& (65535 : Int32))), .val (.int ((x0 &&& (65535 : Int32)).toUInt32.toUInt16.toUInt32.toInt32)), .val (.int ((x0 &&& (65535 : Int32)) ||| (32 : Int32))), .val (.int (1 : Int32))] [(.int (fL ((x0 &&& (65535 : Int32)).toUInt32.toUInt16.toUInt32.toInt32)))]) _
      refine Go.of (fun _ k => XS.iload X3.here hx rfl (hb hby at_36) rfl  k) ?_
      show Go p e below T3 (mkF m 38 #[.val (.int x0), .val (.int (x0 &&& (65535 : Int32))), .val (.int ((x0 &&& (65535 : Int32)).toUInt32.toUInt16.toUInt32.toInt32)), .val (.int ((x0 &&& (65535 : Int32)) ||| (32 : Int32))), .val (.int (1 : Int32))] [(.int (1 : Int32)), (.int (fL ((x0 &&& (65535 : Int32)).toUInt32.toUInt16.toUInt32.toInt32)))]) _
      by_cases hc38_2 : (fL ((x0 &&& (65535 : Int32)).toUInt32.toUInt16.toUInt32.toInt32)) = (1 : Int32)
      · refine Go.of (fun _ k => XS.icmpNo X3.here hx rfl (hb hby at_38) rfl (teq hc38_2).2 k) ?_
        show Go p e below T3 (mkF m 41 #[.val (.int x0), .val (.int (x0 &&& (65535 : Int32))), .val (.int ((x0 &&& (65535 : Int32)).toUInt32.toUInt16.toUInt32.toInt32)), .val (.int ((x0 &&& (65535 : Int32)) ||| (32 : Int32))), .val (.int (1 : Int32))] []) _
        refine Go.of (fun _ k => XS.iconst X3.here hx rfl (hb hby at_41) k) ?_
        show Go p e below T3 (mkF m 42 #[.val (.int x0), .val (.int (x0 &&& (65535 : Int32))), .val (.int ((x0 &&& (65535 : Int32)).toUInt32.toUInt16.toUInt32.toInt32)), .val (.int ((x0 &&& (65535 : Int32)) ||| (32 : Int32))), .val (.int (1 : Int32))] [(.int (1 : Int32))]) _
        refine Go.of (fun _ k => XS.goto X3.here hx rfl (pc0 := 42) (pc' := 46) rfl (hb hby at_42) (by decide) (by decide) k) ?_
        show Go p e below T3 (mkF m 46 #[.val (.int x0), .val (.int (x0 &&& (65535 : Int32))), .val (.int ((x0 &&& (65535 : Int32)).toUInt32.toUInt16.toUInt32.toInt32)), .val (.int ((x0 &&& (65535 : Int32)) ||| (32 : Int32))), .val (.int (1 : Int32))] [(.int (1 : Int32))]) _
        refine Go.retN X3 hx (t := .boolean) hret hlk (by simp) (hb hby at_46) e3 (by decide) (by decide) ?_
        exact ⟨rfl, N3⟩
      · refine Go.of (fun _ k => XS.icmpYes X3.here hx rfl (pc0 := 38) (pc' := 45) rfl (hb hby at_38) rfl (feq hc38_2).2 (by decide) (by decide) k) ?_
        show Go p e below T3 (mkF m 45 #[.val (.int x0), .val (.int (x0 &&& (65535 : Int32))), .val (.int ((x0 &&& (65535 : Int32)).toUInt32.toUInt16.toUInt32.toInt32)), .val (.int ((x0 &&& (65535 : Int32)) ||| (32 : Int32))), .val (.int (1 : Int32))] []) _
        refine Go.of (fun _ k => XS.iconst X3.here hx rfl (hb hby at_45) k) ?_
        show Go p e below T3 (mkF m 46 #[.val (.int x0), .val (.int (x0 &&& (65535 : Int32))), .val (.int ((x0 &&& (65535 : Int32)).toUInt32.toUInt16.toUInt32.toInt32)), .val (.int ((x0 &&& (65535 : Int32)) ||| (32 : Int32))), .val (.int (1 : Int32))] [(.int (0 : Int32))]) _
        refine Go.retN X3 hx (t := .boolean) hret hlk (by simp) (hb hby at_46) e3 (by decide) (by decide) ?_
        exfalso
        have hL := own_letter x0
        simp_all
set_option maxRecDepth 65536 in
set_option maxHeartbeats 40000000 in
theorem comes_1 {Post : Tables → Env → Array Value → State → Outcome → State → Prop} (hpost : ∀ tb e args s v u, (limb_1_1.after args s (.returned v) u = true ∧ limb_1_2.after args s (.returned v) u = true ∧ True) → FrameEnd s (.returned v) u (Jvm.fieldLocs frame_1_writes args s ++ Jvm.arrayLocs frame_1_arrays args s ++ Jvm.staticLocs frame_1_statics s) 0 0 → Post tb e args s (.returned v) u) :
    ArmFor flags0 classFile x code maxLocals ret World_1 tables_1 room_1 Calls_1 rest_1 Pre_1 Post := by
  intro l hfl _ _ p e ha hc hk s m args below hf hA hF happ hP
  obtain ⟨hcalls, hrest, hpre⟩ := hP
  obtain ⟨-, -, -, hnamed, -, -, -, hat⟩ := (Spec.applies_iff hf).mp happ
  obtain ⟨hg, hn⟩ := and_e (Cond.before_iff.mp (show (Jvm.Cond.and given_1 narrow_1).before args s = true from hpre))
  obtain ⟨g1, g2⟩ := and_e hg
  obtain ⟨w0, rfl⟩ : ∃ w0 : Value, args = #[w0] := by
    have hs : args.size = 1 := by simpa [Cond.value, given_1] using g1
    obtain ⟨L⟩ := args
    match L, hs with
    | [w0], _ => exact ⟨w0, rfl⟩
  have hw := fun d (hd : d ∈ tables_1) => atoms_spec (ws := Jvm.Cond.code x code maxLocals ret :: tables_1) hat d (List.mem_cons_of_mem _ hd)
  have hfit : Fit s := fun {y c} hc i hi => by
    obtain ⟨ha, rfl⟩ := Array.getElem?_eq_some_iff.mp hc
    have q := List.all_eq_true.mp ((Array.all_eq_true_iff_forall_mem.mp hF) _ (Array.getElem_mem ha)) i (List.mem_range.mpr hi)
    simpa [Array.getElem?_eq_getElem hi] using q
  obtain ⟨i0, ei0⟩ := is_v g2
  obtain rfl : w0 = (.int i0) := Option.some.inj ei0
  obtain ⟨n, o, h1, h2, h3, _, L, rfl, ⟨rfl, N⟩, hq⟩ := rm0 l s _ hw tables_1 i0 s.heap s.heap.size (Nat.le_refl _)  p e ha hc hk s m _ below hf ((Spec.applies_iff_loose hf).mp happ).1 ⟨rfl, State.Warmed39.refl s, rfl⟩ trivial
  refine ⟨n, _, h1, h2, h3, hpost _ _ _ _ _ _ ⟨Cond.after_iff.mpr rfl, Cond.after_iff.mpr (eq_i res_at (Term.int_eval (1)) rfl), trivial⟩ ⟨hq.1, hq.2.1, (hq.2.2.sift fun y hy => Or.inr (N y hy)).mono (by decide) (by decide)⟩⟩
theorem main_1_1 : Claimed_1_1 := comes_1 fun _ _ _ _ _ _ h hF => ⟨h.1, hF⟩
theorem main_1_2 : Claimed_1_2 := comes_1 fun _ _ _ _ _ _ h hF => ⟨h.2.1, hF⟩
end Jvm.Pilot.@@N@@
namespace Jvm.Pilot.@@N@@
open Jvm Jvm.ClassFile Sem Op Lib Jvm.Free Jvm.Stand Jvm.Pilot.@@N@@.Jvm.D
/-! MADE BY PROGRAM (witnessworld.py) out of the Statement's table words and the real class files: 9 classes; the members and pool entries that the words name. The judged class is class 1, her method 1. -/
namespace start1
open Jvm.ClassFile
def u (s : String) : CpInfo := .utf8 (stringToUtf16 s)
/-- a pool by its gaps: so many unusable entries, then the entry; so many at the end -/
def gap : Nat → List CpInfo → List CpInfo
  | 0, r => r
  | n + 1, r => .unusable :: gap n r
def poolList (es : List (Nat × CpInfo)) (last : Nat) : List CpInfo := es.foldr (fun e r => gap e.1 (e.2 :: r)) (gap last [])
def pool (es : List (Nat × CpInfo)) (last : Nat) : Array CpInfo := ⟨poolList es last⟩
def fileOf (pool : Array CpInfo) (this : Nat) (attrs : Array Attribute := #[]) (ms : Array MethodInfo := #[]) (fl : Nat := 33) (sup : Nat := 0) (ifs : Array Nat := #[]) (fds : Array FieldInfo := #[]) : ClassFile where
  minorVersion := 0
  majorVersion := 65
  constantPool := pool
  accessFlags := fl
  thisClass := this
  superClass := sup
  interfaces := ifs
  fields := fds
  methods := ms
  attributes := attrs
def plain (name : String) (sup : Option ClassId) : Class where
  name := name
  kind := .ordinary
  loader := none
  accessFlags := 33
  super := sup
  interfaces := #[]
  cf := none
  fields := #[]
  methods := #[]
  instanceTypes := #[]
  staticTypes := #[]
  resolved := #[]
  callSites := []
  init := .initialized
  statics := none
  mirror := none

def pool0 : Array CpInfo := pool [(5, u "<init>"), (0, u "()V"), (1, .class_ 10), (1, u "java/lang/Object")] 113

def k0m0 : Method := { name := "<init>", desc := "()V", sig := { parameters := [], returnType := none }, accessFlags := 1, code := none }
/-- java/lang/Object -/
def k0 : Class := { plain "java/lang/Object" none with
  accessFlags := 33
  interfaces := #[]
  cf := some (fileOf pool0 8 #[] #[{ accessFlags := 1, nameIndex := 5, descriptorIndex := 6, attributes := #[] }] 33 0 #[] #[])
  fields := #[]
  methods := #[k0m0]
  instanceTypes := #[]
  staticTypes := #[]
  resolved := Array.replicate 124 none
  statics := none }

def pool1 : Array CpInfo := pool [(2, .class_ 4), (1, u "java/lang/Object"), (0, u "<init>"), (0, u "()V"), (0, .integer 65535), (0, .methodref 9 10), (0, .class_ 11), (0, .nameAndType 12 13), (0, u "com/example/farcall/farcall/gen/Lexer"), (0, u "isLetter"), (0, u "(C)Z"), (0, .class_ 15), (0, u "com/example/farcall/farcall/gen/LexerIsLetterPinLaw"), (2, u "law"), (0, u "(I)Z")] 3

def k1m0 : Method := { name := "<init>", desc := "()V", sig := { parameters := [], returnType := none }, accessFlags := 2, code := none }
def k1c1 : Code := { maxStack := 2, maxLocals := 5, code := code, exceptionTable := #[], attributes := #[] }
def k1m1 : Method := { name := "law", desc := "(I)Z", sig := { parameters := [.int], returnType := some .boolean }, accessFlags := 9, code := some k1c1 }
/-- com/example/farcall/farcall/gen/LexerIsLetterPinLaw -/
def k1 : Class := { plain "com/example/farcall/farcall/gen/LexerIsLetterPinLaw" (some 0) with
  accessFlags := 49
  interfaces := #[]
  cf := some (fileOf pool1 14 #[] #[{ accessFlags := 2, nameIndex := 5, descriptorIndex := 6, attributes := #[] }, { accessFlags := 9, nameIndex := 18, descriptorIndex := 19, attributes := #[] }] 49 2 #[] #[])
  fields := #[]
  methods := #[k1m0, k1m1]
  instanceTypes := #[]
  staticTypes := #[]
  resolved := Array.replicate 23 none
  statics := none }

def pool2 : Array CpInfo := pool [(2, .class_ 4), (1, u "java/lang/Object"), (3, .class_ 10), (1, u "com/example/farcall/farcall/gen/Lexer"), (0, u "line"), (0, u "I"), (2, u "file"), (0, u "Ljava/lang/String;"), (2, u "text"), (17, .class_ 39), (1, u "com/example/farcall/farcall/gen/Lexer$Token"), (3, .class_ 45), (1, u "com/example/farcall/farcall/gen/Lexer$Kind"), (7, u "position"), (17, u "isLetter"), (0, u "(C)Z"), (86, u "SYMBOLS")] 31

def k2c0 : Code := { maxStack := 2, maxLocals := 1, code := prog_26_method_11_code, exceptionTable := #[], attributes := #[] }
def k2m0 : Method := { name := "isLetter", desc := "(C)Z", sig := { parameters := [.char], returnType := some .boolean }, accessFlags := 8, code := some k2c0 }
/-- com/example/farcall/farcall/gen/Lexer -/
def k2 : Class := { plain "com/example/farcall/farcall/gen/Lexer" (some 0) with
  accessFlags := 48
  interfaces := #[]
  cf := some (fileOf pool2 8 #[.nestMembers #[37, 43]] #[{ accessFlags := 8, nameIndex := 71, descriptorIndex := 72, attributes := #[] }] 48 2 #[] #[{ accessFlags := 26, nameIndex := 159, descriptorIndex := 16, attributes := #[] }, { accessFlags := 18, nameIndex := 15, descriptorIndex := 16, attributes := #[] }, { accessFlags := 18, nameIndex := 19, descriptorIndex := 16, attributes := #[] }, { accessFlags := 2, nameIndex := 53, descriptorIndex := 12, attributes := #[] }, { accessFlags := 2, nameIndex := 11, descriptorIndex := 12, attributes := #[] }])
  fields := #[{ name := "SYMBOLS", type := (.object "java/lang/String"), accessFlags := 26, slot := 0, constantValue := 0 }, { name := "file", type := (.object "java/lang/String"), accessFlags := 18, slot := 0, constantValue := 0 }, { name := "text", type := (.object "java/lang/String"), accessFlags := 18, slot := 1, constantValue := 0 }, { name := "position", type := .int, accessFlags := 2, slot := 2, constantValue := 0 }, { name := "line", type := .int, accessFlags := 2, slot := 3, constantValue := 0 }]
  methods := #[k2m0]
  instanceTypes := #[(.object "java/lang/String"), (.object "java/lang/String"), .int, .int]
  staticTypes := #[(.object "java/lang/String")]
  resolved := Array.replicate 191 none
  statics := none }

def pool3 : Array CpInfo := pool [(1, u "java/lang/Cloneable"), (0, .class_ 1), (0, u "java/lang/Object"), (0, .class_ 3)] 3

/-- java/lang/Cloneable -/
def k3 : Class := { plain "java/lang/Cloneable" (some 0) with
  accessFlags := 1537
  interfaces := #[]
  cf := some (fileOf pool3 2 #[] #[] 1537 4 #[] #[])
  fields := #[]
  methods := #[]
  instanceTypes := #[]
  staticTypes := #[]
  resolved := Array.replicate 8 none
  statics := none }

def pool4 : Array CpInfo := pool [(1, u "java/io/Serializable"), (0, .class_ 1), (0, u "java/lang/Object"), (0, .class_ 3)] 3

/-- java/io/Serializable -/
def k4 : Class := { plain "java/io/Serializable" (some 0) with
  accessFlags := 1537
  interfaces := #[]
  cf := some (fileOf pool4 2 #[] #[] 1537 4 #[] #[])
  fields := #[]
  methods := #[]
  instanceTypes := #[]
  staticTypes := #[]
  resolved := Array.replicate 8 none
  statics := none }

/-- the primitive byte -/
def k5 : Class := { plain "byte" none with kind := .primitive 'B', accessFlags := 0x411 }
/-- [B -/
def k6 : Class := { plain "[B" (some 0) with kind := .array 5 .byte, interfaces := #[3, 4], accessFlags := 1041 }

/-- the primitive int -/
def k7 : Class := { plain "int" none with kind := .primitive 'I', accessFlags := 0x411 }
/-- [I -/
def k8 : Class := { plain "[I" (some 0) with kind := .array 7 .int, interfaces := #[3, 4], accessFlags := 1041 }

def heap : Heap := #[]
def classes : Array Class := #[k0, k1, k2, k3, k4, k5, k6, k7, k8]
def interned : List (Array UInt16 × Addr) := []
def slotsUsed : Nat := 0
def theMethod : MethodId := ⟨1, 1⟩
def args0 : Array Value := #[.int 5]
def aboutOver (below : List Frame) : State where
  vm := { classes := classes, interned := interned.toArray }
  heap := heap
  slotsUsed := slotsUsed
  threads := #[{ frames := .invoking theMethod args0 :: below }]
def below0 : List Frame := [.native { method := ⟨0, 0⟩, args := #[] }]
def about1 : State := aboutOver below0
def p0 : Program := .bare "" "" ""
def e0 : Env := launch0.env 0 0 0
theorem w_frames : about1.frames = Frame.invoking theMethod args0 :: below0 := rfl
set_option maxRecDepth 65536 in
theorem w_args : argsFit about1.vm theMethod args0 = true := by decide +kernel
set_option maxRecDepth 65536 in
theorem w_heap : heapFits about1 = true := by decide +kernel
set_option maxRecDepth 65536 in
theorem w_runnable : about1.curStatus? = some .runnable := by decide +kernel
set_option maxRecDepth 65536 in
theorem w_alone : about1.alone = true := by decide +kernel
set_option maxRecDepth 65536 in
theorem w_named : about1.methodNamed? x = some theMethod := by decide +kernel
set_option maxRecDepth 65536 in
theorem w_hears : about1.hears theMethod below0 = true := by decide +kernel
set_option maxRecDepth 65536 in
theorem w_ripe : about1.ripe theMethod args0 below0 = true := by decide +kernel
theorem w_running : about1.status = .running := rfl
set_option maxRecDepth 65536 in
theorem w_room : about1.hasRoom e0.platform room_1 = true :=
  launch0.hasRoom_least _ room_1 (by decide +kernel) (by decide +kernel) (by decide +kernel) (by decide +kernel) (by decide +kernel) (by decide +kernel)
theorem allAtoms_all (ts : List Jvm.Cond) (a : Array Jvm.Value) (st : Jvm.State) : (allAtoms ts).before a st = ts.all (fun c => c.before a st) := by
  induction ts with
  | nil => rfl
  | cons c t ih =>
    show (Jvm.Cond.and c (allAtoms t)).before a st = _
    rw [Jvm.Cond.before_and, ih, List.all_cons]
def words1 : List Jvm.Cond := Jvm.Cond.code x code maxLocals ret :: tables_1
/-- a 'code' word, met by the world's own term for the bytes: nothing is compared byte by byte -/
theorem code_word {y : MethodName} {bytes : ByteArray} {mx : Nat} {rt : Option FieldType} {a : Array Value} {s : State} {m : MethodId} {meth : Method} {c : Code} (h1 : s.methodNamed? y = some m) (h2 : s.vm.method? m = some meth) (h3 : meth.code = some c) (h4 : c.code = bytes)
    (h5 : (c.maxLocals == mx && c.exceptionTable.isEmpty && decide (c.maxStack ≤ mostOperands) && decide (meth.sig.returnType = rt) && !meth.locks && decide (parseMethodDescriptor y.desc = some meth.sig)) = true) : (Jvm.Cond.code y bytes mx rt).before a s = true := by
  simp only [Bool.and_eq_true, beq_iff_eq, Bool.not_eq_true', decide_eq_true_eq] at h5
  obtain ⟨⟨⟨⟨⟨g1, g2⟩, g3⟩, g4⟩, g5⟩, g6⟩ := h5
  simp [Cond.before, Cond.holds, Cond.value, h1, h2, h3, h4, g1, g2, g3, g4, g5, g6]
def isCode : Jvm.Cond → Bool
  | .code _ _ _ _ => true
  | _ => false
theorem all_split {L : List Jvm.Cond} {P : Jvm.Cond → Bool} (h1 : L.all (fun c => isCode c || P c) = true) (h2 : ∀ c ∈ L.filter isCode, P c = true) : L.all P = true := by
  refine List.all_eq_true.mpr fun c hc => ?_
  have h := List.all_eq_true.mp h1 c hc
  rcases Bool.eq_false_or_eq_true (isCode c) with hi | hi
  · exact h2 c (List.mem_filter.mpr ⟨hc, hi⟩)
  · simpa [hi] using h
set_option maxRecDepth 65536 in
theorem w_c0 : (Jvm.Cond.code x code maxLocals ret).before args0 about1 = true := code_word (m := ⟨1, 1⟩) (meth := k1m1) (c := k1c1) (by decide +kernel) rfl rfl rfl (by decide +kernel)
set_option maxRecDepth 65536 in
theorem w_c1 : (Jvm.Cond.code ({ cls := "com/example/farcall/farcall/gen/Lexer", name := "isLetter", desc := "(C)Z" } : Jvm.MethodName) prog_26_method_11_code (1 : Nat) (Option.some Jvm.ClassFile.FieldType.boolean)).before args0 about1 = true := code_word (m := ⟨2, 0⟩) (meth := k2m0) (c := k2c0) (by decide +kernel) rfl rfl rfl (by decide +kernel)
def codes1 : List Jvm.Cond := [Jvm.Cond.code x code maxLocals ret, Jvm.Cond.code ({ cls := "com/example/farcall/farcall/gen/Lexer", name := "isLetter", desc := "(C)Z" } : Jvm.MethodName) prog_26_method_11_code (1 : Nat) (Option.some Jvm.ClassFile.FieldType.boolean)]
set_option maxRecDepth 65536 in
theorem codes_eq : words1.filter isCode = codes1 := rfl
theorem w_codes : ∀ c ∈ words1.filter isCode, c.before args0 about1 = true := by
  rw [codes_eq]
  intro c hc
  simp only [codes1, List.mem_cons, List.not_mem_nil, or_false] at hc
  rcases hc with rfl | rfl
  · exact w_c0
  · exact w_c1
set_option maxRecDepth 65536 in
theorem w_t1 : words1.all (fun c => isCode c || c.before args0 about1) = true := by decide +kernel
theorem w_tables : (allAtoms (Jvm.Cond.code x code maxLocals ret :: tables_1)).before args0 about1 = true := by
  rw [allAtoms_all]
  show words1.all (fun c => c.before args0 about1) = true
  refine all_split ?_ w_codes
  rw [w_t1]
set_option maxRecDepth 65536 in
theorem w_case : (Jvm.Cond.and given_1 narrow_1).before args0 about1 = true := by decide +kernel
theorem w_applies : (headSpec (Jvm.Cond.code x code maxLocals ret :: tables_1) room_1).applies x e0.platform about1 = true :=
  (Spec.applies_iff w_frames).mpr ⟨w_running, w_runnable, w_alone, w_named, w_hears, w_ripe, w_room, w_tables⟩
theorem atStart : AtStart classFile x code maxLocals ret World_1 tables_1 room_1 Calls_1 rest_1 Pre_1 launch0 p0 e0 about1 theMethod args0 below0 :=
  ⟨lists_1, trivial, launch0.admits_env _ _ _, launch0.least_env, fairChoices_fair.cas, fairChoices_fair.clock, w_frames, w_args, w_heap, w_applies, trivial, trivial, w_case⟩
end start1
theorem witness_1 : WitnessClaimed_1 := ⟨start1.p0, start1.e0, start1.about1, start1.theMethod, start1.args0, start1.below0, start1.atStart⟩
end Jvm.Pilot.@@N@@
