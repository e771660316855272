import JvmDerived
import JvmDerived.Pilot.@@N@@Statement
import JvmDerived.Pilot.@@N@@Code
set_option linter.unusedVariables false
set_option linter.unusedSimpArgs false
@@BLOCK:NumsL.lean.txt@@
namespace Jvm.Pilot.@@N@@
open Jvm Jvm.ClassFile Sem Op Lib Jvm.Free Jvm.Stand Jvm.LawKit Jvm.RoadKit Bundle Jvm.Pilot.@@N@@.Jvm.D
section own_kit
variable {p : Program} {l : Launch} {e : Env} {R : Room} {s : State} {m : MethodId} {args : Array Value} {below : List Frame} {meth : Method} {c : Code} {T T' : State} {locs : List Loc} {cells slots : Nat}
/-- from the frame g over the state T the run comes to an end of which K speaks -/
def Go (p : Program) (e : Env) (below : List Frame) (T : State) (g : JFrame) (K : Outcome → State → Prop) : Prop :=
  ∃ s₂ o, Steps p.tables e below (T.setTop g) s₂ ∧ s₂.status = .running ∧ Ended s₂ below o ∧ K o s₂
def KQ (s : State) (Q : Option Value → Heap → List Loc → Prop) (k n : Nat) (o : Outcome) (U : State) : Prop :=
  ∃ v L, o = .returned v ∧ Q v U.heap L ∧ FrameEnd s o U L k n
theorem Go.of {g g' : JFrame} {K : Outcome → State → Prop} (h : ∀ t, Steps p.tables e below (T'.setTop g') t → Steps p.tables e below (T.setTop g) t) (k : Go p e below T' g' K) : Go p e below T g K := by
  obtain ⟨s₂, o, h1, h2⟩ := k
  exact ⟨s₂, o, h _ h1, h2⟩
theorem Go.cast {g g' : JFrame} {K : Outcome → State → Prop} (q : g = g') (k : Go p e below T g' K) : Go p e below T g K := q ▸ k
theorem Go.ret0 (X : Stand p l e R s m args below meth c T locs cells slots) (hx : p.tables.exec = Jvm.exec) (hret : meth.sig.returnType = none) (hlk : meth.locks = false) {pc : Nat} {Ls : Array Slot} {Q : Option Value → Heap → List Loc → Prop} {k n : Nat} {h : Heap}
    (hd : decode c.code pc = .ok (.return_, 1)) (eT : T.heap = h) (hk : cells ≤ k) (hn : slots ≤ n) (hq : Q none h locs) : Go p e below T (mkF m pc Ls []) (KQ s Q k n) := by
  obtain ⟨fs, hr, hrun, hended, hW, hsame⟩ := X.leave (v := none) (fun _ => rfl) hlk
  exact ⟨_, _, X.returnOut hx hret hd hr, hrun, hended, _, _, rfl, by show Q none T.heap _; rw [eT]; exact hq, ⟨_, rfl⟩, hW, hsame.mono hk hn⟩
theorem Go.retV (X : Stand p l e R s m args below meth c T locs cells slots) (hx : p.tables.exec = Jvm.exec) {t : FieldType} {w : Value} {i : Instr} {rest : List Value} (hret : meth.sig.returnType = some t) (hlk : meth.locks = false) {pc : Nat} {Ls : Array Slot} {Q : Option Value → Heap → List Loc → Prop} {k n : Nat} {h : Heap} (hn0 : narrow t w = w)
    (hi : (i = .ireturn ∧ (t = .int ∨ t = .boolean ∨ t = .byte ∨ t = .char ∨ t = .short) ∧ ∃ z, w = .int z) ∨ (i = .lreturn ∧ t = .long ∧ ∃ z, w = .long z) ∨ (i = .dreturn ∧ t = .double ∧ ∃ z, w = .double z) ∨ (i = .freturn ∧ t = .float ∧ ∃ z, w = .float z) ∨ (i = .areturn ∧ t.isReference = true ∧ w.isRef = true))
    (hd : decode c.code pc = .ok (i, 1)) (eT : T.heap = h) (hk : cells ≤ k) (hn : slots ≤ n) (hq : Q (some w) h locs) : Go p e below T (mkF m pc Ls (w :: rest)) (KQ s Q k n) := by
  obtain ⟨fs, hr, hrun, hended, hW, hsame⟩ := X.leave (v := some w) (fun h => by rw [hret] at h; cases h) hlk
  exact ⟨_, _, retOut X hx hret hn0 hi hd hr, hrun, hended, _, _, rfl, by show Q (some w) T.heap _; rw [eT]; exact hq, ⟨_, rfl⟩, hW, hsame.mono hk hn⟩
theorem Go.retI (X : Stand p l e R s m args below meth c T locs cells slots) (hx : p.tables.exec = Jvm.exec) {z : Int32} {rest : List Value} (hret : meth.sig.returnType = some .int) (hlk : meth.locks = false) {pc : Nat} {Ls : Array Slot} {Q : Option Value → Heap → List Loc → Prop} {k n : Nat} {h : Heap}
    (hd : decode c.code pc = .ok (.ireturn, 1)) (eT : T.heap = h) (hk : cells ≤ k) (hn : slots ≤ n) (hq : Q (some (.int z)) h locs) : Go p e below T (mkF m pc Ls (.int z :: rest)) (KQ s Q k n) :=
  Go.retV X hx hret hlk rfl (Or.inl ⟨rfl, Or.inl rfl, z, rfl⟩) hd eT hk hn hq
theorem Go.retJ (X : Stand p l e R s m args below meth c T locs cells slots) (hx : p.tables.exec = Jvm.exec) {z : Int64} {rest : List Value} (hret : meth.sig.returnType = some .long) (hlk : meth.locks = false) {pc : Nat} {Ls : Array Slot} {Q : Option Value → Heap → List Loc → Prop} {k n : Nat} {h : Heap}
    (hd : decode c.code pc = .ok (.lreturn, 1)) (eT : T.heap = h) (hk : cells ≤ k) (hn : slots ≤ n) (hq : Q (some (.long z)) h locs) : Go p e below T (mkF m pc Ls (.long z :: rest)) (KQ s Q k n) :=
  Go.retV X hx hret hlk rfl (Or.inr (Or.inl ⟨rfl, rfl, z, rfl⟩)) hd eT hk hn hq
theorem narrow_ref {t : FieldType} {w : Value} (ht : t.isReference = true) (hw : w.isRef = true) : narrow t w = w := by
  rcases ref_cases hw with rfl | ⟨z, rfl⟩ <;> cases t <;> first | rfl | (cases ht; done)
theorem Go.retA (X : Stand p l e R s m args below meth c T locs cells slots) (hx : p.tables.exec = Jvm.exec) {t : FieldType} {w : Value} {rest : List Value} (hret : meth.sig.returnType = some t) (hlk : meth.locks = false) {pc : Nat} {Ls : Array Slot} {Q : Option Value → Heap → List Loc → Prop} {k n : Nat} {h : Heap} (ht : t.isReference = true) (hw : w.isRef = true)
    (hd : decode c.code pc = .ok (.areturn, 1)) (eT : T.heap = h) (hk : cells ≤ k) (hn : slots ≤ n) (hq : Q (some w) h locs) : Go p e below T (mkF m pc Ls (w :: rest)) (KQ s Q k n) :=
  Go.retV X hx hret hlk (narrow_ref ht hw) (Or.inr (Or.inr (Or.inr (Or.inr ⟨rfl, ht, hw⟩)))) hd eT hk hn hq
theorem Go.retN (X : Stand p l e R s m args below meth c T locs cells slots) (hx : p.tables.exec = Jvm.exec) {t : FieldType} {z : Int32} {rest : List Value} (hret : meth.sig.returnType = some t) (hlk : meth.locks = false) {pc : Nat} {Ls : Array Slot} {Q : Option Value → Heap → List Loc → Prop} {k n : Nat} {h : Heap} (ht : t = .boolean ∨ t = .byte ∨ t = .char ∨ t = .short)
    (hd : decode c.code pc = .ok (.ireturn, 1)) (eT : T.heap = h) (hk : cells ≤ k) (hn : slots ≤ n) (hq : Q (some (.int (nar t z))) h locs) : Go p e below T (mkF m pc Ls (.int z :: rest)) (KQ s Q k n) := by
  obtain ⟨fs, hr, hrun, hended, hW, hsame⟩ := X.leave (v := some (.int (nar t z))) (fun h => by rw [hret] at h; cases h) hlk
  exact ⟨_, _, Jvm.RoadKit.retN X hx hret ht hd hr, hrun, hended, _, _, rfl, by show Q _ T.heap _; rw [eT]; exact hq, ⟨_, rfl⟩, hW, hsame.mono hk hn⟩
/-- the contract of one body, at the arguments as and the heap h0 -/
abbrev Ctr (l : Launch) (Z : State) (y : MethodName) (bytes : ByteArray) (mx : Nat) (rt : Option FieldType) (ws : List Jvm.Cond) (R : Room) (as : Array Value) (h0 : Heap) (Q : Option Value → Heap → List Loc → Prop) : Prop :=
  MetFree l y (head1 (Jvm.Cond.code y bytes mx rt :: ws) R) (fun a U => a = as ∧ Z.Warmed39 U.vm ∧ U.heap = h0) (fun _ _ _ _ _ => True) (fun _ U o U' => ∃ v L, o = .returned v ∧ Q v U'.heap L ∧ FrameEnd U o U' L R.cells R.slots)
theorem Ctr.intro {Z : State} {y : MethodName} {bytes : ByteArray} {mx : Nat} {rt : Option FieldType} {ws : List Jvm.Cond} {as : Array Value} {h0 : Heap} {Q : Option Value → Heap → List Loc → Prop} (hpl : plainFor y = true)
    (body : ∀ (p : Program) (e : Env) (s : State) (m : MethodId) (below : List Frame) (meth : Method) (c : Code) (s₁ : State), p.tables.exec = Jvm.exec → c.code = bytes → c.maxLocals = mx → s.vm.findClass y.cls = some m.cls → meth.name = y.name → meth.sig.returnType = rt → meth.locks = false → Z.Warmed39 s.vm →
      Stand p l e R s m as below meth c s₁ [] 0 0 → s₁.heap = h0 → Go p e below s₁ (entryFrame m as mx) (KQ s Q R.cells R.slots)) : Ctr l Z y bytes mx rt ws R as h0 Q := by
  refine MetFree.of_bodySF hpl hisR ?_
  intro p e s m args below meth c s₁ Bd hml0 hP hK
  obtain ⟨rfl, hZ, hh⟩ := hP
  obtain ⟨s₂, o, h1, h2, h3, h4⟩ := body p e s m below meth c s₁ Bd.exec Bd.bytes hml0 (findClass_of_methodNamed Bd.named) (name_of_methodNamed Bd.named Bd.method).1 Bd.returns Bd.notSynchronized hZ (Stand.of_body Bd) (by rw [← hh, Bd.state]; rfl)
  exact ⟨s₂, o, h1, h2, h3, h4⟩
end own_kit
theorem own_mask31 (x : Int32) : 0 ≤ (x &&& 2147483647).toInt ∧ (x &&& 2147483647).toInt < 2 ^ 31 := by
  have e : (x &&& 2147483647).toInt = x.toInt % 2 ^ 31 := Jvm.Kit.i32_mask x 2147483647 (k := 31) (by decide) (by decide)
  omega
theorem own_rem {x y : Int32} (hx : 0 ≤ x.toInt) (hy : 0 < y.toInt) : 0 ≤ (x % y).toInt ∧ (x % y).toInt < y.toInt := by
  have e : (x % y).toInt = x.toInt.tmod y.toInt := Int32.toInt_mod x y
  rw [Int.tmod_eq_emod_of_nonneg hx] at e
  have h1 := Int.emod_nonneg x.toInt (show y.toInt ≠ 0 by omega)
  have h2 := Int.emod_lt_of_pos x.toInt hy
  omega
theorem own_lt {a b : Int32} : a < b ↔ a.toInt < b.toInt := Int32.lt_iff_toInt_lt
theorem own_eq {a b : Int32} : a = b ↔ a.toInt = b.toInt := Int32.toInt_inj.symm
theorem own_or' {args : Array Value} {first s : State} {o : Option Outcome} {idx : List Nat} {G Y : Jvm.Cond} {P : Prop} [Decidable P] (h : (Jvm.Cond.or G Y).value args first o s idx = some true) (hG : G.value args first o s idx = some (decide P)) (hn : ¬ P) : Y.value args first o s idx = some true := by
  simpa [Cond.value, hG, hn] using h
theorem own_len {Z : State} {args : Array Value} {t : Term} {a : Addr} {cl : Cell} {ty : FieldType} {n : Int32} (ea : t.eval args Z none [] Z = some (.ref a)) (A : Arr Z Z.heap a cl ty) (h : (Term.length t).eval args Z none [] Z = some (.int n)) : cl.slots.size = n.toNatClampNeg ∧ ¬ n < 0 := by
  have ha := A.fin (Vm.Alike.refl _)
  by_cases p : cl.slots.size < 2 ^ 31
  · have e := (len_f ea ha p).symm.trans h
    have e2 : cl.slots.size.toInt32 = n := Value.int.inj (Option.some.inj e)
    have e3 := len_toInt p
    rw [e2] at e3
    refine ⟨by simp only [Int32.toNatClampNeg, e3]; rfl, by rw [Int32.lt_iff_toInt_lt, e3]; simp⟩
  · simp [Term.eval, ea, ha, p] at h
theorem own_at {Z : State} {args : Array Value} {t F : Term} {a : Addr} {cl : Cell} {ty : FieldType} {j y : Int32} (et : ∀ idx, t.eval args Z none idx Z = some (.ref a)) (A : Arr Z Z.heap a cl ty) (nn : ¬ j < 0) (hF : F.eval args Z none [j.toNatClampNeg] Z = some (.int y))
    (h : (Jvm.Cond.eq (.elem t (.index 0)) F).value args Z none Z [j.toNatClampNeg] = some true) : cl.slots[j.toNatClampNeg]? = some (.int y) :=
  (elem_f (et _) (idx_at nn) (A.fin (Vm.Alike.refl _)) nn).symm.trans (eqv_i hF h)
theorem own_nlt {a b : Int32} : ¬ a < b ↔ b.toInt ≤ a.toInt := by rw [own_lt]; omega
theorem own_le {a b : Int32} : a ≤ b ↔ a.toInt ≤ b.toInt := Int32.le_iff_toInt_le
theorem own_clamp {j n : Int32} {k : Nat} (h0 : ¬ j < 0) (h1 : j < n) (hk : k = n.toNatClampNeg) : j.toNatClampNeg < k := by
  rw [own_lt] at h0 h1; subst hk
  have : (0 : Int32).toInt = 0 := by decide
  simp only [Int32.toNatClampNeg]; omega

theorem km1 : (-1 : Int32).toInt = -1 := by decide
theorem k0 : (0 : Int32).toInt = 0 := by decide
theorem k1 : (1 : Int32).toInt = 1 := by decide
theorem k2 : (2 : Int32).toInt = 2 := by decide
theorem k3 : (3 : Int32).toInt = 3 := by decide
theorem k4 : (4 : Int32).toInt = 4 := by decide
theorem k5 : (5 : Int32).toInt = 5 := by decide
theorem k7 : (7 : Int32).toInt = 7 := by decide
theorem k10 : (10 : Int32).toInt = 10 := by decide
theorem k13 : (13 : Int32).toInt = 13 := by decide
theorem own_4 {j : Int32} (h1 : ¬ j < 0) (h2 : j < 4) : j = 0 ∨ j = 1 ∨ j = 2 ∨ j = 3 := by
  simp only [own_lt, own_eq, km1, k0, k1, k2, k3, k4, k5, k7, k10, k13] at *
  omega
theorem own_7 (x : Int32) : 0 ≤ (x &&& 7).toInt := by
  have e : (x &&& 7).toInt = x.toInt % 2 ^ 3 := Jvm.Kit.i32_mask x 7 (k := 3) (by decide) (by decide)
  omega
def fR (g : Int32 → Int32) (a b : Int32) : Int32 := if a = b then -1 else if a + 1 = b ∧ g a = 13 then -1 else if g a = 10 then a + 1 else if g a = 13 ∧ g (a + 1) = 10 then a + 2 else a
theorem d1_0 : decode method_2_code 0 = .ok (.iload_n 0, 1) := by decide +kernel
theorem d1_1 : decode method_2_code 1 = .ok (.iconst 3, 1) := by decide +kernel
theorem d1_2 : decode method_2_code 2 = .ok (.iand, 1) := by decide +kernel
theorem d1_3 : decode method_2_code 3 = .ok (.istore_n 1, 1) := by decide +kernel
theorem d1_4 : decode method_2_code 4 = .ok (.iload_n 1, 1) := by decide +kernel
theorem d1_5 : decode method_2_code 5 = .ok (.ifCond .ne 6, 3) := by decide +kernel
theorem d1_8 : decode method_2_code 8 = .ok (.bipush 13, 2) := by decide +kernel
theorem d1_10 : decode method_2_code 10 = .ok (.ireturn, 1) := by decide +kernel
theorem d1_11 : decode method_2_code 11 = .ok (.iload_n 1, 1) := by decide +kernel
theorem d1_12 : decode method_2_code 12 = .ok (.iconst 1, 1) := by decide +kernel
theorem d1_13 : decode method_2_code 13 = .ok (.if_icmp .ne 6, 3) := by decide +kernel
theorem d1_16 : decode method_2_code 16 = .ok (.bipush 10, 2) := by decide +kernel
theorem d1_18 : decode method_2_code 18 = .ok (.ireturn, 1) := by decide +kernel
theorem d1_19 : decode method_2_code 19 = .ok (.iload_n 0, 1) := by decide +kernel
theorem d1_20 : decode method_2_code 20 = .ok (.iconst 2, 1) := by decide +kernel
theorem d1_21 : decode method_2_code 21 = .ok (.ishr, 1) := by decide +kernel
theorem d1_22 : decode method_2_code 22 = .ok (.i2b, 1) := by decide +kernel
theorem d1_23 : decode method_2_code 23 = .ok (.ireturn, 1) := by decide +kernel
theorem own_pn0 : plainName "com/example/ballotwise/ballotwise/http/HeaderFieldsEmptyLineEndPinLaw" = true := by first | (simp [plainName, overriddenIn]; done) | decide +kernel
theorem own_ef_rm1 (m : MethodId) (x0 : Int32) : entryFrame m #[(.int x0)] 2 = mkF m 0 #[.val (.int x0), .unset] [] := by first | (simp [entryFrame, mkF, argsToLocals, Value.category]; done) | rfl
def Q_rm1 (Z : State) (x0 : Int32) (h0 : Heap) (n0 : Nat) : Option Value → Heap → List Loc → Prop := fun v h L => (∃ b, v = some (.int b)) ∧ Fr n0 L ∧ h = h0
set_option maxRecDepth 65536 in
set_option maxHeartbeats 40000000 in
theorem rm1 (l : Launch) (Z : State) (a0 : Array Value) (hw : ∀ d ∈ tables_1, d.before a0 Z = true) (ws : List Jvm.Cond) (x0 : Int32) (h0 : Heap) (n0 : Nat) (Z0 : n0 ≤ h0.size)  :
    Ctr l Z (⟨"com/example/ballotwise/ballotwise/http/HeaderFieldsEmptyLineEndPinLaw", "draw", "(I)B"⟩ : MethodName) method_2_code 2 (some .byte) ws ({ frames := 0, cells := 0, slots := 0, locals := 0 } : Room) #[(.int x0)] h0 (Q_rm1 Z x0 h0 n0) := by
  refine Ctr.intro (plainFor_of_name own_pn0) ?_
  intro p e s m below meth c s₁ hx hby hml hown hnm hret hlk hZ X0 e0
  have hown : s.vm.findClass "com/example/ballotwise/ballotwise/http/HeaderFieldsEmptyLineEndPinLaw" = some m.cls := hown
  have hml : c.maxLocals = 2 := hml
  have N0 := Fr.nil n0
  refine Go.cast (own_ef_rm1 m x0) ?_
  show Go p e below s₁ (mkF m 0 #[.val (.int x0), .unset] []) _
  refine Go.of (fun _ k => XS.iloadN X0.here hx rfl (hb hby d1_0) rfl  k) ?_
  show Go p e below s₁ (mkF m 1 #[.val (.int x0), .unset] [(.int x0)]) _
  refine Go.of (fun _ k => XS.iconst X0.here hx rfl (hb hby d1_1) k) ?_
  show Go p e below s₁ (mkF m 2 #[.val (.int x0), .unset] [(.int (3 : Int32)), (.int x0)]) _
  refine Go.of (fun _ k => XS.iand X0.here hx rfl (hb hby d1_2) rfl k) ?_
  show Go p e below s₁ (mkF m 3 #[.val (.int x0), .unset] [(.int (x0 &&& (3 : Int32)))]) _
  refine Go.of (fun _ k => XS.istoreN X0.here hx rfl (hb hby d1_3) rfl (l' := #[.val (.int x0), .val (.int (x0 &&& (3 : Int32)))]) rfl k) ?_
  show Go p e below s₁ (mkF m 4 #[.val (.int x0), .val (.int (x0 &&& (3 : Int32)))] []) _
  refine Go.of (fun _ k => XS.iloadN X0.here hx rfl (hb hby d1_4) rfl  k) ?_
  show Go p e below s₁ (mkF m 5 #[.val (.int x0), .val (.int (x0 &&& (3 : Int32)))] [(.int (x0 &&& (3 : Int32)))]) _
  by_cases hc5_0 : (x0 &&& (3 : Int32)) = (0 : Int32)
  · refine Go.of (fun _ k => XS.ifNo X0.here hx rfl (hb hby d1_5) rfl ((if0 _ _).trans (teq hc5_0).2) k) ?_
    show Go p e below s₁ (mkF m 8 #[.val (.int x0), .val (.int (x0 &&& (3 : Int32)))] []) _
    refine Go.of (fun _ k => XS.bipush X0.here hx rfl (hb hby d1_8) k) ?_
    show Go p e below s₁ (mkF m 10 #[.val (.int x0), .val (.int (x0 &&& (3 : Int32)))] [(.int (13 : Int32))]) _
    refine Go.retN X0 hx (t := .byte) hret hlk (by simp) (hb hby d1_10) e0 (by decide) (by decide) ?_
    exact ⟨⟨_, rfl⟩, N0, rfl⟩
  · refine Go.of (fun _ k => XS.ifYes X0.here hx rfl (pc0 := 5) (pc' := 11) rfl (hb hby d1_5) rfl ((if0 _ _).trans (feq hc5_0).2) (by decide) (by decide) k) ?_
    show Go p e below s₁ (mkF m 11 #[.val (.int x0), .val (.int (x0 &&& (3 : Int32)))] []) _
    refine Go.of (fun _ k => XS.iloadN X0.here hx rfl (hb hby d1_11) rfl  k) ?_
    show Go p e below s₁ (mkF m 12 #[.val (.int x0), .val (.int (x0 &&& (3 : Int32)))] [(.int (x0 &&& (3 : Int32)))]) _
    refine Go.of (fun _ k => XS.iconst X0.here hx rfl (hb hby d1_12) k) ?_
    show Go p e below s₁ (mkF m 13 #[.val (.int x0), .val (.int (x0 &&& (3 : Int32)))] [(.int (1 : Int32)), (.int (x0 &&& (3 : Int32)))]) _
    by_cases hc13_1 : (x0 &&& (3 : Int32)) = (1 : Int32)
    · refine Go.of (fun _ k => XS.icmpNo X0.here hx rfl (hb hby d1_13) rfl (teq hc13_1).2 k) ?_
      show Go p e below s₁ (mkF m 16 #[.val (.int x0), .val (.int (x0 &&& (3 : Int32)))] []) _
      refine Go.of (fun _ k => XS.bipush X0.here hx rfl (hb hby d1_16) k) ?_
      show Go p e below s₁ (mkF m 18 #[.val (.int x0), .val (.int (x0 &&& (3 : Int32)))] [(.int (10 : Int32))]) _
      refine Go.retN X0 hx (t := .byte) hret hlk (by simp) (hb hby d1_18) e0 (by decide) (by decide) ?_
      exact ⟨⟨_, rfl⟩, N0, rfl⟩
    · refine Go.of (fun _ k => XS.icmpYes X0.here hx rfl (pc0 := 13) (pc' := 19) rfl (hb hby d1_13) rfl (feq hc13_1).2 (by decide) (by decide) k) ?_
      show Go p e below s₁ (mkF m 19 #[.val (.int x0), .val (.int (x0 &&& (3 : Int32)))] []) _
      refine Go.of (fun _ k => XS.iloadN X0.here hx rfl (hb hby d1_19) rfl  k) ?_
      show Go p e below s₁ (mkF m 20 #[.val (.int x0), .val (.int (x0 &&& (3 : Int32)))] [(.int x0)]) _
      refine Go.of (fun _ k => XS.iconst X0.here hx rfl (hb hby d1_20) k) ?_
      show Go p e below s₁ (mkF m 21 #[.val (.int x0), .val (.int (x0 &&& (3 : Int32)))] [(.int (2 : Int32)), (.int x0)]) _
      refine Go.of (fun _ k => XS.ishr X0.here hx rfl (hb hby d1_21) rfl k) ?_
      show Go p e below s₁ (mkF m 22 #[.val (.int x0), .val (.int (x0 &&& (3 : Int32)))] [(.int (x0 >>> ((2 : Int32) &&& 31)))]) _
      refine Go.of (fun _ k => XS.i2b X0.here hx rfl (hb hby d1_22) rfl k) ?_
      show Go p e below s₁ (mkF m 23 #[.val (.int x0), .val (.int (x0 &&& (3 : Int32)))] [(.int ((x0 >>> ((2 : Int32) &&& 31)).toInt8.toInt32))]) _
      refine Go.retN X0 hx (t := .byte) hret hlk (by simp) (hb hby d1_23) e0 (by decide) (by decide) ?_
      exact ⟨⟨_, rfl⟩, N0, rfl⟩
theorem d2_0 : decode prog_30_method_6_code 0 = .ok (.iload_n 1, 1) := by decide +kernel
theorem d2_1 : decode prog_30_method_6_code 1 = .ok (.iload_n 2, 1) := by decide +kernel
theorem d2_2 : decode prog_30_method_6_code 2 = .ok (.if_icmp .eq 18, 3) := by decide +kernel
theorem d2_20 : decode prog_30_method_6_code 20 = .ok (.iconst (-1), 1) := by decide +kernel
theorem d2_21 : decode prog_30_method_6_code 21 = .ok (.istore_n 3, 1) := by decide +kernel
theorem d2_22 : decode prog_30_method_6_code 22 = .ok (.goto 45, 3) := by decide +kernel
theorem d2_67 : decode prog_30_method_6_code 67 = .ok (.iload_n 3, 1) := by decide +kernel
theorem d2_68 : decode prog_30_method_6_code 68 = .ok (.ireturn, 1) := by decide +kernel
theorem d2_5 : decode prog_30_method_6_code 5 = .ok (.iload_n 1, 1) := by decide +kernel
theorem d2_6 : decode prog_30_method_6_code 6 = .ok (.iconst 1, 1) := by decide +kernel
theorem d2_7 : decode prog_30_method_6_code 7 = .ok (.iadd, 1) := by decide +kernel
theorem d2_8 : decode prog_30_method_6_code 8 = .ok (.iload_n 2, 1) := by decide +kernel
theorem d2_9 : decode prog_30_method_6_code 9 = .ok (.if_icmp .ne 16, 3) := by decide +kernel
theorem d2_12 : decode prog_30_method_6_code 12 = .ok (.aload_n 0, 1) := by decide +kernel
theorem d2_13 : decode prog_30_method_6_code 13 = .ok (.iload_n 1, 1) := by decide +kernel
theorem d2_14 : decode prog_30_method_6_code 14 = .ok (.baload, 1) := by decide +kernel
theorem d2_15 : decode prog_30_method_6_code 15 = .ok (.bipush 13, 2) := by decide +kernel
theorem d2_17 : decode prog_30_method_6_code 17 = .ok (.if_icmp .ne 8, 3) := by decide +kernel
theorem d2_25 : decode prog_30_method_6_code 25 = .ok (.aload_n 0, 1) := by decide +kernel
theorem d2_26 : decode prog_30_method_6_code 26 = .ok (.iload_n 1, 1) := by decide +kernel
theorem d2_27 : decode prog_30_method_6_code 27 = .ok (.baload, 1) := by decide +kernel
theorem d2_28 : decode prog_30_method_6_code 28 = .ok (.bipush 10, 2) := by decide +kernel
theorem d2_30 : decode prog_30_method_6_code 30 = .ok (.if_icmp .ne 10, 3) := by decide +kernel
theorem d2_33 : decode prog_30_method_6_code 33 = .ok (.iload_n 1, 1) := by decide +kernel
theorem d2_34 : decode prog_30_method_6_code 34 = .ok (.iconst 1, 1) := by decide +kernel
theorem d2_35 : decode prog_30_method_6_code 35 = .ok (.iadd, 1) := by decide +kernel
theorem d2_36 : decode prog_30_method_6_code 36 = .ok (.istore_n 3, 1) := by decide +kernel
theorem d2_37 : decode prog_30_method_6_code 37 = .ok (.goto 30, 3) := by decide +kernel
theorem d2_40 : decode prog_30_method_6_code 40 = .ok (.aload_n 0, 1) := by decide +kernel
theorem d2_41 : decode prog_30_method_6_code 41 = .ok (.iload_n 1, 1) := by decide +kernel
theorem d2_42 : decode prog_30_method_6_code 42 = .ok (.baload, 1) := by decide +kernel
theorem d2_43 : decode prog_30_method_6_code 43 = .ok (.bipush 13, 2) := by decide +kernel
theorem d2_45 : decode prog_30_method_6_code 45 = .ok (.if_icmp .ne 20, 3) := by decide +kernel
theorem d2_48 : decode prog_30_method_6_code 48 = .ok (.aload_n 0, 1) := by decide +kernel
theorem d2_49 : decode prog_30_method_6_code 49 = .ok (.iload_n 1, 1) := by decide +kernel
theorem d2_50 : decode prog_30_method_6_code 50 = .ok (.iconst 1, 1) := by decide +kernel
theorem d2_51 : decode prog_30_method_6_code 51 = .ok (.iadd, 1) := by decide +kernel
theorem d2_52 : decode prog_30_method_6_code 52 = .ok (.baload, 1) := by decide +kernel
theorem d2_53 : decode prog_30_method_6_code 53 = .ok (.bipush 10, 2) := by decide +kernel
theorem d2_55 : decode prog_30_method_6_code 55 = .ok (.if_icmp .ne 10, 3) := by decide +kernel
theorem d2_58 : decode prog_30_method_6_code 58 = .ok (.iload_n 1, 1) := by decide +kernel
theorem d2_59 : decode prog_30_method_6_code 59 = .ok (.iconst 2, 1) := by decide +kernel
theorem d2_60 : decode prog_30_method_6_code 60 = .ok (.iadd, 1) := by decide +kernel
theorem d2_61 : decode prog_30_method_6_code 61 = .ok (.istore_n 3, 1) := by decide +kernel
theorem d2_62 : decode prog_30_method_6_code 62 = .ok (.goto 5, 3) := by decide +kernel
theorem d2_65 : decode prog_30_method_6_code 65 = .ok (.iload_n 1, 1) := by decide +kernel
theorem d2_66 : decode prog_30_method_6_code 66 = .ok (.istore_n 3, 1) := by decide +kernel
theorem own_pn1 : plainName "com/example/ballotwise/ballotwise/http/HeaderFields" = true := by first | (simp [plainName, overriddenIn]; done) | decide +kernel
theorem own_ef_rm2 (m : MethodId) (aW : Addr) (ff : Int32) (tt : Int32) : entryFrame m #[(.ref aW), (.int ff), (.int tt)] 4 = mkF m 0 #[.val (.ref aW), .val (.int ff), .val (.int tt), .unset] [] := by first | (simp [entryFrame, mkF, argsToLocals, Value.category]; done) | rfl
def Q_rm2 (Z : State) (aW : Addr) (ff tt : Int32) (cl : Cell) (gg : Int32 → Int32) (h0 : Heap) (n0 : Nat) : Option Value → Heap → List Loc → Prop := fun v h L => v = some (.int (fR gg ff tt)) ∧ Fr n0 L ∧ h = h0
set_option maxRecDepth 65536 in
set_option maxHeartbeats 40000000 in
theorem rm2 (l : Launch) (Z : State) (a0 : Array Value) (hw : ∀ d ∈ tables_1, d.before a0 Z = true) (ws : List Jvm.Cond) (aW : Addr) (ff tt : Int32) (cl : Cell) (gg : Int32 → Int32) (h0 : Heap) (n0 : Nat) (Z0 : n0 ≤ h0.size) (A : Arr Z h0 aW cl .byte) (Sz : cl.slots.size = (4 : Int32).toNatClampNeg) (Hat : ∀ j : Int32, ¬ j < 0 → j < 4 → cl.slots[j.toNatClampNeg]? = some (.int (gg j))) (b0 : 0 ≤ ff.toInt) (b1 : ff.toInt ≤ tt.toInt) (b2 : tt.toInt ≤ 4) (b3 : (ff + 1).toInt = ff.toInt + 1) :
    Ctr l Z (⟨"com/example/ballotwise/ballotwise/http/HeaderFields", "emptyLineEnd", "([BII)I"⟩ : MethodName) prog_30_method_6_code 4 (some .int) ws ({ frames := 0, cells := 0, slots := 0, locals := 0 } : Room) #[(.ref aW), (.int ff), (.int tt)] h0 (Q_rm2 Z aW ff tt cl gg h0 n0) := by
  refine Ctr.intro (plainFor_of_name own_pn1) ?_
  intro p e s m below meth c s₁ hx hby hml hown hnm hret hlk hZ X0 e0
  have hown : s.vm.findClass "com/example/ballotwise/ballotwise/http/HeaderFields" = some m.cls := hown
  have hml : c.maxLocals = 4 := hml
  have N0 := Fr.nil n0
  refine Go.cast (own_ef_rm2 m aW ff tt) ?_
  show Go p e below s₁ (mkF m 0 #[.val (.ref aW), .val (.int ff), .val (.int tt), .unset] []) _
  refine Go.of (fun _ k => XS.iloadN X0.here hx rfl (hb hby d2_0) rfl  k) ?_
  show Go p e below s₁ (mkF m 1 #[.val (.ref aW), .val (.int ff), .val (.int tt), .unset] [(.int ff)]) _
  refine Go.of (fun _ k => XS.iloadN X0.here hx rfl (hb hby d2_1) rfl  k) ?_
  show Go p e below s₁ (mkF m 2 #[.val (.ref aW), .val (.int ff), .val (.int tt), .unset] [(.int tt), (.int ff)]) _
  by_cases hc2_0 : ff = tt
  · refine Go.of (fun _ k => XS.icmpYes X0.here hx rfl (pc0 := 2) (pc' := 20) rfl (hb hby d2_2) rfl (teq hc2_0).1 (by decide) (by decide) k) ?_
    show Go p e below s₁ (mkF m 20 #[.val (.ref aW), .val (.int ff), .val (.int tt), .unset] []) _
    refine Go.of (fun _ k => XS.iconst X0.here hx rfl (hb hby d2_20) k) ?_
    show Go p e below s₁ (mkF m 21 #[.val (.ref aW), .val (.int ff), .val (.int tt), .unset] [(.int (-1 : Int32))]) _
    refine Go.of (fun _ k => XS.istoreN X0.here hx rfl (hb hby d2_21) rfl (l' := #[.val (.ref aW), .val (.int ff), .val (.int tt), .val (.int (-1 : Int32))]) rfl k) ?_
    show Go p e below s₁ (mkF m 22 #[.val (.ref aW), .val (.int ff), .val (.int tt), .val (.int (-1 : Int32))] []) _
    refine Go.of (fun _ k => XS.goto X0.here hx rfl (pc0 := 22) (pc' := 67) rfl (hb hby d2_22) (by decide) (by decide) k) ?_
    show Go p e below s₁ (mkF m 67 #[.val (.ref aW), .val (.int ff), .val (.int tt), .val (.int (-1 : Int32))] []) _
    refine Go.of (fun _ k => XS.iloadN X0.here hx rfl (hb hby d2_67) rfl  k) ?_
    show Go p e below s₁ (mkF m 68 #[.val (.ref aW), .val (.int ff), .val (.int tt), .val (.int (-1 : Int32))] [(.int (-1 : Int32))]) _
    refine Go.retI X0 hx hret hlk (hb hby d2_68) e0 (by decide) (by decide) ?_
    exact ⟨by first | (simp [fR, *]; done) | (exfalso; contradiction), N0, rfl⟩
  · refine Go.of (fun _ k => XS.icmpNo X0.here hx rfl (hb hby d2_2) rfl (feq hc2_0).1 k) ?_
    show Go p e below s₁ (mkF m 5 #[.val (.ref aW), .val (.int ff), .val (.int tt), .unset] []) _
    refine Go.of (fun _ k => XS.iloadN X0.here hx rfl (hb hby d2_5) rfl  k) ?_
    show Go p e below s₁ (mkF m 6 #[.val (.ref aW), .val (.int ff), .val (.int tt), .unset] [(.int ff)]) _
    refine Go.of (fun _ k => XS.iconst X0.here hx rfl (hb hby d2_6) k) ?_
    show Go p e below s₁ (mkF m 7 #[.val (.ref aW), .val (.int ff), .val (.int tt), .unset] [(.int (1 : Int32)), (.int ff)]) _
    refine Go.of (fun _ k => XS.iadd X0.here hx rfl (hb hby d2_7) rfl k) ?_
    show Go p e below s₁ (mkF m 8 #[.val (.ref aW), .val (.int ff), .val (.int tt), .unset] [(.int (ff + (1 : Int32)))]) _
    refine Go.of (fun _ k => XS.iloadN X0.here hx rfl (hb hby d2_8) rfl  k) ?_
    show Go p e below s₁ (mkF m 9 #[.val (.ref aW), .val (.int ff), .val (.int tt), .unset] [(.int tt), (.int (ff + (1 : Int32)))]) _
    by_cases hc9_1 : (ff + (1 : Int32)) = tt
    · refine Go.of (fun _ k => XS.icmpNo X0.here hx rfl (hb hby d2_9) rfl (teq hc9_1).2 k) ?_
      show Go p e below s₁ (mkF m 12 #[.val (.ref aW), .val (.int ff), .val (.int tt), .unset] []) _
      refine Go.of (fun _ k => XS.aloadN X0.here hx rfl (hb hby d2_12) rfl rfl  k) ?_
      show Go p e below s₁ (mkF m 13 #[.val (.ref aW), .val (.int ff), .val (.int tt), .unset] [(.ref aW)]) _
      refine Go.of (fun _ k => XS.iloadN X0.here hx rfl (hb hby d2_13) rfl  k) ?_
      show Go p e below s₁ (mkF m 14 #[.val (.ref aW), .val (.int ff), .val (.int tt), .unset] [(.int ff), (.ref aW)]) _
      have hj1 := (show ¬ ff < 0 ∧ ff < 4 by simp only [own_lt, own_eq, b3, km1, k0, k1, k2, k3, k4, k5, k7, k10, k13] at hc2_0 hc9_1 ⊢; omega)
      refine Go.of (fun _ k => X0.baloadBytes hx (j := ff) (v := (.int (gg ff))) (by rw [e0]; exact A.1) (State.isArrayOf_alike hZ.alike A.2.1) A.2.2 (inb_of (z := 4) Sz hj1) (Hat _ hj1.1 hj1.2) (g := (mkF m 14 #[.val (.ref aW), .val (.int ff), .val (.int tt), .unset] [(.int ff), (.ref aW)])) rfl rfl (hb hby d2_14) _ k) ?_
      show Go p e below s₁ (mkF m 15 #[.val (.ref aW), .val (.int ff), .val (.int tt), .unset] [(.int (gg ff))]) _
      refine Go.of (fun _ k => XS.bipush X0.here hx rfl (hb hby d2_15) k) ?_
      show Go p e below s₁ (mkF m 17 #[.val (.ref aW), .val (.int ff), .val (.int tt), .unset] [(.int (13 : Int32)), (.int (gg ff))]) _
      by_cases hc17_2 : (gg ff) = (13 : Int32)
      · refine Go.of (fun _ k => XS.icmpNo X0.here hx rfl (hb hby d2_17) rfl (teq hc17_2).2 k) ?_
        show Go p e below s₁ (mkF m 20 #[.val (.ref aW), .val (.int ff), .val (.int tt), .unset] []) _
        refine Go.of (fun _ k => XS.iconst X0.here hx rfl (hb hby d2_20) k) ?_
        show Go p e below s₁ (mkF m 21 #[.val (.ref aW), .val (.int ff), .val (.int tt), .unset] [(.int (-1 : Int32))]) _
        refine Go.of (fun _ k => XS.istoreN X0.here hx rfl (hb hby d2_21) rfl (l' := #[.val (.ref aW), .val (.int ff), .val (.int tt), .val (.int (-1 : Int32))]) rfl k) ?_
        show Go p e below s₁ (mkF m 22 #[.val (.ref aW), .val (.int ff), .val (.int tt), .val (.int (-1 : Int32))] []) _
        refine Go.of (fun _ k => XS.goto X0.here hx rfl (pc0 := 22) (pc' := 67) rfl (hb hby d2_22) (by decide) (by decide) k) ?_
        show Go p e below s₁ (mkF m 67 #[.val (.ref aW), .val (.int ff), .val (.int tt), .val (.int (-1 : Int32))] []) _
        refine Go.of (fun _ k => XS.iloadN X0.here hx rfl (hb hby d2_67) rfl  k) ?_
        show Go p e below s₁ (mkF m 68 #[.val (.ref aW), .val (.int ff), .val (.int tt), .val (.int (-1 : Int32))] [(.int (-1 : Int32))]) _
        refine Go.retI X0 hx hret hlk (hb hby d2_68) e0 (by decide) (by decide) ?_
        exact ⟨by first | (simp [fR, *]; done) | (exfalso; contradiction), N0, rfl⟩
      · refine Go.of (fun _ k => XS.icmpYes X0.here hx rfl (pc0 := 17) (pc' := 25) rfl (hb hby d2_17) rfl (feq hc17_2).2 (by decide) (by decide) k) ?_
        show Go p e below s₁ (mkF m 25 #[.val (.ref aW), .val (.int ff), .val (.int tt), .unset] []) _
        refine Go.of (fun _ k => XS.aloadN X0.here hx rfl (hb hby d2_25) rfl rfl  k) ?_
        show Go p e below s₁ (mkF m 26 #[.val (.ref aW), .val (.int ff), .val (.int tt), .unset] [(.ref aW)]) _
        refine Go.of (fun _ k => XS.iloadN X0.here hx rfl (hb hby d2_26) rfl  k) ?_
        show Go p e below s₁ (mkF m 27 #[.val (.ref aW), .val (.int ff), .val (.int tt), .unset] [(.int ff), (.ref aW)]) _
        have hj2 := (show ¬ ff < 0 ∧ ff < 4 by simp only [own_lt, own_eq, b3, km1, k0, k1, k2, k3, k4, k5, k7, k10, k13] at hc2_0 hc9_1 hc17_2 ⊢; omega)
        refine Go.of (fun _ k => X0.baloadBytes hx (j := ff) (v := (.int (gg ff))) (by rw [e0]; exact A.1) (State.isArrayOf_alike hZ.alike A.2.1) A.2.2 (inb_of (z := 4) Sz hj2) (Hat _ hj2.1 hj2.2) (g := (mkF m 27 #[.val (.ref aW), .val (.int ff), .val (.int tt), .unset] [(.int ff), (.ref aW)])) rfl rfl (hb hby d2_27) _ k) ?_
        show Go p e below s₁ (mkF m 28 #[.val (.ref aW), .val (.int ff), .val (.int tt), .unset] [(.int (gg ff))]) _
        refine Go.of (fun _ k => XS.bipush X0.here hx rfl (hb hby d2_28) k) ?_
        show Go p e below s₁ (mkF m 30 #[.val (.ref aW), .val (.int ff), .val (.int tt), .unset] [(.int (10 : Int32)), (.int (gg ff))]) _
        by_cases hc30_3 : (gg ff) = (10 : Int32)
        · refine Go.of (fun _ k => XS.icmpNo X0.here hx rfl (hb hby d2_30) rfl (teq hc30_3).2 k) ?_
          show Go p e below s₁ (mkF m 33 #[.val (.ref aW), .val (.int ff), .val (.int tt), .unset] []) _
          refine Go.of (fun _ k => XS.iloadN X0.here hx rfl (hb hby d2_33) rfl  k) ?_
          show Go p e below s₁ (mkF m 34 #[.val (.ref aW), .val (.int ff), .val (.int tt), .unset] [(.int ff)]) _
          refine Go.of (fun _ k => XS.iconst X0.here hx rfl (hb hby d2_34) k) ?_
          show Go p e below s₁ (mkF m 35 #[.val (.ref aW), .val (.int ff), .val (.int tt), .unset] [(.int (1 : Int32)), (.int ff)]) _
          refine Go.of (fun _ k => XS.iadd X0.here hx rfl (hb hby d2_35) rfl k) ?_
          show Go p e below s₁ (mkF m 36 #[.val (.ref aW), .val (.int ff), .val (.int tt), .unset] [(.int (ff + (1 : Int32)))]) _
          refine Go.of (fun _ k => XS.istoreN X0.here hx rfl (hb hby d2_36) rfl (l' := #[.val (.ref aW), .val (.int ff), .val (.int tt), .val (.int (ff + (1 : Int32)))]) rfl k) ?_
          show Go p e below s₁ (mkF m 37 #[.val (.ref aW), .val (.int ff), .val (.int tt), .val (.int (ff + (1 : Int32)))] []) _
          refine Go.of (fun _ k => XS.goto X0.here hx rfl (pc0 := 37) (pc' := 67) rfl (hb hby d2_37) (by decide) (by decide) k) ?_
          show Go p e below s₁ (mkF m 67 #[.val (.ref aW), .val (.int ff), .val (.int tt), .val (.int (ff + (1 : Int32)))] []) _
          refine Go.of (fun _ k => XS.iloadN X0.here hx rfl (hb hby d2_67) rfl  k) ?_
          show Go p e below s₁ (mkF m 68 #[.val (.ref aW), .val (.int ff), .val (.int tt), .val (.int (ff + (1 : Int32)))] [(.int (ff + (1 : Int32)))]) _
          refine Go.retI X0 hx hret hlk (hb hby d2_68) e0 (by decide) (by decide) ?_
          exact ⟨by first | (simp [fR, *]; done) | (exfalso; contradiction), N0, rfl⟩
        · refine Go.of (fun _ k => XS.icmpYes X0.here hx rfl (pc0 := 30) (pc' := 40) rfl (hb hby d2_30) rfl (feq hc30_3).2 (by decide) (by decide) k) ?_
          show Go p e below s₁ (mkF m 40 #[.val (.ref aW), .val (.int ff), .val (.int tt), .unset] []) _
          refine Go.of (fun _ k => XS.aloadN X0.here hx rfl (hb hby d2_40) rfl rfl  k) ?_
          show Go p e below s₁ (mkF m 41 #[.val (.ref aW), .val (.int ff), .val (.int tt), .unset] [(.ref aW)]) _
          refine Go.of (fun _ k => XS.iloadN X0.here hx rfl (hb hby d2_41) rfl  k) ?_
          show Go p e below s₁ (mkF m 42 #[.val (.ref aW), .val (.int ff), .val (.int tt), .unset] [(.int ff), (.ref aW)]) _
          have hj3 := (show ¬ ff < 0 ∧ ff < 4 by simp only [own_lt, own_eq, b3, km1, k0, k1, k2, k3, k4, k5, k7, k10, k13] at hc2_0 hc9_1 hc17_2 hc30_3 ⊢; omega)
          refine Go.of (fun _ k => X0.baloadBytes hx (j := ff) (v := (.int (gg ff))) (by rw [e0]; exact A.1) (State.isArrayOf_alike hZ.alike A.2.1) A.2.2 (inb_of (z := 4) Sz hj3) (Hat _ hj3.1 hj3.2) (g := (mkF m 42 #[.val (.ref aW), .val (.int ff), .val (.int tt), .unset] [(.int ff), (.ref aW)])) rfl rfl (hb hby d2_42) _ k) ?_
          show Go p e below s₁ (mkF m 43 #[.val (.ref aW), .val (.int ff), .val (.int tt), .unset] [(.int (gg ff))]) _
          refine Go.of (fun _ k => XS.bipush X0.here hx rfl (hb hby d2_43) k) ?_
          show Go p e below s₁ (mkF m 45 #[.val (.ref aW), .val (.int ff), .val (.int tt), .unset] [(.int (13 : Int32)), (.int (gg ff))]) _
          by_cases hc45_4 : (gg ff) = (13 : Int32)
          · refine Go.of (fun _ k => XS.icmpNo X0.here hx rfl (hb hby d2_45) rfl (teq hc45_4).2 k) ?_
            show Go p e below s₁ (mkF m 48 #[.val (.ref aW), .val (.int ff), .val (.int tt), .unset] []) _
            refine Go.of (fun _ k => XS.aloadN X0.here hx rfl (hb hby d2_48) rfl rfl  k) ?_
            show Go p e below s₁ (mkF m 49 #[.val (.ref aW), .val (.int ff), .val (.int tt), .unset] [(.ref aW)]) _
            refine Go.of (fun _ k => XS.iloadN X0.here hx rfl (hb hby d2_49) rfl  k) ?_
            show Go p e below s₁ (mkF m 50 #[.val (.ref aW), .val (.int ff), .val (.int tt), .unset] [(.int ff), (.ref aW)]) _
            refine Go.of (fun _ k => XS.iconst X0.here hx rfl (hb hby d2_50) k) ?_
            show Go p e below s₁ (mkF m 51 #[.val (.ref aW), .val (.int ff), .val (.int tt), .unset] [(.int (1 : Int32)), (.int ff), (.ref aW)]) _
            refine Go.of (fun _ k => XS.iadd X0.here hx rfl (hb hby d2_51) rfl k) ?_
            show Go p e below s₁ (mkF m 52 #[.val (.ref aW), .val (.int ff), .val (.int tt), .unset] [(.int (ff + (1 : Int32))), (.ref aW)]) _
            have hj4 := (show ¬ (ff + (1 : Int32)) < 0 ∧ (ff + (1 : Int32)) < 4 by simp only [own_lt, own_eq, b3, km1, k0, k1, k2, k3, k4, k5, k7, k10, k13] at hc2_0 hc9_1 hc17_2 hc30_3 hc45_4 ⊢; omega)
            refine Go.of (fun _ k => X0.baloadBytes hx (j := (ff + (1 : Int32))) (v := (.int (gg (ff + (1 : Int32))))) (by rw [e0]; exact A.1) (State.isArrayOf_alike hZ.alike A.2.1) A.2.2 (inb_of (z := 4) Sz hj4) (Hat _ hj4.1 hj4.2) (g := (mkF m 52 #[.val (.ref aW), .val (.int ff), .val (.int tt), .unset] [(.int (ff + (1 : Int32))), (.ref aW)])) rfl rfl (hb hby d2_52) _ k) ?_
            show Go p e below s₁ (mkF m 53 #[.val (.ref aW), .val (.int ff), .val (.int tt), .unset] [(.int (gg (ff + (1 : Int32))))]) _
            refine Go.of (fun _ k => XS.bipush X0.here hx rfl (hb hby d2_53) k) ?_
            show Go p e below s₁ (mkF m 55 #[.val (.ref aW), .val (.int ff), .val (.int tt), .unset] [(.int (10 : Int32)), (.int (gg (ff + (1 : Int32))))]) _
            by_cases hc55_5 : (gg (ff + (1 : Int32))) = (10 : Int32)
            · refine Go.of (fun _ k => XS.icmpNo X0.here hx rfl (hb hby d2_55) rfl (teq hc55_5).2 k) ?_
              show Go p e below s₁ (mkF m 58 #[.val (.ref aW), .val (.int ff), .val (.int tt), .unset] []) _
              refine Go.of (fun _ k => XS.iloadN X0.here hx rfl (hb hby d2_58) rfl  k) ?_
              show Go p e below s₁ (mkF m 59 #[.val (.ref aW), .val (.int ff), .val (.int tt), .unset] [(.int ff)]) _
              refine Go.of (fun _ k => XS.iconst X0.here hx rfl (hb hby d2_59) k) ?_
              show Go p e below s₁ (mkF m 60 #[.val (.ref aW), .val (.int ff), .val (.int tt), .unset] [(.int (2 : Int32)), (.int ff)]) _
              refine Go.of (fun _ k => XS.iadd X0.here hx rfl (hb hby d2_60) rfl k) ?_
              show Go p e below s₁ (mkF m 61 #[.val (.ref aW), .val (.int ff), .val (.int tt), .unset] [(.int (ff + (2 : Int32)))]) _
              refine Go.of (fun _ k => XS.istoreN X0.here hx rfl (hb hby d2_61) rfl (l' := #[.val (.ref aW), .val (.int ff), .val (.int tt), .val (.int (ff + (2 : Int32)))]) rfl k) ?_
              show Go p e below s₁ (mkF m 62 #[.val (.ref aW), .val (.int ff), .val (.int tt), .val (.int (ff + (2 : Int32)))] []) _
              refine Go.of (fun _ k => XS.goto X0.here hx rfl (pc0 := 62) (pc' := 67) rfl (hb hby d2_62) (by decide) (by decide) k) ?_
              show Go p e below s₁ (mkF m 67 #[.val (.ref aW), .val (.int ff), .val (.int tt), .val (.int (ff + (2 : Int32)))] []) _
              refine Go.of (fun _ k => XS.iloadN X0.here hx rfl (hb hby d2_67) rfl  k) ?_
              show Go p e below s₁ (mkF m 68 #[.val (.ref aW), .val (.int ff), .val (.int tt), .val (.int (ff + (2 : Int32)))] [(.int (ff + (2 : Int32)))]) _
              refine Go.retI X0 hx hret hlk (hb hby d2_68) e0 (by decide) (by decide) ?_
              exact ⟨by first | (simp [fR, *]; done) | (exfalso; contradiction), N0, rfl⟩
            · refine Go.of (fun _ k => XS.icmpYes X0.here hx rfl (pc0 := 55) (pc' := 65) rfl (hb hby d2_55) rfl (feq hc55_5).2 (by decide) (by decide) k) ?_
              show Go p e below s₁ (mkF m 65 #[.val (.ref aW), .val (.int ff), .val (.int tt), .unset] []) _
              refine Go.of (fun _ k => XS.iloadN X0.here hx rfl (hb hby d2_65) rfl  k) ?_
              show Go p e below s₁ (mkF m 66 #[.val (.ref aW), .val (.int ff), .val (.int tt), .unset] [(.int ff)]) _
              refine Go.of (fun _ k => XS.istoreN X0.here hx rfl (hb hby d2_66) rfl (l' := #[.val (.ref aW), .val (.int ff), .val (.int tt), .val (.int ff)]) rfl k) ?_
              show Go p e below s₁ (mkF m 67 #[.val (.ref aW), .val (.int ff), .val (.int tt), .val (.int ff)] []) _
              refine Go.of (fun _ k => XS.iloadN X0.here hx rfl (hb hby d2_67) rfl  k) ?_
              show Go p e below s₁ (mkF m 68 #[.val (.ref aW), .val (.int ff), .val (.int tt), .val (.int ff)] [(.int ff)]) _
              refine Go.retI X0 hx hret hlk (hb hby d2_68) e0 (by decide) (by decide) ?_
              exact ⟨by first | (simp [fR, *]; done) | (exfalso; contradiction), N0, rfl⟩
          · refine Go.of (fun _ k => XS.icmpYes X0.here hx rfl (pc0 := 45) (pc' := 65) rfl (hb hby d2_45) rfl (feq hc45_4).2 (by decide) (by decide) k) ?_
            show Go p e below s₁ (mkF m 65 #[.val (.ref aW), .val (.int ff), .val (.int tt), .unset] []) _
            refine Go.of (fun _ k => XS.iloadN X0.here hx rfl (hb hby d2_65) rfl  k) ?_
            show Go p e below s₁ (mkF m 66 #[.val (.ref aW), .val (.int ff), .val (.int tt), .unset] [(.int ff)]) _
            refine Go.of (fun _ k => XS.istoreN X0.here hx rfl (hb hby d2_66) rfl (l' := #[.val (.ref aW), .val (.int ff), .val (.int tt), .val (.int ff)]) rfl k) ?_
            show Go p e below s₁ (mkF m 67 #[.val (.ref aW), .val (.int ff), .val (.int tt), .val (.int ff)] []) _
            refine Go.of (fun _ k => XS.iloadN X0.here hx rfl (hb hby d2_67) rfl  k) ?_
            show Go p e below s₁ (mkF m 68 #[.val (.ref aW), .val (.int ff), .val (.int tt), .val (.int ff)] [(.int ff)]) _
            refine Go.retI X0 hx hret hlk (hb hby d2_68) e0 (by decide) (by decide) ?_
            exact ⟨by first | (simp [fR, *]; done) | (exfalso; contradiction), N0, rfl⟩
    · refine Go.of (fun _ k => XS.icmpYes X0.here hx rfl (pc0 := 9) (pc' := 25) rfl (hb hby d2_9) rfl (feq hc9_1).2 (by decide) (by decide) k) ?_
      show Go p e below s₁ (mkF m 25 #[.val (.ref aW), .val (.int ff), .val (.int tt), .unset] []) _
      refine Go.of (fun _ k => XS.aloadN X0.here hx rfl (hb hby d2_25) rfl rfl  k) ?_
      show Go p e below s₁ (mkF m 26 #[.val (.ref aW), .val (.int ff), .val (.int tt), .unset] [(.ref aW)]) _
      refine Go.of (fun _ k => XS.iloadN X0.here hx rfl (hb hby d2_26) rfl  k) ?_
      show Go p e below s₁ (mkF m 27 #[.val (.ref aW), .val (.int ff), .val (.int tt), .unset] [(.int ff), (.ref aW)]) _
      have hj5 := (show ¬ ff < 0 ∧ ff < 4 by simp only [own_lt, own_eq, b3, km1, k0, k1, k2, k3, k4, k5, k7, k10, k13] at hc2_0 hc9_1 ⊢; omega)
      refine Go.of (fun _ k => X0.baloadBytes hx (j := ff) (v := (.int (gg ff))) (by rw [e0]; exact A.1) (State.isArrayOf_alike hZ.alike A.2.1) A.2.2 (inb_of (z := 4) Sz hj5) (Hat _ hj5.1 hj5.2) (g := (mkF m 27 #[.val (.ref aW), .val (.int ff), .val (.int tt), .unset] [(.int ff), (.ref aW)])) rfl rfl (hb hby d2_27) _ k) ?_
      show Go p e below s₁ (mkF m 28 #[.val (.ref aW), .val (.int ff), .val (.int tt), .unset] [(.int (gg ff))]) _
      refine Go.of (fun _ k => XS.bipush X0.here hx rfl (hb hby d2_28) k) ?_
      show Go p e below s₁ (mkF m 30 #[.val (.ref aW), .val (.int ff), .val (.int tt), .unset] [(.int (10 : Int32)), (.int (gg ff))]) _
      by_cases hc30_2 : (gg ff) = (10 : Int32)
      · refine Go.of (fun _ k => XS.icmpNo X0.here hx rfl (hb hby d2_30) rfl (teq hc30_2).2 k) ?_
        show Go p e below s₁ (mkF m 33 #[.val (.ref aW), .val (.int ff), .val (.int tt), .unset] []) _
        refine Go.of (fun _ k => XS.iloadN X0.here hx rfl (hb hby d2_33) rfl  k) ?_
        show Go p e below s₁ (mkF m 34 #[.val (.ref aW), .val (.int ff), .val (.int tt), .unset] [(.int ff)]) _
        refine Go.of (fun _ k => XS.iconst X0.here hx rfl (hb hby d2_34) k) ?_
        show Go p e below s₁ (mkF m 35 #[.val (.ref aW), .val (.int ff), .val (.int tt), .unset] [(.int (1 : Int32)), (.int ff)]) _
        refine Go.of (fun _ k => XS.iadd X0.here hx rfl (hb hby d2_35) rfl k) ?_
        show Go p e below s₁ (mkF m 36 #[.val (.ref aW), .val (.int ff), .val (.int tt), .unset] [(.int (ff + (1 : Int32)))]) _
        refine Go.of (fun _ k => XS.istoreN X0.here hx rfl (hb hby d2_36) rfl (l' := #[.val (.ref aW), .val (.int ff), .val (.int tt), .val (.int (ff + (1 : Int32)))]) rfl k) ?_
        show Go p e below s₁ (mkF m 37 #[.val (.ref aW), .val (.int ff), .val (.int tt), .val (.int (ff + (1 : Int32)))] []) _
        refine Go.of (fun _ k => XS.goto X0.here hx rfl (pc0 := 37) (pc' := 67) rfl (hb hby d2_37) (by decide) (by decide) k) ?_
        show Go p e below s₁ (mkF m 67 #[.val (.ref aW), .val (.int ff), .val (.int tt), .val (.int (ff + (1 : Int32)))] []) _
        refine Go.of (fun _ k => XS.iloadN X0.here hx rfl (hb hby d2_67) rfl  k) ?_
        show Go p e below s₁ (mkF m 68 #[.val (.ref aW), .val (.int ff), .val (.int tt), .val (.int (ff + (1 : Int32)))] [(.int (ff + (1 : Int32)))]) _
        refine Go.retI X0 hx hret hlk (hb hby d2_68) e0 (by decide) (by decide) ?_
        exact ⟨by first | (simp [fR, *]; done) | (exfalso; contradiction), N0, rfl⟩
      · refine Go.of (fun _ k => XS.icmpYes X0.here hx rfl (pc0 := 30) (pc' := 40) rfl (hb hby d2_30) rfl (feq hc30_2).2 (by decide) (by decide) k) ?_
        show Go p e below s₁ (mkF m 40 #[.val (.ref aW), .val (.int ff), .val (.int tt), .unset] []) _
        refine Go.of (fun _ k => XS.aloadN X0.here hx rfl (hb hby d2_40) rfl rfl  k) ?_
        show Go p e below s₁ (mkF m 41 #[.val (.ref aW), .val (.int ff), .val (.int tt), .unset] [(.ref aW)]) _
        refine Go.of (fun _ k => XS.iloadN X0.here hx rfl (hb hby d2_41) rfl  k) ?_
        show Go p e below s₁ (mkF m 42 #[.val (.ref aW), .val (.int ff), .val (.int tt), .unset] [(.int ff), (.ref aW)]) _
        have hj6 := (show ¬ ff < 0 ∧ ff < 4 by simp only [own_lt, own_eq, b3, km1, k0, k1, k2, k3, k4, k5, k7, k10, k13] at hc2_0 hc9_1 hc30_2 ⊢; omega)
        refine Go.of (fun _ k => X0.baloadBytes hx (j := ff) (v := (.int (gg ff))) (by rw [e0]; exact A.1) (State.isArrayOf_alike hZ.alike A.2.1) A.2.2 (inb_of (z := 4) Sz hj6) (Hat _ hj6.1 hj6.2) (g := (mkF m 42 #[.val (.ref aW), .val (.int ff), .val (.int tt), .unset] [(.int ff), (.ref aW)])) rfl rfl (hb hby d2_42) _ k) ?_
        show Go p e below s₁ (mkF m 43 #[.val (.ref aW), .val (.int ff), .val (.int tt), .unset] [(.int (gg ff))]) _
        refine Go.of (fun _ k => XS.bipush X0.here hx rfl (hb hby d2_43) k) ?_
        show Go p e below s₁ (mkF m 45 #[.val (.ref aW), .val (.int ff), .val (.int tt), .unset] [(.int (13 : Int32)), (.int (gg ff))]) _
        by_cases hc45_3 : (gg ff) = (13 : Int32)
        · refine Go.of (fun _ k => XS.icmpNo X0.here hx rfl (hb hby d2_45) rfl (teq hc45_3).2 k) ?_
          show Go p e below s₁ (mkF m 48 #[.val (.ref aW), .val (.int ff), .val (.int tt), .unset] []) _
          refine Go.of (fun _ k => XS.aloadN X0.here hx rfl (hb hby d2_48) rfl rfl  k) ?_
          show Go p e below s₁ (mkF m 49 #[.val (.ref aW), .val (.int ff), .val (.int tt), .unset] [(.ref aW)]) _
          refine Go.of (fun _ k => XS.iloadN X0.here hx rfl (hb hby d2_49) rfl  k) ?_
          show Go p e below s₁ (mkF m 50 #[.val (.ref aW), .val (.int ff), .val (.int tt), .unset] [(.int ff), (.ref aW)]) _
          refine Go.of (fun _ k => XS.iconst X0.here hx rfl (hb hby d2_50) k) ?_
          show Go p e below s₁ (mkF m 51 #[.val (.ref aW), .val (.int ff), .val (.int tt), .unset] [(.int (1 : Int32)), (.int ff), (.ref aW)]) _
          refine Go.of (fun _ k => XS.iadd X0.here hx rfl (hb hby d2_51) rfl k) ?_
          show Go p e below s₁ (mkF m 52 #[.val (.ref aW), .val (.int ff), .val (.int tt), .unset] [(.int (ff + (1 : Int32))), (.ref aW)]) _
          have hj7 := (show ¬ (ff + (1 : Int32)) < 0 ∧ (ff + (1 : Int32)) < 4 by simp only [own_lt, own_eq, b3, km1, k0, k1, k2, k3, k4, k5, k7, k10, k13] at hc2_0 hc9_1 hc30_2 hc45_3 ⊢; omega)
          refine Go.of (fun _ k => X0.baloadBytes hx (j := (ff + (1 : Int32))) (v := (.int (gg (ff + (1 : Int32))))) (by rw [e0]; exact A.1) (State.isArrayOf_alike hZ.alike A.2.1) A.2.2 (inb_of (z := 4) Sz hj7) (Hat _ hj7.1 hj7.2) (g := (mkF m 52 #[.val (.ref aW), .val (.int ff), .val (.int tt), .unset] [(.int (ff + (1 : Int32))), (.ref aW)])) rfl rfl (hb hby d2_52) _ k) ?_
          show Go p e below s₁ (mkF m 53 #[.val (.ref aW), .val (.int ff), .val (.int tt), .unset] [(.int (gg (ff + (1 : Int32))))]) _
          refine Go.of (fun _ k => XS.bipush X0.here hx rfl (hb hby d2_53) k) ?_
          show Go p e below s₁ (mkF m 55 #[.val (.ref aW), .val (.int ff), .val (.int tt), .unset] [(.int (10 : Int32)), (.int (gg (ff + (1 : Int32))))]) _
          by_cases hc55_4 : (gg (ff + (1 : Int32))) = (10 : Int32)
          · refine Go.of (fun _ k => XS.icmpNo X0.here hx rfl (hb hby d2_55) rfl (teq hc55_4).2 k) ?_
            show Go p e below s₁ (mkF m 58 #[.val (.ref aW), .val (.int ff), .val (.int tt), .unset] []) _
            refine Go.of (fun _ k => XS.iloadN X0.here hx rfl (hb hby d2_58) rfl  k) ?_
            show Go p e below s₁ (mkF m 59 #[.val (.ref aW), .val (.int ff), .val (.int tt), .unset] [(.int ff)]) _
            refine Go.of (fun _ k => XS.iconst X0.here hx rfl (hb hby d2_59) k) ?_
            show Go p e below s₁ (mkF m 60 #[.val (.ref aW), .val (.int ff), .val (.int tt), .unset] [(.int (2 : Int32)), (.int ff)]) _
            refine Go.of (fun _ k => XS.iadd X0.here hx rfl (hb hby d2_60) rfl k) ?_
            show Go p e below s₁ (mkF m 61 #[.val (.ref aW), .val (.int ff), .val (.int tt), .unset] [(.int (ff + (2 : Int32)))]) _
            refine Go.of (fun _ k => XS.istoreN X0.here hx rfl (hb hby d2_61) rfl (l' := #[.val (.ref aW), .val (.int ff), .val (.int tt), .val (.int (ff + (2 : Int32)))]) rfl k) ?_
            show Go p e below s₁ (mkF m 62 #[.val (.ref aW), .val (.int ff), .val (.int tt), .val (.int (ff + (2 : Int32)))] []) _
            refine Go.of (fun _ k => XS.goto X0.here hx rfl (pc0 := 62) (pc' := 67) rfl (hb hby d2_62) (by decide) (by decide) k) ?_
            show Go p e below s₁ (mkF m 67 #[.val (.ref aW), .val (.int ff), .val (.int tt), .val (.int (ff + (2 : Int32)))] []) _
            refine Go.of (fun _ k => XS.iloadN X0.here hx rfl (hb hby d2_67) rfl  k) ?_
            show Go p e below s₁ (mkF m 68 #[.val (.ref aW), .val (.int ff), .val (.int tt), .val (.int (ff + (2 : Int32)))] [(.int (ff + (2 : Int32)))]) _
            refine Go.retI X0 hx hret hlk (hb hby d2_68) e0 (by decide) (by decide) ?_
            exact ⟨by first | (simp [fR, *]; done) | (exfalso; contradiction), N0, rfl⟩
          · refine Go.of (fun _ k => XS.icmpYes X0.here hx rfl (pc0 := 55) (pc' := 65) rfl (hb hby d2_55) rfl (feq hc55_4).2 (by decide) (by decide) k) ?_
            show Go p e below s₁ (mkF m 65 #[.val (.ref aW), .val (.int ff), .val (.int tt), .unset] []) _
            refine Go.of (fun _ k => XS.iloadN X0.here hx rfl (hb hby d2_65) rfl  k) ?_
            show Go p e below s₁ (mkF m 66 #[.val (.ref aW), .val (.int ff), .val (.int tt), .unset] [(.int ff)]) _
            refine Go.of (fun _ k => XS.istoreN X0.here hx rfl (hb hby d2_66) rfl (l' := #[.val (.ref aW), .val (.int ff), .val (.int tt), .val (.int ff)]) rfl k) ?_
            show Go p e below s₁ (mkF m 67 #[.val (.ref aW), .val (.int ff), .val (.int tt), .val (.int ff)] []) _
            refine Go.of (fun _ k => XS.iloadN X0.here hx rfl (hb hby d2_67) rfl  k) ?_
            show Go p e below s₁ (mkF m 68 #[.val (.ref aW), .val (.int ff), .val (.int tt), .val (.int ff)] [(.int ff)]) _
            refine Go.retI X0 hx hret hlk (hb hby d2_68) e0 (by decide) (by decide) ?_
            exact ⟨by first | (simp [fR, *]; done) | (exfalso; contradiction), N0, rfl⟩
        · refine Go.of (fun _ k => XS.icmpYes X0.here hx rfl (pc0 := 45) (pc' := 65) rfl (hb hby d2_45) rfl (feq hc45_3).2 (by decide) (by decide) k) ?_
          show Go p e below s₁ (mkF m 65 #[.val (.ref aW), .val (.int ff), .val (.int tt), .unset] []) _
          refine Go.of (fun _ k => XS.iloadN X0.here hx rfl (hb hby d2_65) rfl  k) ?_
          show Go p e below s₁ (mkF m 66 #[.val (.ref aW), .val (.int ff), .val (.int tt), .unset] [(.int ff)]) _
          refine Go.of (fun _ k => XS.istoreN X0.here hx rfl (hb hby d2_66) rfl (l' := #[.val (.ref aW), .val (.int ff), .val (.int tt), .val (.int ff)]) rfl k) ?_
          show Go p e below s₁ (mkF m 67 #[.val (.ref aW), .val (.int ff), .val (.int tt), .val (.int ff)] []) _
          refine Go.of (fun _ k => XS.iloadN X0.here hx rfl (hb hby d2_67) rfl  k) ?_
          show Go p e below s₁ (mkF m 68 #[.val (.ref aW), .val (.int ff), .val (.int tt), .val (.int ff)] [(.int ff)]) _
          refine Go.retI X0 hx hret hlk (hb hby d2_68) e0 (by decide) (by decide) ?_
          exact ⟨by first | (simp [fR, *]; done) | (exfalso; contradiction), N0, rfl⟩
theorem own_pd0 : parseMethodDescriptor "(I)B" = some ⟨[.int], some .byte⟩ := by decide +kernel
theorem own_pd1 : parseMethodDescriptor "([BII)I" = some ⟨[(.array .byte), .int, .int], some .int⟩ := by decide +kernel
theorem own_ef_rm0 (m : MethodId) (x0 : Int32) (x1 : Int32) (x2 : Int32) (x3 : Int32) (x4 : Int32) (x5 : Int32) : entryFrame m #[(.int x0), (.int x1), (.int x2), (.int x3), (.int x4), (.int x5)] maxLocals = mkF m 0 #[.val (.int x0), .val (.int x1), .val (.int x2), .val (.int x3), .val (.int x4), .val (.int x5), .unset, .unset, .unset, .unset, .unset] [] := by first | (simp [entryFrame, mkF, argsToLocals, Value.category, maxLocals]; done) | rfl
def Q_rm0 (Z : State) (x0 x1 x2 x3 x4 x5 : Int32) (h0 : Heap) (n0 : Nat) : Option Value → Heap → List Loc → Prop := fun v h L => v = some (.int 1) ∧ Fr n0 L
set_option maxRecDepth 65536 in
set_option maxHeartbeats 40000000 in
theorem rm0 (l : Launch) (Z : State) (a0 : Array Value) (hw : ∀ d ∈ tables_1, d.before a0 Z = true) (ws : List Jvm.Cond) (x0 x1 x2 x3 x4 x5 : Int32) (h0 : Heap) (n0 : Nat) (Z0 : n0 ≤ h0.size)  :
    Ctr l Z x code maxLocals ret ws room_1 #[(.int x0), (.int x1), (.int x2), (.int x3), (.int x4), (.int x5)] h0 (Q_rm0 Z x0 x1 x2 x3 x4 x5 h0 n0) := by
  refine Ctr.intro (plainFor_of_name own_pn0) ?_
  intro p e s m below meth c s₁ hx hby hml hown hnm hret hlk hZ X0 e0
  have hown : s.vm.findClass "com/example/ballotwise/ballotwise/http/HeaderFieldsEmptyLineEndPinLaw" = some m.cls := hown
  have hml : c.maxLocals = 11 := hml
  have N0 := Fr.nil n0
  refine Go.cast (own_ef_rm0 m x0 x1 x2 x3 x4 x5) ?_
  have Z0 := Z0
  show Go p e below s₁ (mkF m 0 #[.val (.int x0), .val (.int x1), .val (.int x2), .val (.int x3), .val (.int x4), .val (.int x5), .unset, .unset, .unset, .unset, .unset] []) _
  refine Go.of (fun _ k => XS.iconst X0.here hx rfl (hb hby at_0) k) ?_
  show Go p e below s₁ (mkF m 1 #[.val (.int x0), .val (.int x1), .val (.int x2), .val (.int x3), .val (.int x4), .val (.int x5), .unset, .unset, .unset, .unset, .unset] [(.int (4 : Int32))]) _
  obtain ⟨T1, h1, kc1, X1, e1, E1, A1, st1⟩ := newP X0 hx hZ (hw _ (List.mem_of_getElem? (i := 0) rfl)) e0 (g := (mkF m 1 #[.val (.int x0), .val (.int x1), .val (.int x2), .val (.int x3), .val (.int x4), .val (.int x5), .unset, .unset, .unset, .unset, .unset] [(.int (4 : Int32))])) rfl (hb hby at_1) rfl (by decide) (cap := 4) (by decide) (by decide) (by decide) (by decide)
  obtain ⟨ad1, g1⟩ : ∃ z, z = h0.size := ⟨_, rfl⟩
  rw [← g1] at A1 st1
  have ge_ad1 : n0 ≤ ad1 := Nat.le_trans Z0 (Nat.le_of_eq g1.symm)
  have Z0 := Nat.le_trans Z0 E1.1
  have V_ad1 : Arv Z h1 ad1 kc1 .byte (4 : Int32) [(.int (0 : Int32)), (.int (0 : Int32)), (.int (0 : Int32)), (.int (0 : Int32))] (.int (0 : Int32)) := (Arv.new A1 (by decide)).pad (pad_rep [] (.int (0 : Int32)) 4)
  refine Go.of (fun _ k => st1 _ k) ?_
  show Go p e below T1 (mkF m 3 #[.val (.int x0), .val (.int x1), .val (.int x2), .val (.int x3), .val (.int x4), .val (.int x5), .unset, .unset, .unset, .unset, .unset] [(.ref ad1)]) _
  refine Go.of (fun _ k => XS.dup X1.here hx rfl (hb hby at_3) rfl rfl k) ?_
  show Go p e below T1 (mkF m 4 #[.val (.int x0), .val (.int x1), .val (.int x2), .val (.int x3), .val (.int x4), .val (.int x5), .unset, .unset, .unset, .unset, .unset] [(.ref ad1), (.ref ad1)]) _
  refine Go.of (fun _ k => XS.iconst X1.here hx rfl (hb hby at_4) k) ?_
  show Go p e below T1 (mkF m 5 #[.val (.int x0), .val (.int x1), .val (.int x2), .val (.int x3), .val (.int x4), .val (.int x5), .unset, .unset, .unset, .unset, .unset] [(.int (0 : Int32)), (.ref ad1), (.ref ad1)]) _
  refine Go.of (fun _ k => XS.iloadN X1.here hx rfl (hb hby at_5) rfl  k) ?_
  show Go p e below T1 (mkF m 6 #[.val (.int x0), .val (.int x1), .val (.int x2), .val (.int x3), .val (.int x4), .val (.int x5), .unset, .unset, .unset, .unset, .unset] [(.int x0), (.int (0 : Int32)), (.ref ad1), (.ref ad1)]) _
  obtain ⟨_, _, ⟨T2, L2, kq2, nq2⟩, -, X2, ⟨Lc2, hQ2, l2, y2, z2⟩, st2⟩ := Jvm.LawKit.callS X1 hx (y := (⟨"com/example/ballotwise/ballotwise/http/HeaderFieldsEmptyLineEndPinLaw", "draw", "(I)B"⟩ : MethodName)) hown (mvT hZ (hw _ (List.mem_of_getElem? (i := 1) rfl))) (mvT hZ (hw _ (List.mem_of_getElem? (i := 2) rfl))) (mvT hZ (hw _ (List.mem_of_getElem? (i := 3) rfl))) (mvT hZ (hw _ (List.mem_of_getElem? (i := 4) rfl))) (by decide) (backOf (W := 3) (rm1 l Z a0 hw [] x0 h1 n0 Z0) hZ (hw _ (List.mem_of_getElem? (i := 4) rfl)) (hw _ (List.mem_of_getElem? (i := 3) rfl)) (by decide) (by decide)) (g := (mkF m 6 #[.val (.int x0), .val (.int x1), .val (.int x2), .val (.int x3), .val (.int x4), .val (.int x5), .unset, .unset, .unset, .unset, .unset] [(.int x0), (.int (0 : Int32)), (.ref ad1), (.ref ad1)])) rfl (by rw [hml]; rfl) (argsL := [(.int x0)]) (rest := [(.int (0 : Int32)), (.ref ad1), (.ref ad1)]) (lenOf own_pd0 rfl) rfl (by show 2 * 0 + _ ≤ _; exact Nat.le_of_eq rfl) (hb hby at_6) (fun _ _ => ⟨rfl, e1, (by decide : 1 + 0 ≤ _), (by decide : 4 + 0 ≤ _)⟩)
  dsimp only [Pt.U, Pt.locs, Pt.cells, Pt.slots] at X2 l2 y2 z2 st2 hQ2
  subst l2 y2 z2
  obtain ⟨⟨b2, rfl⟩, Nq2, e2⟩ := hQ2
  have N2 := Fr.app N0 Nq2
  refine Go.of (fun _ k => st2 _ k) ?_
  show Go p e below T2 (mkF m 9 #[.val (.int x0), .val (.int x1), .val (.int x2), .val (.int x3), .val (.int x4), .val (.int x5), .unset, .unset, .unset, .unset, .unset] [(.int b2), (.int (0 : Int32)), (.ref ad1), (.ref ad1)]) _
  obtain ⟨clq3, Arq3, qq3, Sq3, Nnq3, Hq3, Gq3⟩ := V_ad1
  have hin3 : ¬ ((0 : Int32) < 0 ∨ clq3.slots.size ≤ ((0 : Int32)).toNatClampNeg) := inb_of Sq3 ⟨by decide, by decide⟩
  obtain ⟨T3, h3, X3, e3, W3, st3⟩ := stB X2 hx hZ e2 Arq3 (j := (0 : Int32)) hin3 (g := (mkF m 9 #[.val (.int x0), .val (.int x1), .val (.int x2), .val (.int x3), .val (.int x4), .val (.int x5), .unset, .unset, .unset, .unset, .unset] [(.int b2), (.int (0 : Int32)), (.ref ad1), (.ref ad1)])) rfl rfl (hb hby at_9)
  have V_ad1 : Arv Z h3 ad1 kc1 .byte (4 : Int32) [(.int (nar .byte b2)), (.int (0 : Int32)), (.int (0 : Int32)), (.int (0 : Int32))] (.int (0 : Int32)) := Arv.set Arq3 qq3 Sq3 Nnq3 Hq3 Gq3 (fits_nar_byte _) W3 0 rfl (Nat.le_of_ble_eq_true rfl)
  have N3 := Fr.snoc X3 N2 ge_ad1
  have Z0 := Nat.le_trans Z0 (Keep.of_wr W3).1
  refine Go.of (fun _ k => st3 _ k) ?_
  show Go p e below T3 (mkF m 10 #[.val (.int x0), .val (.int x1), .val (.int x2), .val (.int x3), .val (.int x4), .val (.int x5), .unset, .unset, .unset, .unset, .unset] [(.ref ad1)]) _
  refine Go.of (fun _ k => XS.dup X3.here hx rfl (hb hby at_10) rfl rfl k) ?_
  show Go p e below T3 (mkF m 11 #[.val (.int x0), .val (.int x1), .val (.int x2), .val (.int x3), .val (.int x4), .val (.int x5), .unset, .unset, .unset, .unset, .unset] [(.ref ad1), (.ref ad1)]) _
  refine Go.of (fun _ k => XS.iconst X3.here hx rfl (hb hby at_11) k) ?_
  show Go p e below T3 (mkF m 12 #[.val (.int x0), .val (.int x1), .val (.int x2), .val (.int x3), .val (.int x4), .val (.int x5), .unset, .unset, .unset, .unset, .unset] [(.int (1 : Int32)), (.ref ad1), (.ref ad1)]) _
  refine Go.of (fun _ k => XS.iloadN X3.here hx rfl (hb hby at_12) rfl  k) ?_
  show Go p e below T3 (mkF m 13 #[.val (.int x0), .val (.int x1), .val (.int x2), .val (.int x3), .val (.int x4), .val (.int x5), .unset, .unset, .unset, .unset, .unset] [(.int x1), (.int (1 : Int32)), (.ref ad1), (.ref ad1)]) _
  obtain ⟨_, _, ⟨T4, L4, kq4, nq4⟩, -, X4, ⟨Lc4, hQ4, l4, y4, z4⟩, st4⟩ := Jvm.LawKit.callS X3 hx (y := (⟨"com/example/ballotwise/ballotwise/http/HeaderFieldsEmptyLineEndPinLaw", "draw", "(I)B"⟩ : MethodName)) hown (mvT hZ (hw _ (List.mem_of_getElem? (i := 1) rfl))) (mvT hZ (hw _ (List.mem_of_getElem? (i := 2) rfl))) (mvT hZ (hw _ (List.mem_of_getElem? (i := 3) rfl))) (mvT hZ (hw _ (List.mem_of_getElem? (i := 4) rfl))) (by decide) (backOf (W := 3) (rm1 l Z a0 hw [] x1 h3 n0 Z0) hZ (hw _ (List.mem_of_getElem? (i := 4) rfl)) (hw _ (List.mem_of_getElem? (i := 3) rfl)) (by decide) (by decide)) (g := (mkF m 13 #[.val (.int x0), .val (.int x1), .val (.int x2), .val (.int x3), .val (.int x4), .val (.int x5), .unset, .unset, .unset, .unset, .unset] [(.int x1), (.int (1 : Int32)), (.ref ad1), (.ref ad1)])) rfl (by rw [hml]; rfl) (argsL := [(.int x1)]) (rest := [(.int (1 : Int32)), (.ref ad1), (.ref ad1)]) (lenOf own_pd0 rfl) rfl (by show 2 * 0 + _ ≤ _; exact Nat.le_of_eq rfl) (hb hby at_13) (fun _ _ => ⟨rfl, e3, (by decide : 1 + 0 ≤ _), (by decide : 4 + 0 ≤ _)⟩)
  dsimp only [Pt.U, Pt.locs, Pt.cells, Pt.slots] at X4 l4 y4 z4 st4 hQ4
  subst l4 y4 z4
  obtain ⟨⟨b4, rfl⟩, Nq4, e4⟩ := hQ4
  have N4 := Fr.app N3 Nq4
  refine Go.of (fun _ k => st4 _ k) ?_
  show Go p e below T4 (mkF m 16 #[.val (.int x0), .val (.int x1), .val (.int x2), .val (.int x3), .val (.int x4), .val (.int x5), .unset, .unset, .unset, .unset, .unset] [(.int b4), (.int (1 : Int32)), (.ref ad1), (.ref ad1)]) _
  obtain ⟨clq5, Arq5, qq5, Sq5, Nnq5, Hq5, Gq5⟩ := V_ad1
  have hin5 : ¬ ((1 : Int32) < 0 ∨ clq5.slots.size ≤ ((1 : Int32)).toNatClampNeg) := inb_of Sq5 ⟨by decide, by decide⟩
  obtain ⟨T5, h5, X5, e5, W5, st5⟩ := stB X4 hx hZ e4 Arq5 (j := (1 : Int32)) hin5 (g := (mkF m 16 #[.val (.int x0), .val (.int x1), .val (.int x2), .val (.int x3), .val (.int x4), .val (.int x5), .unset, .unset, .unset, .unset, .unset] [(.int b4), (.int (1 : Int32)), (.ref ad1), (.ref ad1)])) rfl rfl (hb hby at_16)
  have V_ad1 : Arv Z h5 ad1 kc1 .byte (4 : Int32) [(.int (nar .byte b2)), (.int (nar .byte b4)), (.int (0 : Int32)), (.int (0 : Int32))] (.int (0 : Int32)) := Arv.set Arq5 qq5 Sq5 Nnq5 Hq5 Gq5 (fits_nar_byte _) W5 1 rfl (Nat.le_of_ble_eq_true rfl)
  have N5 := Fr.snoc X5 N4 ge_ad1
  have Z0 := Nat.le_trans Z0 (Keep.of_wr W5).1
  refine Go.of (fun _ k => st5 _ k) ?_
  show Go p e below T5 (mkF m 17 #[.val (.int x0), .val (.int x1), .val (.int x2), .val (.int x3), .val (.int x4), .val (.int x5), .unset, .unset, .unset, .unset, .unset] [(.ref ad1)]) _
  refine Go.of (fun _ k => XS.dup X5.here hx rfl (hb hby at_17) rfl rfl k) ?_
  show Go p e below T5 (mkF m 18 #[.val (.int x0), .val (.int x1), .val (.int x2), .val (.int x3), .val (.int x4), .val (.int x5), .unset, .unset, .unset, .unset, .unset] [(.ref ad1), (.ref ad1)]) _
  refine Go.of (fun _ k => XS.iconst X5.here hx rfl (hb hby at_18) k) ?_
  show Go p e below T5 (mkF m 19 #[.val (.int x0), .val (.int x1), .val (.int x2), .val (.int x3), .val (.int x4), .val (.int x5), .unset, .unset, .unset, .unset, .unset] [(.int (2 : Int32)), (.ref ad1), (.ref ad1)]) _
  refine Go.of (fun _ k => XS.iloadN X5.here hx rfl (hb hby at_19) rfl  k) ?_
  show Go p e below T5 (mkF m 20 #[.val (.int x0), .val (.int x1), .val (.int x2), .val (.int x3), .val (.int x4), .val (.int x5), .unset, .unset, .unset, .unset, .unset] [(.int x2), (.int (2 : Int32)), (.ref ad1), (.ref ad1)]) _
  obtain ⟨_, _, ⟨T6, L6, kq6, nq6⟩, -, X6, ⟨Lc6, hQ6, l6, y6, z6⟩, st6⟩ := Jvm.LawKit.callS X5 hx (y := (⟨"com/example/ballotwise/ballotwise/http/HeaderFieldsEmptyLineEndPinLaw", "draw", "(I)B"⟩ : MethodName)) hown (mvT hZ (hw _ (List.mem_of_getElem? (i := 1) rfl))) (mvT hZ (hw _ (List.mem_of_getElem? (i := 2) rfl))) (mvT hZ (hw _ (List.mem_of_getElem? (i := 3) rfl))) (mvT hZ (hw _ (List.mem_of_getElem? (i := 4) rfl))) (by decide) (backOf (W := 3) (rm1 l Z a0 hw [] x2 h5 n0 Z0) hZ (hw _ (List.mem_of_getElem? (i := 4) rfl)) (hw _ (List.mem_of_getElem? (i := 3) rfl)) (by decide) (by decide)) (g := (mkF m 20 #[.val (.int x0), .val (.int x1), .val (.int x2), .val (.int x3), .val (.int x4), .val (.int x5), .unset, .unset, .unset, .unset, .unset] [(.int x2), (.int (2 : Int32)), (.ref ad1), (.ref ad1)])) rfl (by rw [hml]; rfl) (argsL := [(.int x2)]) (rest := [(.int (2 : Int32)), (.ref ad1), (.ref ad1)]) (lenOf own_pd0 rfl) rfl (by show 2 * 0 + _ ≤ _; exact Nat.le_of_eq rfl) (hb hby at_20) (fun _ _ => ⟨rfl, e5, (by decide : 1 + 0 ≤ _), (by decide : 4 + 0 ≤ _)⟩)
  dsimp only [Pt.U, Pt.locs, Pt.cells, Pt.slots] at X6 l6 y6 z6 st6 hQ6
  subst l6 y6 z6
  obtain ⟨⟨b6, rfl⟩, Nq6, e6⟩ := hQ6
  have N6 := Fr.app N5 Nq6
  refine Go.of (fun _ k => st6 _ k) ?_
  show Go p e below T6 (mkF m 23 #[.val (.int x0), .val (.int x1), .val (.int x2), .val (.int x3), .val (.int x4), .val (.int x5), .unset, .unset, .unset, .unset, .unset] [(.int b6), (.int (2 : Int32)), (.ref ad1), (.ref ad1)]) _
  obtain ⟨clq7, Arq7, qq7, Sq7, Nnq7, Hq7, Gq7⟩ := V_ad1
  have hin7 : ¬ ((2 : Int32) < 0 ∨ clq7.slots.size ≤ ((2 : Int32)).toNatClampNeg) := inb_of Sq7 ⟨by decide, by decide⟩
  obtain ⟨T7, h7, X7, e7, W7, st7⟩ := stB X6 hx hZ e6 Arq7 (j := (2 : Int32)) hin7 (g := (mkF m 23 #[.val (.int x0), .val (.int x1), .val (.int x2), .val (.int x3), .val (.int x4), .val (.int x5), .unset, .unset, .unset, .unset, .unset] [(.int b6), (.int (2 : Int32)), (.ref ad1), (.ref ad1)])) rfl rfl (hb hby at_23)
  have V_ad1 : Arv Z h7 ad1 kc1 .byte (4 : Int32) [(.int (nar .byte b2)), (.int (nar .byte b4)), (.int (nar .byte b6)), (.int (0 : Int32))] (.int (0 : Int32)) := Arv.set Arq7 qq7 Sq7 Nnq7 Hq7 Gq7 (fits_nar_byte _) W7 2 rfl (Nat.le_of_ble_eq_true rfl)
  have N7 := Fr.snoc X7 N6 ge_ad1
  have Z0 := Nat.le_trans Z0 (Keep.of_wr W7).1
  refine Go.of (fun _ k => st7 _ k) ?_
  show Go p e below T7 (mkF m 24 #[.val (.int x0), .val (.int x1), .val (.int x2), .val (.int x3), .val (.int x4), .val (.int x5), .unset, .unset, .unset, .unset, .unset] [(.ref ad1)]) _
  refine Go.of (fun _ k => XS.dup X7.here hx rfl (hb hby at_24) rfl rfl k) ?_
  show Go p e below T7 (mkF m 25 #[.val (.int x0), .val (.int x1), .val (.int x2), .val (.int x3), .val (.int x4), .val (.int x5), .unset, .unset, .unset, .unset, .unset] [(.ref ad1), (.ref ad1)]) _
  refine Go.of (fun _ k => XS.iconst X7.here hx rfl (hb hby at_25) k) ?_
  show Go p e below T7 (mkF m 26 #[.val (.int x0), .val (.int x1), .val (.int x2), .val (.int x3), .val (.int x4), .val (.int x5), .unset, .unset, .unset, .unset, .unset] [(.int (3 : Int32)), (.ref ad1), (.ref ad1)]) _
  refine Go.of (fun _ k => XS.iloadN X7.here hx rfl (hb hby at_26) rfl  k) ?_
  show Go p e below T7 (mkF m 27 #[.val (.int x0), .val (.int x1), .val (.int x2), .val (.int x3), .val (.int x4), .val (.int x5), .unset, .unset, .unset, .unset, .unset] [(.int x3), (.int (3 : Int32)), (.ref ad1), (.ref ad1)]) _
  obtain ⟨_, _, ⟨T8, L8, kq8, nq8⟩, -, X8, ⟨Lc8, hQ8, l8, y8, z8⟩, st8⟩ := Jvm.LawKit.callS X7 hx (y := (⟨"com/example/ballotwise/ballotwise/http/HeaderFieldsEmptyLineEndPinLaw", "draw", "(I)B"⟩ : MethodName)) hown (mvT hZ (hw _ (List.mem_of_getElem? (i := 1) rfl))) (mvT hZ (hw _ (List.mem_of_getElem? (i := 2) rfl))) (mvT hZ (hw _ (List.mem_of_getElem? (i := 3) rfl))) (mvT hZ (hw _ (List.mem_of_getElem? (i := 4) rfl))) (by decide) (backOf (W := 3) (rm1 l Z a0 hw [] x3 h7 n0 Z0) hZ (hw _ (List.mem_of_getElem? (i := 4) rfl)) (hw _ (List.mem_of_getElem? (i := 3) rfl)) (by decide) (by decide)) (g := (mkF m 27 #[.val (.int x0), .val (.int x1), .val (.int x2), .val (.int x3), .val (.int x4), .val (.int x5), .unset, .unset, .unset, .unset, .unset] [(.int x3), (.int (3 : Int32)), (.ref ad1), (.ref ad1)])) rfl (by rw [hml]; rfl) (argsL := [(.int x3)]) (rest := [(.int (3 : Int32)), (.ref ad1), (.ref ad1)]) (lenOf own_pd0 rfl) rfl (by show 2 * 0 + _ ≤ _; exact Nat.le_of_eq rfl) (hb hby at_27) (fun _ _ => ⟨rfl, e7, (by decide : 1 + 0 ≤ _), (by decide : 4 + 0 ≤ _)⟩)
  dsimp only [Pt.U, Pt.locs, Pt.cells, Pt.slots] at X8 l8 y8 z8 st8 hQ8
  subst l8 y8 z8
  obtain ⟨⟨b8, rfl⟩, Nq8, e8⟩ := hQ8
  have N8 := Fr.app N7 Nq8
  refine Go.of (fun _ k => st8 _ k) ?_
  show Go p e below T8 (mkF m 30 #[.val (.int x0), .val (.int x1), .val (.int x2), .val (.int x3), .val (.int x4), .val (.int x5), .unset, .unset, .unset, .unset, .unset] [(.int b8), (.int (3 : Int32)), (.ref ad1), (.ref ad1)]) _
  obtain ⟨clq9, Arq9, qq9, Sq9, Nnq9, Hq9, Gq9⟩ := V_ad1
  have hin9 : ¬ ((3 : Int32) < 0 ∨ clq9.slots.size ≤ ((3 : Int32)).toNatClampNeg) := inb_of Sq9 ⟨by decide, by decide⟩
  obtain ⟨T9, h9, X9, e9, W9, st9⟩ := stB X8 hx hZ e8 Arq9 (j := (3 : Int32)) hin9 (g := (mkF m 30 #[.val (.int x0), .val (.int x1), .val (.int x2), .val (.int x3), .val (.int x4), .val (.int x5), .unset, .unset, .unset, .unset, .unset] [(.int b8), (.int (3 : Int32)), (.ref ad1), (.ref ad1)])) rfl rfl (hb hby at_30)
  have V_ad1 : Arv Z h9 ad1 kc1 .byte (4 : Int32) [(.int (nar .byte b2)), (.int (nar .byte b4)), (.int (nar .byte b6)), (.int (nar .byte b8))] (.int (0 : Int32)) := Arv.set Arq9 qq9 Sq9 Nnq9 Hq9 Gq9 (fits_nar_byte _) W9 3 rfl (Nat.le_of_ble_eq_true rfl)
  have N9 := Fr.snoc X9 N8 ge_ad1
  have Z0 := Nat.le_trans Z0 (Keep.of_wr W9).1
  refine Go.of (fun _ k => st9 _ k) ?_
  show Go p e below T9 (mkF m 31 #[.val (.int x0), .val (.int x1), .val (.int x2), .val (.int x3), .val (.int x4), .val (.int x5), .unset, .unset, .unset, .unset, .unset] [(.ref ad1)]) _
  refine Go.of (fun _ k => XS.astore X9.here hx rfl (hb hby at_31) rfl rfl (l' := #[.val (.int x0), .val (.int x1), .val (.int x2), .val (.int x3), .val (.int x4), .val (.int x5), .val (.ref ad1), .unset, .unset, .unset, .unset]) rfl k) ?_
  show Go p e below T9 (mkF m 33 #[.val (.int x0), .val (.int x1), .val (.int x2), .val (.int x3), .val (.int x4), .val (.int x5), .val (.ref ad1), .unset, .unset, .unset, .unset] []) _
  obtain ⟨cl, A, -, Sz, -, H, -⟩ := V_ad1
  obtain ⟨gg, hgg⟩ : ∃ gg : Int32 → Int32, gg 0 = (nar .byte b2) ∧ gg 1 = (nar .byte b4) ∧ gg 2 = (nar .byte b6) ∧ gg 3 = (nar .byte b8) := ⟨fun j => if j = 0 then (nar .byte b2) else if j = 1 then (nar .byte b4) else if j = 2 then (nar .byte b6) else (nar .byte b8), by simp, by simp, by simp, by simp⟩
  obtain ⟨g0, g1, g2, g3⟩ := hgg
  have Hat : ∀ j : Int32, ¬ j < 0 → j < 4 → cl.slots[j.toNatClampNeg]? = some (.int (gg j)) := by
    intro j h1 h2
    rcases own_4 h1 h2 with rfl | rfl | rfl | rfl
    · rw [g0]; exact H 0 (by rw [Sz]; decide)
    · rw [g1]; exact H 1 (by rw [Sz]; decide)
    · rw [g2]; exact H 2 (by rw [Sz]; decide)
    · rw [g3]; exact H 3 (by rw [Sz]; decide)
  refine Go.of (fun _ k => XS.iload X9.here hx rfl (hb hby at_33) rfl  k) ?_
  show Go p e below T9 (mkF m 35 #[.val (.int x0), .val (.int x1), .val (.int x2), .val (.int x3), .val (.int x4), .val (.int x5), .val (.ref ad1), .unset, .unset, .unset, .unset] [(.int x4)]) _
  refine Go.of (fun _ k => XS.bipush X9.here hx rfl (hb hby at_35) k) ?_
  show Go p e below T9 (mkF m 37 #[.val (.int x0), .val (.int x1), .val (.int x2), .val (.int x3), .val (.int x4), .val (.int x5), .val (.ref ad1), .unset, .unset, .unset, .unset] [(.int (7 : Int32)), (.int x4)]) _
  refine Go.of (fun _ k => XS.iand X9.here hx rfl (hb hby at_37) rfl k) ?_
  show Go p e below T9 (mkF m 38 #[.val (.int x0), .val (.int x1), .val (.int x2), .val (.int x3), .val (.int x4), .val (.int x5), .val (.ref ad1), .unset, .unset, .unset, .unset] [(.int (x4 &&& (7 : Int32)))]) _
  refine Go.of (fun _ k => XS.iconst X9.here hx rfl (hb hby at_38) k) ?_
  show Go p e below T9 (mkF m 39 #[.val (.int x0), .val (.int x1), .val (.int x2), .val (.int x3), .val (.int x4), .val (.int x5), .val (.ref ad1), .unset, .unset, .unset, .unset] [(.int (5 : Int32)), (.int (x4 &&& (7 : Int32)))]) _
  refine Go.of (fun _ k => iremM X9 hx rfl (hb hby at_39) rfl (by decide) k) ?_
  show Go p e below T9 (mkF m 40 #[.val (.int x0), .val (.int x1), .val (.int x2), .val (.int x3), .val (.int x4), .val (.int x5), .val (.ref ad1), .unset, .unset, .unset, .unset] [(.int ((x4 &&& (7 : Int32)) % (5 : Int32)))]) _
  refine Go.of (fun _ k => XS.istore X9.here hx rfl (hb hby at_40) rfl (l' := #[.val (.int x0), .val (.int x1), .val (.int x2), .val (.int x3), .val (.int x4), .val (.int x5), .val (.ref ad1), .val (.int ((x4 &&& (7 : Int32)) % (5 : Int32))), .unset, .unset, .unset]) rfl k) ?_
  show Go p e below T9 (mkF m 42 #[.val (.int x0), .val (.int x1), .val (.int x2), .val (.int x3), .val (.int x4), .val (.int x5), .val (.ref ad1), .val (.int ((x4 &&& (7 : Int32)) % (5 : Int32))), .unset, .unset, .unset] []) _
  generalize h_ff : ((x4 &&& (7 : Int32)) % (5 : Int32)) = ff
  have q1 := own_rem (x := x4 &&& 7) (y := 5) (own_7 x4) (by decide)
  rw [h_ff, k5] at q1
  have q2 : ((5 : Int32) - ff).toInt = 5 - ff.toInt := by rw [Jvm.Kit.i32_sub (by rw [k5]; omega) (by rw [k5]; omega), k5]
  refine Go.of (fun _ k => XS.iload X9.here hx rfl (hb hby at_42) rfl  k) ?_
  show Go p e below T9 (mkF m 44 #[.val (.int x0), .val (.int x1), .val (.int x2), .val (.int x3), .val (.int x4), .val (.int x5), .val (.ref ad1), .val (.int ff), .unset, .unset, .unset] [(.int ff)]) _
  refine Go.of (fun _ k => XS.iload X9.here hx rfl (hb hby at_44) rfl  k) ?_
  show Go p e below T9 (mkF m 46 #[.val (.int x0), .val (.int x1), .val (.int x2), .val (.int x3), .val (.int x4), .val (.int x5), .val (.ref ad1), .val (.int ff), .unset, .unset, .unset] [(.int x5), (.int ff)]) _
  refine Go.of (fun _ k => XS.bipush X9.here hx rfl (hb hby at_46) k) ?_
  show Go p e below T9 (mkF m 48 #[.val (.int x0), .val (.int x1), .val (.int x2), .val (.int x3), .val (.int x4), .val (.int x5), .val (.ref ad1), .val (.int ff), .unset, .unset, .unset] [(.int (7 : Int32)), (.int x5), (.int ff)]) _
  refine Go.of (fun _ k => XS.iand X9.here hx rfl (hb hby at_48) rfl k) ?_
  show Go p e below T9 (mkF m 49 #[.val (.int x0), .val (.int x1), .val (.int x2), .val (.int x3), .val (.int x4), .val (.int x5), .val (.ref ad1), .val (.int ff), .unset, .unset, .unset] [(.int (x5 &&& (7 : Int32))), (.int ff)]) _
  refine Go.of (fun _ k => XS.iconst X9.here hx rfl (hb hby at_49) k) ?_
  show Go p e below T9 (mkF m 50 #[.val (.int x0), .val (.int x1), .val (.int x2), .val (.int x3), .val (.int x4), .val (.int x5), .val (.ref ad1), .val (.int ff), .unset, .unset, .unset] [(.int (5 : Int32)), (.int (x5 &&& (7 : Int32))), (.int ff)]) _
  refine Go.of (fun _ k => XS.iload X9.here hx rfl (hb hby at_50) rfl  k) ?_
  show Go p e below T9 (mkF m 52 #[.val (.int x0), .val (.int x1), .val (.int x2), .val (.int x3), .val (.int x4), .val (.int x5), .val (.ref ad1), .val (.int ff), .unset, .unset, .unset] [(.int ff), (.int (5 : Int32)), (.int (x5 &&& (7 : Int32))), (.int ff)]) _
  refine Go.of (fun _ k => XS.isub X9.here hx rfl (hb hby at_52) rfl k) ?_
  show Go p e below T9 (mkF m 53 #[.val (.int x0), .val (.int x1), .val (.int x2), .val (.int x3), .val (.int x4), .val (.int x5), .val (.ref ad1), .val (.int ff), .unset, .unset, .unset] [(.int ((5 : Int32) - ff)), (.int (x5 &&& (7 : Int32))), (.int ff)]) _
  refine Go.of (fun _ k => iremM X9 hx rfl (hb hby at_53) rfl (fun q => by rw [own_eq, q2, k0] at q; omega) k) ?_
  show Go p e below T9 (mkF m 54 #[.val (.int x0), .val (.int x1), .val (.int x2), .val (.int x3), .val (.int x4), .val (.int x5), .val (.ref ad1), .val (.int ff), .unset, .unset, .unset] [(.int ((x5 &&& (7 : Int32)) % ((5 : Int32) - ff))), (.int ff)]) _
  refine Go.of (fun _ k => XS.iadd X9.here hx rfl (hb hby at_54) rfl k) ?_
  show Go p e below T9 (mkF m 55 #[.val (.int x0), .val (.int x1), .val (.int x2), .val (.int x3), .val (.int x4), .val (.int x5), .val (.ref ad1), .val (.int ff), .unset, .unset, .unset] [(.int (ff + ((x5 &&& (7 : Int32)) % ((5 : Int32) - ff))))]) _
  refine Go.of (fun _ k => XS.istore X9.here hx rfl (hb hby at_55) rfl (l' := #[.val (.int x0), .val (.int x1), .val (.int x2), .val (.int x3), .val (.int x4), .val (.int x5), .val (.ref ad1), .val (.int ff), .val (.int (ff + ((x5 &&& (7 : Int32)) % ((5 : Int32) - ff)))), .unset, .unset]) rfl k) ?_
  show Go p e below T9 (mkF m 57 #[.val (.int x0), .val (.int x1), .val (.int x2), .val (.int x3), .val (.int x4), .val (.int x5), .val (.ref ad1), .val (.int ff), .val (.int (ff + ((x5 &&& (7 : Int32)) % ((5 : Int32) - ff)))), .unset, .unset] []) _
  generalize h_tt : (ff + ((x5 &&& (7 : Int32)) % ((5 : Int32) - ff))) = tt
  have q3 := own_rem (x := x5 &&& 7) (y := 5 - ff) (own_7 x5) (by rw [q2]; omega)
  rw [q2] at q3
  have q4 : tt.toInt = ff.toInt + ((x5 &&& 7) % (5 - ff)).toInt := by rw [← h_tt, Jvm.Kit.i32_add (by omega) (by omega)]
  have b0 : 0 ≤ ff.toInt := q1.1
  have b1 : ff.toInt ≤ tt.toInt := by omega
  have b2 : tt.toInt ≤ 4 := by omega
  have b3 : (ff + 1).toInt = ff.toInt + 1 := by rw [Jvm.Kit.i32_add (by rw [k1]; omega) (by rw [k1]; omega), k1]
  have b4 : (tt - ff).toInt = tt.toInt - ff.toInt := by rw [Jvm.Kit.i32_sub (by omega) (by omega)]
  have b5 : (tt - ff = 1) ↔ (ff + 1 = tt) := by rw [own_eq, own_eq, b3, b4, k1]; omega
  have b6 : (tt = ff) ↔ (ff = tt) := ⟨Eq.symm, Eq.symm⟩
  refine Go.of (fun _ k => XS.iload X9.here hx rfl (hb hby at_57) rfl  k) ?_
  show Go p e below T9 (mkF m 59 #[.val (.int x0), .val (.int x1), .val (.int x2), .val (.int x3), .val (.int x4), .val (.int x5), .val (.ref ad1), .val (.int ff), .val (.int tt), .unset, .unset] [(.int tt)]) _
  refine Go.of (fun _ k => XS.iload X9.here hx rfl (hb hby at_59) rfl  k) ?_
  show Go p e below T9 (mkF m 61 #[.val (.int x0), .val (.int x1), .val (.int x2), .val (.int x3), .val (.int x4), .val (.int x5), .val (.ref ad1), .val (.int ff), .val (.int tt), .unset, .unset] [(.int ff), (.int tt)]) _
  by_cases hc61_0 : tt = ff
  · refine Go.of (fun _ k => XS.icmpNo X9.here hx rfl (hb hby at_61) rfl (teq hc61_0).2 k) ?_
    show Go p e below T9 (mkF m 64 #[.val (.int x0), .val (.int x1), .val (.int x2), .val (.int x3), .val (.int x4), .val (.int x5), .val (.ref ad1), .val (.int ff), .val (.int tt), .unset, .unset] []) _
    refine Go.of (fun _ k => XS.iconst X9.here hx rfl (hb hby at_64) k) ?_
    show Go p e below T9 (mkF m 65 #[.val (.int x0), .val (.int x1), .val (.int x2), .val (.int x3), .val (.int x4), .val (.int x5), .val (.ref ad1), .val (.int ff), .val (.int tt), .unset, .unset] [(.int (-1 : Int32))]) _
    refine Go.of (fun _ k => XS.istore X9.here hx rfl (hb hby at_65) rfl (l' := #[.val (.int x0), .val (.int x1), .val (.int x2), .val (.int x3), .val (.int x4), .val (.int x5), .val (.ref ad1), .val (.int ff), .val (.int tt), .val (.int (-1 : Int32)), .unset]) rfl k) ?_
    show Go p e below T9 (mkF m 67 #[.val (.int x0), .val (.int x1), .val (.int x2), .val (.int x3), .val (.int x4), .val (.int x5), .val (.ref ad1), .val (.int ff), .val (.int tt), .val (.int (-1 : Int32)), .unset] []) _
    refine Go.of (fun _ k => XS.goto X9.here hx rfl (pc0 := 67) (pc' := 147) rfl (hb hby at_67) (by decide) (by decide) k) ?_
    show Go p e below T9 (mkF m 147 #[.val (.int x0), .val (.int x1), .val (.int x2), .val (.int x3), .val (.int x4), .val (.int x5), .val (.ref ad1), .val (.int ff), .val (.int tt), .val (.int (-1 : Int32)), .unset] []) _
    refine Go.of (fun _ k => XS.aload X9.here hx rfl (hb hby at_147) rfl rfl  k) ?_
    show Go p e below T9 (mkF m 149 #[.val (.int x0), .val (.int x1), .val (.int x2), .val (.int x3), .val (.int x4), .val (.int x5), .val (.ref ad1), .val (.int ff), .val (.int tt), .val (.int (-1 : Int32)), .unset] [(.ref ad1)]) _
    refine Go.of (fun _ k => XS.iload X9.here hx rfl (hb hby at_149) rfl  k) ?_
    show Go p e below T9 (mkF m 151 #[.val (.int x0), .val (.int x1), .val (.int x2), .val (.int x3), .val (.int x4), .val (.int x5), .val (.ref ad1), .val (.int ff), .val (.int tt), .val (.int (-1 : Int32)), .unset] [(.int ff), (.ref ad1)]) _
    refine Go.of (fun _ k => XS.iload X9.here hx rfl (hb hby at_151) rfl  k) ?_
    show Go p e below T9 (mkF m 153 #[.val (.int x0), .val (.int x1), .val (.int x2), .val (.int x3), .val (.int x4), .val (.int x5), .val (.ref ad1), .val (.int ff), .val (.int tt), .val (.int (-1 : Int32)), .unset] [(.int tt), (.int ff), (.ref ad1)]) _
    obtain ⟨_, _, ⟨T10, L10, kq10, nq10⟩, -, X10, ⟨Lc10, hQ10, l10, y10, z10⟩, st10⟩ := Jvm.LawKit.callS X9 hx (y := (⟨"com/example/ballotwise/ballotwise/http/HeaderFields", "emptyLineEnd", "([BII)I"⟩ : MethodName)) hown (mvT hZ (hw _ (List.mem_of_getElem? (i := 5) rfl))) (mvT hZ (hw _ (List.mem_of_getElem? (i := 6) rfl))) (mvT hZ (hw _ (List.mem_of_getElem? (i := 7) rfl))) (mvT hZ (hw _ (List.mem_of_getElem? (i := 8) rfl))) (by decide) (backOf (W := 0) (rm2 l Z a0 hw [] ad1 ff tt cl gg h9 n0 Z0 A Sz Hat b0 b1 b2 b3) hZ (hw _ (List.mem_of_getElem? (i := 8) rfl)) (hw _ (List.mem_of_getElem? (i := 7) rfl)) (by decide) (by decide)) (g := (mkF m 153 #[.val (.int x0), .val (.int x1), .val (.int x2), .val (.int x3), .val (.int x4), .val (.int x5), .val (.ref ad1), .val (.int ff), .val (.int tt), .val (.int (-1 : Int32)), .unset] [(.int tt), (.int ff), (.ref ad1)])) rfl (by rw [hml]; rfl) (argsL := [(.ref ad1), (.int ff), (.int tt)]) (rest := []) (lenOf own_pd1 rfl) rfl (by show 2 * 0 + _ ≤ _; exact Nat.le_of_eq rfl) (hb hby at_153) (fun _ _ => ⟨rfl, e9, (by decide : 1 + 0 ≤ _), (by decide : 4 + 0 ≤ _)⟩)
    dsimp only [Pt.U, Pt.locs, Pt.cells, Pt.slots] at X10 l10 y10 z10 st10 hQ10
    subst l10 y10 z10
    obtain ⟨rfl, Nq10, e10⟩ := hQ10
    have N10 := Fr.app N9 Nq10
    refine Go.of (fun _ k => st10 _ k) ?_
    show Go p e below T10 (mkF m 156 #[.val (.int x0), .val (.int x1), .val (.int x2), .val (.int x3), .val (.int x4), .val (.int x5), .val (.ref ad1), .val (.int ff), .val (.int tt), .val (.int (-1 : Int32)), .unset] [(.int (fR gg ff tt))]) _
    refine Go.of (fun _ k => XS.iload X10.here hx rfl (hb hby at_156) rfl  k) ?_
    show Go p e below T10 (mkF m 158 #[.val (.int x0), .val (.int x1), .val (.int x2), .val (.int x3), .val (.int x4), .val (.int x5), .val (.ref ad1), .val (.int ff), .val (.int tt), .val (.int (-1 : Int32)), .unset] [(.int (-1 : Int32)), (.int (fR gg ff tt))]) _
    refine Go.of (fun _ k => XS.icmpNo X10.here hx rfl (hb hby at_158) rfl (teq (show (fR gg ff tt) = (-1 : Int32) from (by simp only [b5, b6] at *; simp [fR, *]))).2 k) ?_
    show Go p e below T10 (mkF m 161 #[.val (.int x0), .val (.int x1), .val (.int x2), .val (.int x3), .val (.int x4), .val (.int x5), .val (.ref ad1), .val (.int ff), .val (.int tt), .val (.int (-1 : Int32)), .unset] []) _
    refine Go.of (fun _ k => XS.iconst X10.here hx rfl (hb hby at_161) k) ?_
    show Go p e below T10 (mkF m 162 #[.val (.int x0), .val (.int x1), .val (.int x2), .val (.int x3), .val (.int x4), .val (.int x5), .val (.ref ad1), .val (.int ff), .val (.int tt), .val (.int (-1 : Int32)), .unset] [(.int (1 : Int32))]) _
    refine Go.of (fun _ k => XS.goto X10.here hx rfl (pc0 := 162) (pc' := 166) rfl (hb hby at_162) (by decide) (by decide) k) ?_
    show Go p e below T10 (mkF m 166 #[.val (.int x0), .val (.int x1), .val (.int x2), .val (.int x3), .val (.int x4), .val (.int x5), .val (.ref ad1), .val (.int ff), .val (.int tt), .val (.int (-1 : Int32)), .unset] [(.int (1 : Int32))]) _
    refine Go.retN X10 hx (t := .boolean) hret hlk (by simp) (hb hby at_166) e10 (by decide) (by decide) ?_
    exact ⟨rfl, N10⟩
  · refine Go.of (fun _ k => XS.icmpYes X9.here hx rfl (pc0 := 61) (pc' := 70) rfl (hb hby at_61) rfl (feq hc61_0).2 (by decide) (by decide) k) ?_
    show Go p e below T9 (mkF m 70 #[.val (.int x0), .val (.int x1), .val (.int x2), .val (.int x3), .val (.int x4), .val (.int x5), .val (.ref ad1), .val (.int ff), .val (.int tt), .unset, .unset] []) _
    refine Go.of (fun _ k => XS.aload X9.here hx rfl (hb hby at_70) rfl rfl  k) ?_
    show Go p e below T9 (mkF m 72 #[.val (.int x0), .val (.int x1), .val (.int x2), .val (.int x3), .val (.int x4), .val (.int x5), .val (.ref ad1), .val (.int ff), .val (.int tt), .unset, .unset] [(.ref ad1)]) _
    refine Go.of (fun _ k => XS.iload X9.here hx rfl (hb hby at_72) rfl  k) ?_
    show Go p e below T9 (mkF m 74 #[.val (.int x0), .val (.int x1), .val (.int x2), .val (.int x3), .val (.int x4), .val (.int x5), .val (.ref ad1), .val (.int ff), .val (.int tt), .unset, .unset] [(.int ff), (.ref ad1)]) _
    have hj11 : ¬ ff < 0 ∧ ff < 4 := by simp only [own_lt, own_eq, b3, b4, km1, k0, k1, k2, k3, k4, k5, k7, k10, k13] at hc61_0 ⊢; omega
    refine Go.of (fun _ k => X9.baloadBytes hx (j := ff) (v := (.int (gg ff))) (by rw [e9]; exact A.1) (State.isArrayOf_alike hZ.alike A.2.1) A.2.2 (inb_of (z := 4) Sz hj11) (Hat _ hj11.1 hj11.2) (g := (mkF m 74 #[.val (.int x0), .val (.int x1), .val (.int x2), .val (.int x3), .val (.int x4), .val (.int x5), .val (.ref ad1), .val (.int ff), .val (.int tt), .unset, .unset] [(.int ff), (.ref ad1)])) rfl rfl (hb hby at_74) _ k) ?_
    show Go p e below T9 (mkF m 75 #[.val (.int x0), .val (.int x1), .val (.int x2), .val (.int x3), .val (.int x4), .val (.int x5), .val (.ref ad1), .val (.int ff), .val (.int tt), .unset, .unset] [(.int (gg ff))]) _
    refine Go.of (fun _ k => XS.istore X9.here hx rfl (hb hby at_75) rfl (l' := #[.val (.int x0), .val (.int x1), .val (.int x2), .val (.int x3), .val (.int x4), .val (.int x5), .val (.ref ad1), .val (.int ff), .val (.int tt), .unset, .val (.int (gg ff))]) rfl k) ?_
    show Go p e below T9 (mkF m 77 #[.val (.int x0), .val (.int x1), .val (.int x2), .val (.int x3), .val (.int x4), .val (.int x5), .val (.ref ad1), .val (.int ff), .val (.int tt), .unset, .val (.int (gg ff))] []) _
    refine Go.of (fun _ k => XS.iload X9.here hx rfl (hb hby at_77) rfl  k) ?_
    show Go p e below T9 (mkF m 79 #[.val (.int x0), .val (.int x1), .val (.int x2), .val (.int x3), .val (.int x4), .val (.int x5), .val (.ref ad1), .val (.int ff), .val (.int tt), .unset, .val (.int (gg ff))] [(.int (gg ff))]) _
    refine Go.of (fun _ k => XS.bipush X9.here hx rfl (hb hby at_79) k) ?_
    show Go p e below T9 (mkF m 81 #[.val (.int x0), .val (.int x1), .val (.int x2), .val (.int x3), .val (.int x4), .val (.int x5), .val (.ref ad1), .val (.int ff), .val (.int tt), .unset, .val (.int (gg ff))] [(.int (10 : Int32)), (.int (gg ff))]) _
    by_cases hc81_1 : (gg ff) = (10 : Int32)
    · refine Go.of (fun _ k => XS.icmpNo X9.here hx rfl (hb hby at_81) rfl (teq hc81_1).2 k) ?_
      show Go p e below T9 (mkF m 84 #[.val (.int x0), .val (.int x1), .val (.int x2), .val (.int x3), .val (.int x4), .val (.int x5), .val (.ref ad1), .val (.int ff), .val (.int tt), .unset, .val (.int (gg ff))] []) _
      refine Go.of (fun _ k => XS.iload X9.here hx rfl (hb hby at_84) rfl  k) ?_
      show Go p e below T9 (mkF m 86 #[.val (.int x0), .val (.int x1), .val (.int x2), .val (.int x3), .val (.int x4), .val (.int x5), .val (.ref ad1), .val (.int ff), .val (.int tt), .unset, .val (.int (gg ff))] [(.int ff)]) _
      refine Go.of (fun _ k => XS.iconst X9.here hx rfl (hb hby at_86) k) ?_
      show Go p e below T9 (mkF m 87 #[.val (.int x0), .val (.int x1), .val (.int x2), .val (.int x3), .val (.int x4), .val (.int x5), .val (.ref ad1), .val (.int ff), .val (.int tt), .unset, .val (.int (gg ff))] [(.int (1 : Int32)), (.int ff)]) _
      refine Go.of (fun _ k => XS.iadd X9.here hx rfl (hb hby at_87) rfl k) ?_
      show Go p e below T9 (mkF m 88 #[.val (.int x0), .val (.int x1), .val (.int x2), .val (.int x3), .val (.int x4), .val (.int x5), .val (.ref ad1), .val (.int ff), .val (.int tt), .unset, .val (.int (gg ff))] [(.int (ff + (1 : Int32)))]) _
      refine Go.of (fun _ k => XS.istore X9.here hx rfl (hb hby at_88) rfl (l' := #[.val (.int x0), .val (.int x1), .val (.int x2), .val (.int x3), .val (.int x4), .val (.int x5), .val (.ref ad1), .val (.int ff), .val (.int tt), .val (.int (ff + (1 : Int32))), .val (.int (gg ff))]) rfl k) ?_
      show Go p e below T9 (mkF m 90 #[.val (.int x0), .val (.int x1), .val (.int x2), .val (.int x3), .val (.int x4), .val (.int x5), .val (.ref ad1), .val (.int ff), .val (.int tt), .val (.int (ff + (1 : Int32))), .val (.int (gg ff))] []) _
      refine Go.of (fun _ k => XS.goto X9.here hx rfl (pc0 := 90) (pc' := 147) rfl (hb hby at_90) (by decide) (by decide) k) ?_
      show Go p e below T9 (mkF m 147 #[.val (.int x0), .val (.int x1), .val (.int x2), .val (.int x3), .val (.int x4), .val (.int x5), .val (.ref ad1), .val (.int ff), .val (.int tt), .val (.int (ff + (1 : Int32))), .val (.int (gg ff))] []) _
      refine Go.of (fun _ k => XS.aload X9.here hx rfl (hb hby at_147) rfl rfl  k) ?_
      show Go p e below T9 (mkF m 149 #[.val (.int x0), .val (.int x1), .val (.int x2), .val (.int x3), .val (.int x4), .val (.int x5), .val (.ref ad1), .val (.int ff), .val (.int tt), .val (.int (ff + (1 : Int32))), .val (.int (gg ff))] [(.ref ad1)]) _
      refine Go.of (fun _ k => XS.iload X9.here hx rfl (hb hby at_149) rfl  k) ?_
      show Go p e below T9 (mkF m 151 #[.val (.int x0), .val (.int x1), .val (.int x2), .val (.int x3), .val (.int x4), .val (.int x5), .val (.ref ad1), .val (.int ff), .val (.int tt), .val (.int (ff + (1 : Int32))), .val (.int (gg ff))] [(.int ff), (.ref ad1)]) _
      refine Go.of (fun _ k => XS.iload X9.here hx rfl (hb hby at_151) rfl  k) ?_
      show Go p e below T9 (mkF m 153 #[.val (.int x0), .val (.int x1), .val (.int x2), .val (.int x3), .val (.int x4), .val (.int x5), .val (.ref ad1), .val (.int ff), .val (.int tt), .val (.int (ff + (1 : Int32))), .val (.int (gg ff))] [(.int tt), (.int ff), (.ref ad1)]) _
      obtain ⟨_, _, ⟨T12, L12, kq12, nq12⟩, -, X12, ⟨Lc12, hQ12, l12, y12, z12⟩, st12⟩ := Jvm.LawKit.callS X9 hx (y := (⟨"com/example/ballotwise/ballotwise/http/HeaderFields", "emptyLineEnd", "([BII)I"⟩ : MethodName)) hown (mvT hZ (hw _ (List.mem_of_getElem? (i := 5) rfl))) (mvT hZ (hw _ (List.mem_of_getElem? (i := 6) rfl))) (mvT hZ (hw _ (List.mem_of_getElem? (i := 7) rfl))) (mvT hZ (hw _ (List.mem_of_getElem? (i := 8) rfl))) (by decide) (backOf (W := 0) (rm2 l Z a0 hw [] ad1 ff tt cl gg h9 n0 Z0 A Sz Hat b0 b1 b2 b3) hZ (hw _ (List.mem_of_getElem? (i := 8) rfl)) (hw _ (List.mem_of_getElem? (i := 7) rfl)) (by decide) (by decide)) (g := (mkF m 153 #[.val (.int x0), .val (.int x1), .val (.int x2), .val (.int x3), .val (.int x4), .val (.int x5), .val (.ref ad1), .val (.int ff), .val (.int tt), .val (.int (ff + (1 : Int32))), .val (.int (gg ff))] [(.int tt), (.int ff), (.ref ad1)])) rfl (by rw [hml]; rfl) (argsL := [(.ref ad1), (.int ff), (.int tt)]) (rest := []) (lenOf own_pd1 rfl) rfl (by show 2 * 0 + _ ≤ _; exact Nat.le_of_eq rfl) (hb hby at_153) (fun _ _ => ⟨rfl, e9, (by decide : 1 + 0 ≤ _), (by decide : 4 + 0 ≤ _)⟩)
      dsimp only [Pt.U, Pt.locs, Pt.cells, Pt.slots] at X12 l12 y12 z12 st12 hQ12
      subst l12 y12 z12
      obtain ⟨rfl, Nq12, e12⟩ := hQ12
      have N12 := Fr.app N9 Nq12
      refine Go.of (fun _ k => st12 _ k) ?_
      show Go p e below T12 (mkF m 156 #[.val (.int x0), .val (.int x1), .val (.int x2), .val (.int x3), .val (.int x4), .val (.int x5), .val (.ref ad1), .val (.int ff), .val (.int tt), .val (.int (ff + (1 : Int32))), .val (.int (gg ff))] [(.int (fR gg ff tt))]) _
      refine Go.of (fun _ k => XS.iload X12.here hx rfl (hb hby at_156) rfl  k) ?_
      show Go p e below T12 (mkF m 158 #[.val (.int x0), .val (.int x1), .val (.int x2), .val (.int x3), .val (.int x4), .val (.int x5), .val (.ref ad1), .val (.int ff), .val (.int tt), .val (.int (ff + (1 : Int32))), .val (.int (gg ff))] [(.int (ff + (1 : Int32))), (.int (fR gg ff tt))]) _
      refine Go.of (fun _ k => XS.icmpNo X12.here hx rfl (hb hby at_158) rfl (teq (show (fR gg ff tt) = (ff + (1 : Int32)) from (by simp only [b5, b6] at *; simp [fR, *]))).2 k) ?_
      show Go p e below T12 (mkF m 161 #[.val (.int x0), .val (.int x1), .val (.int x2), .val (.int x3), .val (.int x4), .val (.int x5), .val (.ref ad1), .val (.int ff), .val (.int tt), .val (.int (ff + (1 : Int32))), .val (.int (gg ff))] []) _
      refine Go.of (fun _ k => XS.iconst X12.here hx rfl (hb hby at_161) k) ?_
      show Go p e below T12 (mkF m 162 #[.val (.int x0), .val (.int x1), .val (.int x2), .val (.int x3), .val (.int x4), .val (.int x5), .val (.ref ad1), .val (.int ff), .val (.int tt), .val (.int (ff + (1 : Int32))), .val (.int (gg ff))] [(.int (1 : Int32))]) _
      refine Go.of (fun _ k => XS.goto X12.here hx rfl (pc0 := 162) (pc' := 166) rfl (hb hby at_162) (by decide) (by decide) k) ?_
      show Go p e below T12 (mkF m 166 #[.val (.int x0), .val (.int x1), .val (.int x2), .val (.int x3), .val (.int x4), .val (.int x5), .val (.ref ad1), .val (.int ff), .val (.int tt), .val (.int (ff + (1 : Int32))), .val (.int (gg ff))] [(.int (1 : Int32))]) _
      refine Go.retN X12 hx (t := .boolean) hret hlk (by simp) (hb hby at_166) e12 (by decide) (by decide) ?_
      exact ⟨rfl, N12⟩
    · refine Go.of (fun _ k => XS.icmpYes X9.here hx rfl (pc0 := 81) (pc' := 93) rfl (hb hby at_81) rfl (feq hc81_1).2 (by decide) (by decide) k) ?_
      show Go p e below T9 (mkF m 93 #[.val (.int x0), .val (.int x1), .val (.int x2), .val (.int x3), .val (.int x4), .val (.int x5), .val (.ref ad1), .val (.int ff), .val (.int tt), .unset, .val (.int (gg ff))] []) _
      refine Go.of (fun _ k => XS.iload X9.here hx rfl (hb hby at_93) rfl  k) ?_
      show Go p e below T9 (mkF m 95 #[.val (.int x0), .val (.int x1), .val (.int x2), .val (.int x3), .val (.int x4), .val (.int x5), .val (.ref ad1), .val (.int ff), .val (.int tt), .unset, .val (.int (gg ff))] [(.int (gg ff))]) _
      refine Go.of (fun _ k => XS.bipush X9.here hx rfl (hb hby at_95) k) ?_
      show Go p e below T9 (mkF m 97 #[.val (.int x0), .val (.int x1), .val (.int x2), .val (.int x3), .val (.int x4), .val (.int x5), .val (.ref ad1), .val (.int ff), .val (.int tt), .unset, .val (.int (gg ff))] [(.int (13 : Int32)), (.int (gg ff))]) _
      by_cases hc97_2 : (gg ff) = (13 : Int32)
      · refine Go.of (fun _ k => XS.icmpYes X9.here hx rfl (pc0 := 97) (pc' := 107) rfl (hb hby at_97) rfl (teq hc97_2).1 (by decide) (by decide) k) ?_
        show Go p e below T9 (mkF m 107 #[.val (.int x0), .val (.int x1), .val (.int x2), .val (.int x3), .val (.int x4), .val (.int x5), .val (.ref ad1), .val (.int ff), .val (.int tt), .unset, .val (.int (gg ff))] []) _
        refine Go.of (fun _ k => XS.iload X9.here hx rfl (hb hby at_107) rfl  k) ?_
        show Go p e below T9 (mkF m 109 #[.val (.int x0), .val (.int x1), .val (.int x2), .val (.int x3), .val (.int x4), .val (.int x5), .val (.ref ad1), .val (.int ff), .val (.int tt), .unset, .val (.int (gg ff))] [(.int tt)]) _
        refine Go.of (fun _ k => XS.iload X9.here hx rfl (hb hby at_109) rfl  k) ?_
        show Go p e below T9 (mkF m 111 #[.val (.int x0), .val (.int x1), .val (.int x2), .val (.int x3), .val (.int x4), .val (.int x5), .val (.ref ad1), .val (.int ff), .val (.int tt), .unset, .val (.int (gg ff))] [(.int ff), (.int tt)]) _
        refine Go.of (fun _ k => XS.isub X9.here hx rfl (hb hby at_111) rfl k) ?_
        show Go p e below T9 (mkF m 112 #[.val (.int x0), .val (.int x1), .val (.int x2), .val (.int x3), .val (.int x4), .val (.int x5), .val (.ref ad1), .val (.int ff), .val (.int tt), .unset, .val (.int (gg ff))] [(.int (tt - ff))]) _
        refine Go.of (fun _ k => XS.iconst X9.here hx rfl (hb hby at_112) k) ?_
        show Go p e below T9 (mkF m 113 #[.val (.int x0), .val (.int x1), .val (.int x2), .val (.int x3), .val (.int x4), .val (.int x5), .val (.ref ad1), .val (.int ff), .val (.int tt), .unset, .val (.int (gg ff))] [(.int (1 : Int32)), (.int (tt - ff))]) _
        by_cases hc113_3 : (tt - ff) = (1 : Int32)
        · refine Go.of (fun _ k => XS.icmpNo X9.here hx rfl (hb hby at_113) rfl (teq hc113_3).2 k) ?_
          show Go p e below T9 (mkF m 116 #[.val (.int x0), .val (.int x1), .val (.int x2), .val (.int x3), .val (.int x4), .val (.int x5), .val (.ref ad1), .val (.int ff), .val (.int tt), .unset, .val (.int (gg ff))] []) _
          refine Go.of (fun _ k => XS.iconst X9.here hx rfl (hb hby at_116) k) ?_
          show Go p e below T9 (mkF m 117 #[.val (.int x0), .val (.int x1), .val (.int x2), .val (.int x3), .val (.int x4), .val (.int x5), .val (.ref ad1), .val (.int ff), .val (.int tt), .unset, .val (.int (gg ff))] [(.int (-1 : Int32))]) _
          refine Go.of (fun _ k => XS.istore X9.here hx rfl (hb hby at_117) rfl (l' := #[.val (.int x0), .val (.int x1), .val (.int x2), .val (.int x3), .val (.int x4), .val (.int x5), .val (.ref ad1), .val (.int ff), .val (.int tt), .val (.int (-1 : Int32)), .val (.int (gg ff))]) rfl k) ?_
          show Go p e below T9 (mkF m 119 #[.val (.int x0), .val (.int x1), .val (.int x2), .val (.int x3), .val (.int x4), .val (.int x5), .val (.ref ad1), .val (.int ff), .val (.int tt), .val (.int (-1 : Int32)), .val (.int (gg ff))] []) _
          refine Go.of (fun _ k => XS.goto X9.here hx rfl (pc0 := 119) (pc' := 147) rfl (hb hby at_119) (by decide) (by decide) k) ?_
          show Go p e below T9 (mkF m 147 #[.val (.int x0), .val (.int x1), .val (.int x2), .val (.int x3), .val (.int x4), .val (.int x5), .val (.ref ad1), .val (.int ff), .val (.int tt), .val (.int (-1 : Int32)), .val (.int (gg ff))] []) _
          refine Go.of (fun _ k => XS.aload X9.here hx rfl (hb hby at_147) rfl rfl  k) ?_
          show Go p e below T9 (mkF m 149 #[.val (.int x0), .val (.int x1), .val (.int x2), .val (.int x3), .val (.int x4), .val (.int x5), .val (.ref ad1), .val (.int ff), .val (.int tt), .val (.int (-1 : Int32)), .val (.int (gg ff))] [(.ref ad1)]) _
          refine Go.of (fun _ k => XS.iload X9.here hx rfl (hb hby at_149) rfl  k) ?_
          show Go p e below T9 (mkF m 151 #[.val (.int x0), .val (.int x1), .val (.int x2), .val (.int x3), .val (.int x4), .val (.int x5), .val (.ref ad1), .val (.int ff), .val (.int tt), .val (.int (-1 : Int32)), .val (.int (gg ff))] [(.int ff), (.ref ad1)]) _
          refine Go.of (fun _ k => XS.iload X9.here hx rfl (hb hby at_151) rfl  k) ?_
          show Go p e below T9 (mkF m 153 #[.val (.int x0), .val (.int x1), .val (.int x2), .val (.int x3), .val (.int x4), .val (.int x5), .val (.ref ad1), .val (.int ff), .val (.int tt), .val (.int (-1 : Int32)), .val (.int (gg ff))] [(.int tt), (.int ff), (.ref ad1)]) _
          obtain ⟨_, _, ⟨T13, L13, kq13, nq13⟩, -, X13, ⟨Lc13, hQ13, l13, y13, z13⟩, st13⟩ := Jvm.LawKit.callS X9 hx (y := (⟨"com/example/ballotwise/ballotwise/http/HeaderFields", "emptyLineEnd", "([BII)I"⟩ : MethodName)) hown (mvT hZ (hw _ (List.mem_of_getElem? (i := 5) rfl))) (mvT hZ (hw _ (List.mem_of_getElem? (i := 6) rfl))) (mvT hZ (hw _ (List.mem_of_getElem? (i := 7) rfl))) (mvT hZ (hw _ (List.mem_of_getElem? (i := 8) rfl))) (by decide) (backOf (W := 0) (rm2 l Z a0 hw [] ad1 ff tt cl gg h9 n0 Z0 A Sz Hat b0 b1 b2 b3) hZ (hw _ (List.mem_of_getElem? (i := 8) rfl)) (hw _ (List.mem_of_getElem? (i := 7) rfl)) (by decide) (by decide)) (g := (mkF m 153 #[.val (.int x0), .val (.int x1), .val (.int x2), .val (.int x3), .val (.int x4), .val (.int x5), .val (.ref ad1), .val (.int ff), .val (.int tt), .val (.int (-1 : Int32)), .val (.int (gg ff))] [(.int tt), (.int ff), (.ref ad1)])) rfl (by rw [hml]; rfl) (argsL := [(.ref ad1), (.int ff), (.int tt)]) (rest := []) (lenOf own_pd1 rfl) rfl (by show 2 * 0 + _ ≤ _; exact Nat.le_of_eq rfl) (hb hby at_153) (fun _ _ => ⟨rfl, e9, (by decide : 1 + 0 ≤ _), (by decide : 4 + 0 ≤ _)⟩)
          dsimp only [Pt.U, Pt.locs, Pt.cells, Pt.slots] at X13 l13 y13 z13 st13 hQ13
          subst l13 y13 z13
          obtain ⟨rfl, Nq13, e13⟩ := hQ13
          have N13 := Fr.app N9 Nq13
          refine Go.of (fun _ k => st13 _ k) ?_
          show Go p e below T13 (mkF m 156 #[.val (.int x0), .val (.int x1), .val (.int x2), .val (.int x3), .val (.int x4), .val (.int x5), .val (.ref ad1), .val (.int ff), .val (.int tt), .val (.int (-1 : Int32)), .val (.int (gg ff))] [(.int (fR gg ff tt))]) _
          refine Go.of (fun _ k => XS.iload X13.here hx rfl (hb hby at_156) rfl  k) ?_
          show Go p e below T13 (mkF m 158 #[.val (.int x0), .val (.int x1), .val (.int x2), .val (.int x3), .val (.int x4), .val (.int x5), .val (.ref ad1), .val (.int ff), .val (.int tt), .val (.int (-1 : Int32)), .val (.int (gg ff))] [(.int (-1 : Int32)), (.int (fR gg ff tt))]) _
          refine Go.of (fun _ k => XS.icmpNo X13.here hx rfl (hb hby at_158) rfl (teq (show (fR gg ff tt) = (-1 : Int32) from (by simp only [b5, b6] at *; simp [fR, *]))).2 k) ?_
          show Go p e below T13 (mkF m 161 #[.val (.int x0), .val (.int x1), .val (.int x2), .val (.int x3), .val (.int x4), .val (.int x5), .val (.ref ad1), .val (.int ff), .val (.int tt), .val (.int (-1 : Int32)), .val (.int (gg ff))] []) _
          refine Go.of (fun _ k => XS.iconst X13.here hx rfl (hb hby at_161) k) ?_
          show Go p e below T13 (mkF m 162 #[.val (.int x0), .val (.int x1), .val (.int x2), .val (.int x3), .val (.int x4), .val (.int x5), .val (.ref ad1), .val (.int ff), .val (.int tt), .val (.int (-1 : Int32)), .val (.int (gg ff))] [(.int (1 : Int32))]) _
          refine Go.of (fun _ k => XS.goto X13.here hx rfl (pc0 := 162) (pc' := 166) rfl (hb hby at_162) (by decide) (by decide) k) ?_
          show Go p e below T13 (mkF m 166 #[.val (.int x0), .val (.int x1), .val (.int x2), .val (.int x3), .val (.int x4), .val (.int x5), .val (.ref ad1), .val (.int ff), .val (.int tt), .val (.int (-1 : Int32)), .val (.int (gg ff))] [(.int (1 : Int32))]) _
          refine Go.retN X13 hx (t := .boolean) hret hlk (by simp) (hb hby at_166) e13 (by decide) (by decide) ?_
          exact ⟨rfl, N13⟩
        · refine Go.of (fun _ k => XS.icmpYes X9.here hx rfl (pc0 := 113) (pc' := 122) rfl (hb hby at_113) rfl (feq hc113_3).2 (by decide) (by decide) k) ?_
          show Go p e below T9 (mkF m 122 #[.val (.int x0), .val (.int x1), .val (.int x2), .val (.int x3), .val (.int x4), .val (.int x5), .val (.ref ad1), .val (.int ff), .val (.int tt), .unset, .val (.int (gg ff))] []) _
          refine Go.of (fun _ k => XS.aload X9.here hx rfl (hb hby at_122) rfl rfl  k) ?_
          show Go p e below T9 (mkF m 124 #[.val (.int x0), .val (.int x1), .val (.int x2), .val (.int x3), .val (.int x4), .val (.int x5), .val (.ref ad1), .val (.int ff), .val (.int tt), .unset, .val (.int (gg ff))] [(.ref ad1)]) _
          refine Go.of (fun _ k => XS.iload X9.here hx rfl (hb hby at_124) rfl  k) ?_
          show Go p e below T9 (mkF m 126 #[.val (.int x0), .val (.int x1), .val (.int x2), .val (.int x3), .val (.int x4), .val (.int x5), .val (.ref ad1), .val (.int ff), .val (.int tt), .unset, .val (.int (gg ff))] [(.int ff), (.ref ad1)]) _
          refine Go.of (fun _ k => XS.iconst X9.here hx rfl (hb hby at_126) k) ?_
          show Go p e below T9 (mkF m 127 #[.val (.int x0), .val (.int x1), .val (.int x2), .val (.int x3), .val (.int x4), .val (.int x5), .val (.ref ad1), .val (.int ff), .val (.int tt), .unset, .val (.int (gg ff))] [(.int (1 : Int32)), (.int ff), (.ref ad1)]) _
          refine Go.of (fun _ k => XS.iadd X9.here hx rfl (hb hby at_127) rfl k) ?_
          show Go p e below T9 (mkF m 128 #[.val (.int x0), .val (.int x1), .val (.int x2), .val (.int x3), .val (.int x4), .val (.int x5), .val (.ref ad1), .val (.int ff), .val (.int tt), .unset, .val (.int (gg ff))] [(.int (ff + (1 : Int32))), (.ref ad1)]) _
          have hj14 : ¬ (ff + (1 : Int32)) < 0 ∧ (ff + (1 : Int32)) < 4 := by simp only [own_lt, own_eq, b3, b4, km1, k0, k1, k2, k3, k4, k5, k7, k10, k13] at hc61_0 hc81_1 hc97_2 hc113_3 ⊢; omega
          refine Go.of (fun _ k => X9.baloadBytes hx (j := (ff + (1 : Int32))) (v := (.int (gg (ff + (1 : Int32))))) (by rw [e9]; exact A.1) (State.isArrayOf_alike hZ.alike A.2.1) A.2.2 (inb_of (z := 4) Sz hj14) (Hat _ hj14.1 hj14.2) (g := (mkF m 128 #[.val (.int x0), .val (.int x1), .val (.int x2), .val (.int x3), .val (.int x4), .val (.int x5), .val (.ref ad1), .val (.int ff), .val (.int tt), .unset, .val (.int (gg ff))] [(.int (ff + (1 : Int32))), (.ref ad1)])) rfl rfl (hb hby at_128) _ k) ?_
          show Go p e below T9 (mkF m 129 #[.val (.int x0), .val (.int x1), .val (.int x2), .val (.int x3), .val (.int x4), .val (.int x5), .val (.ref ad1), .val (.int ff), .val (.int tt), .unset, .val (.int (gg ff))] [(.int (gg (ff + (1 : Int32))))]) _
          refine Go.of (fun _ k => XS.bipush X9.here hx rfl (hb hby at_129) k) ?_
          show Go p e below T9 (mkF m 131 #[.val (.int x0), .val (.int x1), .val (.int x2), .val (.int x3), .val (.int x4), .val (.int x5), .val (.ref ad1), .val (.int ff), .val (.int tt), .unset, .val (.int (gg ff))] [(.int (10 : Int32)), (.int (gg (ff + (1 : Int32))))]) _
          by_cases hc131_4 : (gg (ff + (1 : Int32))) = (10 : Int32)
          · refine Go.of (fun _ k => XS.icmpNo X9.here hx rfl (hb hby at_131) rfl (teq hc131_4).2 k) ?_
            show Go p e below T9 (mkF m 134 #[.val (.int x0), .val (.int x1), .val (.int x2), .val (.int x3), .val (.int x4), .val (.int x5), .val (.ref ad1), .val (.int ff), .val (.int tt), .unset, .val (.int (gg ff))] []) _
            refine Go.of (fun _ k => XS.iload X9.here hx rfl (hb hby at_134) rfl  k) ?_
            show Go p e below T9 (mkF m 136 #[.val (.int x0), .val (.int x1), .val (.int x2), .val (.int x3), .val (.int x4), .val (.int x5), .val (.ref ad1), .val (.int ff), .val (.int tt), .unset, .val (.int (gg ff))] [(.int ff)]) _
            refine Go.of (fun _ k => XS.iconst X9.here hx rfl (hb hby at_136) k) ?_
            show Go p e below T9 (mkF m 137 #[.val (.int x0), .val (.int x1), .val (.int x2), .val (.int x3), .val (.int x4), .val (.int x5), .val (.ref ad1), .val (.int ff), .val (.int tt), .unset, .val (.int (gg ff))] [(.int (2 : Int32)), (.int ff)]) _
            refine Go.of (fun _ k => XS.iadd X9.here hx rfl (hb hby at_137) rfl k) ?_
            show Go p e below T9 (mkF m 138 #[.val (.int x0), .val (.int x1), .val (.int x2), .val (.int x3), .val (.int x4), .val (.int x5), .val (.ref ad1), .val (.int ff), .val (.int tt), .unset, .val (.int (gg ff))] [(.int (ff + (2 : Int32)))]) _
            refine Go.of (fun _ k => XS.istore X9.here hx rfl (hb hby at_138) rfl (l' := #[.val (.int x0), .val (.int x1), .val (.int x2), .val (.int x3), .val (.int x4), .val (.int x5), .val (.ref ad1), .val (.int ff), .val (.int tt), .val (.int (ff + (2 : Int32))), .val (.int (gg ff))]) rfl k) ?_
            show Go p e below T9 (mkF m 140 #[.val (.int x0), .val (.int x1), .val (.int x2), .val (.int x3), .val (.int x4), .val (.int x5), .val (.ref ad1), .val (.int ff), .val (.int tt), .val (.int (ff + (2 : Int32))), .val (.int (gg ff))] []) _
            refine Go.of (fun _ k => XS.goto X9.here hx rfl (pc0 := 140) (pc' := 147) rfl (hb hby at_140) (by decide) (by decide) k) ?_
            show Go p e below T9 (mkF m 147 #[.val (.int x0), .val (.int x1), .val (.int x2), .val (.int x3), .val (.int x4), .val (.int x5), .val (.ref ad1), .val (.int ff), .val (.int tt), .val (.int (ff + (2 : Int32))), .val (.int (gg ff))] []) _
            refine Go.of (fun _ k => XS.aload X9.here hx rfl (hb hby at_147) rfl rfl  k) ?_
            show Go p e below T9 (mkF m 149 #[.val (.int x0), .val (.int x1), .val (.int x2), .val (.int x3), .val (.int x4), .val (.int x5), .val (.ref ad1), .val (.int ff), .val (.int tt), .val (.int (ff + (2 : Int32))), .val (.int (gg ff))] [(.ref ad1)]) _
            refine Go.of (fun _ k => XS.iload X9.here hx rfl (hb hby at_149) rfl  k) ?_
            show Go p e below T9 (mkF m 151 #[.val (.int x0), .val (.int x1), .val (.int x2), .val (.int x3), .val (.int x4), .val (.int x5), .val (.ref ad1), .val (.int ff), .val (.int tt), .val (.int (ff + (2 : Int32))), .val (.int (gg ff))] [(.int ff), (.ref ad1)]) _
            refine Go.of (fun _ k => XS.iload X9.here hx rfl (hb hby at_151) rfl  k) ?_
            show Go p e below T9 (mkF m 153 #[.val (.int x0), .val (.int x1), .val (.int x2), .val (.int x3), .val (.int x4), .val (.int x5), .val (.ref ad1), .val (.int ff), .val (.int tt), .val (.int (ff + (2 : Int32))), .val (.int (gg ff))] [(.int tt), (.int ff), (.ref ad1)]) _
            obtain ⟨_, _, ⟨T15, L15, kq15, nq15⟩, -, X15, ⟨Lc15, hQ15, l15, y15, z15⟩, st15⟩ := Jvm.LawKit.callS X9 hx (y := (⟨"com/example/ballotwise/ballotwise/http/HeaderFields", "emptyLineEnd", "([BII)I"⟩ : MethodName)) hown (mvT hZ (hw _ (List.mem_of_getElem? (i := 5) rfl))) (mvT hZ (hw _ (List.mem_of_getElem? (i := 6) rfl))) (mvT hZ (hw _ (List.mem_of_getElem? (i := 7) rfl))) (mvT hZ (hw _ (List.mem_of_getElem? (i := 8) rfl))) (by decide) (backOf (W := 0) (rm2 l Z a0 hw [] ad1 ff tt cl gg h9 n0 Z0 A Sz Hat b0 b1 b2 b3) hZ (hw _ (List.mem_of_getElem? (i := 8) rfl)) (hw _ (List.mem_of_getElem? (i := 7) rfl)) (by decide) (by decide)) (g := (mkF m 153 #[.val (.int x0), .val (.int x1), .val (.int x2), .val (.int x3), .val (.int x4), .val (.int x5), .val (.ref ad1), .val (.int ff), .val (.int tt), .val (.int (ff + (2 : Int32))), .val (.int (gg ff))] [(.int tt), (.int ff), (.ref ad1)])) rfl (by rw [hml]; rfl) (argsL := [(.ref ad1), (.int ff), (.int tt)]) (rest := []) (lenOf own_pd1 rfl) rfl (by show 2 * 0 + _ ≤ _; exact Nat.le_of_eq rfl) (hb hby at_153) (fun _ _ => ⟨rfl, e9, (by decide : 1 + 0 ≤ _), (by decide : 4 + 0 ≤ _)⟩)
            dsimp only [Pt.U, Pt.locs, Pt.cells, Pt.slots] at X15 l15 y15 z15 st15 hQ15
            subst l15 y15 z15
            obtain ⟨rfl, Nq15, e15⟩ := hQ15
            have N15 := Fr.app N9 Nq15
            refine Go.of (fun _ k => st15 _ k) ?_
            show Go p e below T15 (mkF m 156 #[.val (.int x0), .val (.int x1), .val (.int x2), .val (.int x3), .val (.int x4), .val (.int x5), .val (.ref ad1), .val (.int ff), .val (.int tt), .val (.int (ff + (2 : Int32))), .val (.int (gg ff))] [(.int (fR gg ff tt))]) _
            refine Go.of (fun _ k => XS.iload X15.here hx rfl (hb hby at_156) rfl  k) ?_
            show Go p e below T15 (mkF m 158 #[.val (.int x0), .val (.int x1), .val (.int x2), .val (.int x3), .val (.int x4), .val (.int x5), .val (.ref ad1), .val (.int ff), .val (.int tt), .val (.int (ff + (2 : Int32))), .val (.int (gg ff))] [(.int (ff + (2 : Int32))), (.int (fR gg ff tt))]) _
            refine Go.of (fun _ k => XS.icmpNo X15.here hx rfl (hb hby at_158) rfl (teq (show (fR gg ff tt) = (ff + (2 : Int32)) from (by simp only [b5, b6] at *; simp [fR, *]))).2 k) ?_
            show Go p e below T15 (mkF m 161 #[.val (.int x0), .val (.int x1), .val (.int x2), .val (.int x3), .val (.int x4), .val (.int x5), .val (.ref ad1), .val (.int ff), .val (.int tt), .val (.int (ff + (2 : Int32))), .val (.int (gg ff))] []) _
            refine Go.of (fun _ k => XS.iconst X15.here hx rfl (hb hby at_161) k) ?_
            show Go p e below T15 (mkF m 162 #[.val (.int x0), .val (.int x1), .val (.int x2), .val (.int x3), .val (.int x4), .val (.int x5), .val (.ref ad1), .val (.int ff), .val (.int tt), .val (.int (ff + (2 : Int32))), .val (.int (gg ff))] [(.int (1 : Int32))]) _
            refine Go.of (fun _ k => XS.goto X15.here hx rfl (pc0 := 162) (pc' := 166) rfl (hb hby at_162) (by decide) (by decide) k) ?_
            show Go p e below T15 (mkF m 166 #[.val (.int x0), .val (.int x1), .val (.int x2), .val (.int x3), .val (.int x4), .val (.int x5), .val (.ref ad1), .val (.int ff), .val (.int tt), .val (.int (ff + (2 : Int32))), .val (.int (gg ff))] [(.int (1 : Int32))]) _
            refine Go.retN X15 hx (t := .boolean) hret hlk (by simp) (hb hby at_166) e15 (by decide) (by decide) ?_
            exact ⟨rfl, N15⟩
          · refine Go.of (fun _ k => XS.icmpYes X9.here hx rfl (pc0 := 131) (pc' := 143) rfl (hb hby at_131) rfl (feq hc131_4).2 (by decide) (by decide) k) ?_
            show Go p e below T9 (mkF m 143 #[.val (.int x0), .val (.int x1), .val (.int x2), .val (.int x3), .val (.int x4), .val (.int x5), .val (.ref ad1), .val (.int ff), .val (.int tt), .unset, .val (.int (gg ff))] []) _
            refine Go.of (fun _ k => XS.iload X9.here hx rfl (hb hby at_143) rfl  k) ?_
            show Go p e below T9 (mkF m 145 #[.val (.int x0), .val (.int x1), .val (.int x2), .val (.int x3), .val (.int x4), .val (.int x5), .val (.ref ad1), .val (.int ff), .val (.int tt), .unset, .val (.int (gg ff))] [(.int ff)]) _
            refine Go.of (fun _ k => XS.istore X9.here hx rfl (hb hby at_145) rfl (l' := #[.val (.int x0), .val (.int x1), .val (.int x2), .val (.int x3), .val (.int x4), .val (.int x5), .val (.ref ad1), .val (.int ff), .val (.int tt), .val (.int ff), .val (.int (gg ff))]) rfl k) ?_
            show Go p e below T9 (mkF m 147 #[.val (.int x0), .val (.int x1), .val (.int x2), .val (.int x3), .val (.int x4), .val (.int x5), .val (.ref ad1), .val (.int ff), .val (.int tt), .val (.int ff), .val (.int (gg ff))] []) _
            refine Go.of (fun _ k => XS.aload X9.here hx rfl (hb hby at_147) rfl rfl  k) ?_
            show Go p e below T9 (mkF m 149 #[.val (.int x0), .val (.int x1), .val (.int x2), .val (.int x3), .val (.int x4), .val (.int x5), .val (.ref ad1), .val (.int ff), .val (.int tt), .val (.int ff), .val (.int (gg ff))] [(.ref ad1)]) _
            refine Go.of (fun _ k => XS.iload X9.here hx rfl (hb hby at_149) rfl  k) ?_
            show Go p e below T9 (mkF m 151 #[.val (.int x0), .val (.int x1), .val (.int x2), .val (.int x3), .val (.int x4), .val (.int x5), .val (.ref ad1), .val (.int ff), .val (.int tt), .val (.int ff), .val (.int (gg ff))] [(.int ff), (.ref ad1)]) _
            refine Go.of (fun _ k => XS.iload X9.here hx rfl (hb hby at_151) rfl  k) ?_
            show Go p e below T9 (mkF m 153 #[.val (.int x0), .val (.int x1), .val (.int x2), .val (.int x3), .val (.int x4), .val (.int x5), .val (.ref ad1), .val (.int ff), .val (.int tt), .val (.int ff), .val (.int (gg ff))] [(.int tt), (.int ff), (.ref ad1)]) _
            obtain ⟨_, _, ⟨T16, L16, kq16, nq16⟩, -, X16, ⟨Lc16, hQ16, l16, y16, z16⟩, st16⟩ := Jvm.LawKit.callS X9 hx (y := (⟨"com/example/ballotwise/ballotwise/http/HeaderFields", "emptyLineEnd", "([BII)I"⟩ : MethodName)) hown (mvT hZ (hw _ (List.mem_of_getElem? (i := 5) rfl))) (mvT hZ (hw _ (List.mem_of_getElem? (i := 6) rfl))) (mvT hZ (hw _ (List.mem_of_getElem? (i := 7) rfl))) (mvT hZ (hw _ (List.mem_of_getElem? (i := 8) rfl))) (by decide) (backOf (W := 0) (rm2 l Z a0 hw [] ad1 ff tt cl gg h9 n0 Z0 A Sz Hat b0 b1 b2 b3) hZ (hw _ (List.mem_of_getElem? (i := 8) rfl)) (hw _ (List.mem_of_getElem? (i := 7) rfl)) (by decide) (by decide)) (g := (mkF m 153 #[.val (.int x0), .val (.int x1), .val (.int x2), .val (.int x3), .val (.int x4), .val (.int x5), .val (.ref ad1), .val (.int ff), .val (.int tt), .val (.int ff), .val (.int (gg ff))] [(.int tt), (.int ff), (.ref ad1)])) rfl (by rw [hml]; rfl) (argsL := [(.ref ad1), (.int ff), (.int tt)]) (rest := []) (lenOf own_pd1 rfl) rfl (by show 2 * 0 + _ ≤ _; exact Nat.le_of_eq rfl) (hb hby at_153) (fun _ _ => ⟨rfl, e9, (by decide : 1 + 0 ≤ _), (by decide : 4 + 0 ≤ _)⟩)
            dsimp only [Pt.U, Pt.locs, Pt.cells, Pt.slots] at X16 l16 y16 z16 st16 hQ16
            subst l16 y16 z16
            obtain ⟨rfl, Nq16, e16⟩ := hQ16
            have N16 := Fr.app N9 Nq16
            refine Go.of (fun _ k => st16 _ k) ?_
            show Go p e below T16 (mkF m 156 #[.val (.int x0), .val (.int x1), .val (.int x2), .val (.int x3), .val (.int x4), .val (.int x5), .val (.ref ad1), .val (.int ff), .val (.int tt), .val (.int ff), .val (.int (gg ff))] [(.int (fR gg ff tt))]) _
            refine Go.of (fun _ k => XS.iload X16.here hx rfl (hb hby at_156) rfl  k) ?_
            show Go p e below T16 (mkF m 158 #[.val (.int x0), .val (.int x1), .val (.int x2), .val (.int x3), .val (.int x4), .val (.int x5), .val (.ref ad1), .val (.int ff), .val (.int tt), .val (.int ff), .val (.int (gg ff))] [(.int ff), (.int (fR gg ff tt))]) _
            refine Go.of (fun _ k => XS.icmpNo X16.here hx rfl (hb hby at_158) rfl (teq (show (fR gg ff tt) = ff from (by simp only [b5, b6] at *; simp [fR, *]))).2 k) ?_
            show Go p e below T16 (mkF m 161 #[.val (.int x0), .val (.int x1), .val (.int x2), .val (.int x3), .val (.int x4), .val (.int x5), .val (.ref ad1), .val (.int ff), .val (.int tt), .val (.int ff), .val (.int (gg ff))] []) _
            refine Go.of (fun _ k => XS.iconst X16.here hx rfl (hb hby at_161) k) ?_
            show Go p e below T16 (mkF m 162 #[.val (.int x0), .val (.int x1), .val (.int x2), .val (.int x3), .val (.int x4), .val (.int x5), .val (.ref ad1), .val (.int ff), .val (.int tt), .val (.int ff), .val (.int (gg ff))] [(.int (1 : Int32))]) _
            refine Go.of (fun _ k => XS.goto X16.here hx rfl (pc0 := 162) (pc' := 166) rfl (hb hby at_162) (by decide) (by decide) k) ?_
            show Go p e below T16 (mkF m 166 #[.val (.int x0), .val (.int x1), .val (.int x2), .val (.int x3), .val (.int x4), .val (.int x5), .val (.ref ad1), .val (.int ff), .val (.int tt), .val (.int ff), .val (.int (gg ff))] [(.int (1 : Int32))]) _
            refine Go.retN X16 hx (t := .boolean) hret hlk (by simp) (hb hby at_166) e16 (by decide) (by decide) ?_
            exact ⟨rfl, N16⟩
      · refine Go.of (fun _ k => XS.icmpNo X9.here hx rfl (hb hby at_97) rfl (feq hc97_2).1 k) ?_
        show Go p e below T9 (mkF m 100 #[.val (.int x0), .val (.int x1), .val (.int x2), .val (.int x3), .val (.int x4), .val (.int x5), .val (.ref ad1), .val (.int ff), .val (.int tt), .unset, .val (.int (gg ff))] []) _
        refine Go.of (fun _ k => XS.iload X9.here hx rfl (hb hby at_100) rfl  k) ?_
        show Go p e below T9 (mkF m 102 #[.val (.int x0), .val (.int x1), .val (.int x2), .val (.int x3), .val (.int x4), .val (.int x5), .val (.ref ad1), .val (.int ff), .val (.int tt), .unset, .val (.int (gg ff))] [(.int ff)]) _
        refine Go.of (fun _ k => XS.istore X9.here hx rfl (hb hby at_102) rfl (l' := #[.val (.int x0), .val (.int x1), .val (.int x2), .val (.int x3), .val (.int x4), .val (.int x5), .val (.ref ad1), .val (.int ff), .val (.int tt), .val (.int ff), .val (.int (gg ff))]) rfl k) ?_
        show Go p e below T9 (mkF m 104 #[.val (.int x0), .val (.int x1), .val (.int x2), .val (.int x3), .val (.int x4), .val (.int x5), .val (.ref ad1), .val (.int ff), .val (.int tt), .val (.int ff), .val (.int (gg ff))] []) _
        refine Go.of (fun _ k => XS.goto X9.here hx rfl (pc0 := 104) (pc' := 147) rfl (hb hby at_104) (by decide) (by decide) k) ?_
        show Go p e below T9 (mkF m 147 #[.val (.int x0), .val (.int x1), .val (.int x2), .val (.int x3), .val (.int x4), .val (.int x5), .val (.ref ad1), .val (.int ff), .val (.int tt), .val (.int ff), .val (.int (gg ff))] []) _
        refine Go.of (fun _ k => XS.aload X9.here hx rfl (hb hby at_147) rfl rfl  k) ?_
        show Go p e below T9 (mkF m 149 #[.val (.int x0), .val (.int x1), .val (.int x2), .val (.int x3), .val (.int x4), .val (.int x5), .val (.ref ad1), .val (.int ff), .val (.int tt), .val (.int ff), .val (.int (gg ff))] [(.ref ad1)]) _
        refine Go.of (fun _ k => XS.iload X9.here hx rfl (hb hby at_149) rfl  k) ?_
        show Go p e below T9 (mkF m 151 #[.val (.int x0), .val (.int x1), .val (.int x2), .val (.int x3), .val (.int x4), .val (.int x5), .val (.ref ad1), .val (.int ff), .val (.int tt), .val (.int ff), .val (.int (gg ff))] [(.int ff), (.ref ad1)]) _
        refine Go.of (fun _ k => XS.iload X9.here hx rfl (hb hby at_151) rfl  k) ?_
        show Go p e below T9 (mkF m 153 #[.val (.int x0), .val (.int x1), .val (.int x2), .val (.int x3), .val (.int x4), .val (.int x5), .val (.ref ad1), .val (.int ff), .val (.int tt), .val (.int ff), .val (.int (gg ff))] [(.int tt), (.int ff), (.ref ad1)]) _
        obtain ⟨_, _, ⟨T17, L17, kq17, nq17⟩, -, X17, ⟨Lc17, hQ17, l17, y17, z17⟩, st17⟩ := Jvm.LawKit.callS X9 hx (y := (⟨"com/example/ballotwise/ballotwise/http/HeaderFields", "emptyLineEnd", "([BII)I"⟩ : MethodName)) hown (mvT hZ (hw _ (List.mem_of_getElem? (i := 5) rfl))) (mvT hZ (hw _ (List.mem_of_getElem? (i := 6) rfl))) (mvT hZ (hw _ (List.mem_of_getElem? (i := 7) rfl))) (mvT hZ (hw _ (List.mem_of_getElem? (i := 8) rfl))) (by decide) (backOf (W := 0) (rm2 l Z a0 hw [] ad1 ff tt cl gg h9 n0 Z0 A Sz Hat b0 b1 b2 b3) hZ (hw _ (List.mem_of_getElem? (i := 8) rfl)) (hw _ (List.mem_of_getElem? (i := 7) rfl)) (by decide) (by decide)) (g := (mkF m 153 #[.val (.int x0), .val (.int x1), .val (.int x2), .val (.int x3), .val (.int x4), .val (.int x5), .val (.ref ad1), .val (.int ff), .val (.int tt), .val (.int ff), .val (.int (gg ff))] [(.int tt), (.int ff), (.ref ad1)])) rfl (by rw [hml]; rfl) (argsL := [(.ref ad1), (.int ff), (.int tt)]) (rest := []) (lenOf own_pd1 rfl) rfl (by show 2 * 0 + _ ≤ _; exact Nat.le_of_eq rfl) (hb hby at_153) (fun _ _ => ⟨rfl, e9, (by decide : 1 + 0 ≤ _), (by decide : 4 + 0 ≤ _)⟩)
        dsimp only [Pt.U, Pt.locs, Pt.cells, Pt.slots] at X17 l17 y17 z17 st17 hQ17
        subst l17 y17 z17
        obtain ⟨rfl, Nq17, e17⟩ := hQ17
        have N17 := Fr.app N9 Nq17
        refine Go.of (fun _ k => st17 _ k) ?_
        show Go p e below T17 (mkF m 156 #[.val (.int x0), .val (.int x1), .val (.int x2), .val (.int x3), .val (.int x4), .val (.int x5), .val (.ref ad1), .val (.int ff), .val (.int tt), .val (.int ff), .val (.int (gg ff))] [(.int (fR gg ff tt))]) _
        refine Go.of (fun _ k => XS.iload X17.here hx rfl (hb hby at_156) rfl  k) ?_
        show Go p e below T17 (mkF m 158 #[.val (.int x0), .val (.int x1), .val (.int x2), .val (.int x3), .val (.int x4), .val (.int x5), .val (.ref ad1), .val (.int ff), .val (.int tt), .val (.int ff), .val (.int (gg ff))] [(.int ff), (.int (fR gg ff tt))]) _
        refine Go.of (fun _ k => XS.icmpNo X17.here hx rfl (hb hby at_158) rfl (teq (show (fR gg ff tt) = ff from (by simp only [b5, b6] at *; simp [fR, *]))).2 k) ?_
        show Go p e below T17 (mkF m 161 #[.val (.int x0), .val (.int x1), .val (.int x2), .val (.int x3), .val (.int x4), .val (.int x5), .val (.ref ad1), .val (.int ff), .val (.int tt), .val (.int ff), .val (.int (gg ff))] []) _
        refine Go.of (fun _ k => XS.iconst X17.here hx rfl (hb hby at_161) k) ?_
        show Go p e below T17 (mkF m 162 #[.val (.int x0), .val (.int x1), .val (.int x2), .val (.int x3), .val (.int x4), .val (.int x5), .val (.ref ad1), .val (.int ff), .val (.int tt), .val (.int ff), .val (.int (gg ff))] [(.int (1 : Int32))]) _
        refine Go.of (fun _ k => XS.goto X17.here hx rfl (pc0 := 162) (pc' := 166) rfl (hb hby at_162) (by decide) (by decide) k) ?_
        show Go p e below T17 (mkF m 166 #[.val (.int x0), .val (.int x1), .val (.int x2), .val (.int x3), .val (.int x4), .val (.int x5), .val (.ref ad1), .val (.int ff), .val (.int tt), .val (.int ff), .val (.int (gg ff))] [(.int (1 : Int32))]) _
        refine Go.retN X17 hx (t := .boolean) hret hlk (by simp) (hb hby at_166) e17 (by decide) (by decide) ?_
        exact ⟨rfl, N17⟩
set_option maxRecDepth 65536 in
set_option maxHeartbeats 40000000 in
theorem comes_1 {Post : Tables → Env → Array Value → State → Outcome → State → Prop} (hpost : ∀ tb e args s v u, (limb_1_1.after args s (.returned v) u = true ∧ limb_1_2.after args s (.returned v) u = true ∧ True) → FrameEnd s (.returned v) u (Jvm.fieldLocs frame_1_writes args s ++ Jvm.arrayLocs frame_1_arrays args s ++ Jvm.staticLocs frame_1_statics s) 16 128 → Post tb e args s (.returned v) u) :
    ArmFor flags0 classFile x code maxLocals ret World_1 tables_1 room_1 Calls_1 rest_1 Pre_1 Post := by
  intro l hfl _ _ p e ha hc hk s m args below hf hA hF happ hP
  obtain ⟨hcalls, hrest, hpre⟩ := hP
  obtain ⟨-, -, -, hnamed, -, -, -, hat⟩ := (Spec.applies_iff hf).mp happ
  obtain ⟨hg, hn⟩ := and_e (Cond.before_iff.mp (show (Jvm.Cond.and given_1 narrow_1).before args s = true from hpre))
  obtain ⟨g1, g2⟩ := and_e hg
  obtain ⟨g3, g4⟩ := and_e g2
  obtain ⟨g5, g6⟩ := and_e g4
  obtain ⟨g7, g8⟩ := and_e g6
  obtain ⟨g9, g10⟩ := and_e g8
  obtain ⟨g11, g12⟩ := and_e g10
  obtain ⟨w0, w1, w2, w3, w4, w5, rfl⟩ : ∃ w0 w1 w2 w3 w4 w5 : Value, args = #[w0, w1, w2, w3, w4, w5] := by
    have hs : args.size = 6 := by simpa [Cond.value, given_1] using g1
    obtain ⟨L⟩ := args
    match L, hs with
    | [w0, w1, w2, w3, w4, w5], _ => exact ⟨w0, w1, w2, w3, w4, w5, rfl⟩
  have hw := fun d (hd : d ∈ tables_1) => atoms_spec (ws := Jvm.Cond.code x code maxLocals ret :: tables_1) hat d (List.mem_cons_of_mem _ hd)
  have hfit : Fit s := fun {y c} hc i hi => by
    obtain ⟨ha, rfl⟩ := Array.getElem?_eq_some_iff.mp hc
    have q := List.all_eq_true.mp ((Array.all_eq_true_iff_forall_mem.mp hF) _ (Array.getElem_mem ha)) i (List.mem_range.mpr hi)
    simpa [Array.getElem?_eq_getElem hi] using q
  obtain ⟨i0, ei0⟩ := is_v g3
  obtain rfl : w0 = (.int i0) := Option.some.inj ei0
  obtain ⟨i1, ei1⟩ := is_v g5
  obtain rfl : w1 = (.int i1) := Option.some.inj ei1
  obtain ⟨i2, ei2⟩ := is_v g7
  obtain rfl : w2 = (.int i2) := Option.some.inj ei2
  obtain ⟨i3, ei3⟩ := is_v g9
  obtain rfl : w3 = (.int i3) := Option.some.inj ei3
  obtain ⟨i4, ei4⟩ := is_v g11
  obtain rfl : w4 = (.int i4) := Option.some.inj ei4
  obtain ⟨i5, ei5⟩ := is_v g12
  obtain rfl : w5 = (.int i5) := Option.some.inj ei5
  obtain ⟨n, o, h1, h2, h3, _, L, rfl, ⟨rfl, N⟩, hq⟩ := rm0 l s _ hw tables_1 i0 i1 i2 i3 i4 i5 s.heap s.heap.size (Nat.le_refl _)  p e ha hc hk s m _ below hf ((Spec.applies_iff_loose hf).mp happ).1 ⟨rfl, State.Warmed39.refl s, rfl⟩ trivial
  refine ⟨n, _, h1, h2, h3, hpost _ _ _ _ _ _ ⟨Cond.after_iff.mpr rfl, Cond.after_iff.mpr (eq_i res_at (Term.int_eval (1)) rfl), trivial⟩ ⟨hq.1, hq.2.1, (hq.2.2.sift fun y hy => Or.inr (N y hy)).mono (by decide) (by decide)⟩⟩
theorem main_1_1 : Claimed_1_1 := comes_1 fun _ _ _ _ _ _ h hF => ⟨h.1, hF⟩
theorem main_1_2 : Claimed_1_2 := comes_1 fun _ _ _ _ _ _ h hF => ⟨h.2.1, hF⟩
end Jvm.Pilot.@@N@@
namespace Jvm.Pilot.@@N@@
open Jvm Jvm.ClassFile Sem Op Lib Jvm.Free Jvm.Stand Jvm.Pilot.@@N@@.Jvm.D
/-! MADE BY PROGRAM (witnessworld.py) out of the Statement's table words and the real class files: 9 classes; the members and pool entries that the words name. The judged class is class 1, her method 2. -/
namespace start1
open Jvm.ClassFile
def u (s : String) : CpInfo := .utf8 (stringToUtf16 s)
/-- a pool by its gaps: so many unusable entries, then the entry; so many at the end -/
def gap : Nat → List CpInfo → List CpInfo
  | 0, r => r
  | n + 1, r => .unusable :: gap n r
def poolList (es : List (Nat × CpInfo)) (last : Nat) : List CpInfo := es.foldr (fun e r => gap e.1 (e.2 :: r)) (gap last [])
def pool (es : List (Nat × CpInfo)) (last : Nat) : Array CpInfo := ⟨poolList es last⟩
def fileOf (pool : Array CpInfo) (this : Nat) (attrs : Array Attribute := #[]) (ms : Array MethodInfo := #[]) (fl : Nat := 33) (sup : Nat := 0) (ifs : Array Nat := #[]) (fds : Array FieldInfo := #[]) : ClassFile where
  minorVersion := 0
  majorVersion := 65
  constantPool := pool
  accessFlags := fl
  thisClass := this
  superClass := sup
  interfaces := ifs
  fields := fds
  methods := ms
  attributes := attrs
def plain (name : String) (sup : Option ClassId) : Class where
  name := name
  kind := .ordinary
  loader := none
  accessFlags := 33
  super := sup
  interfaces := #[]
  cf := none
  fields := #[]
  methods := #[]
  instanceTypes := #[]
  staticTypes := #[]
  resolved := #[]
  callSites := []
  init := .initialized
  statics := none
  mirror := none

def pool0 : Array CpInfo := pool [(5, u "<init>"), (0, u "()V"), (1, .class_ 10), (1, u "java/lang/Object")] 113

def k0m0 : Method := { name := "<init>", desc := "()V", sig := { parameters := [], returnType := none }, accessFlags := 1, code := none }
/-- java/lang/Object -/
def k0 : Class := { plain "java/lang/Object" none with
  accessFlags := 33
  interfaces := #[]
  cf := some (fileOf pool0 8 #[] #[{ accessFlags := 1, nameIndex := 5, descriptorIndex := 6, attributes := #[] }] 33 0 #[] #[])
  fields := #[]
  methods := #[k0m0]
  instanceTypes := #[]
  staticTypes := #[]
  resolved := Array.replicate 124 none
  statics := none }

def pool1 : Array CpInfo := pool [(2, .class_ 4), (1, u "java/lang/Object"), (0, u "<init>"), (0, u "()V"), (0, .methodref 8 9), (0, .class_ 10), (0, .nameAndType 11 12), (0, u "com/example/ballotwise/ballotwise/http/HeaderFieldsEmptyLineEndPinLaw"), (0, u "draw"), (0, u "(I)B"), (0, .methodref 14 15), (0, .class_ 16), (0, .nameAndType 17 18), (0, u "com/example/ballotwise/ballotwise/http/HeaderFields"), (0, u "emptyLineEnd"), (0, u "([BII)I"), (3, u "law"), (0, u "(IIIIII)Z")] 4

def k1m0 : Method := { name := "<init>", desc := "()V", sig := { parameters := [], returnType := none }, accessFlags := 1, code := none }
def k1c1 : Code := { maxStack := 2, maxLocals := 2, code := method_2_code, exceptionTable := #[], attributes := #[] }
def k1m1 : Method := { name := "draw", desc := "(I)B", sig := { parameters := [.int], returnType := some .byte }, accessFlags := 10, code := some k1c1 }
def k1c2 : Code := { maxStack := 4, maxLocals := 11, code := code, exceptionTable := #[], attributes := #[] }
def k1m2 : Method := { name := "law", desc := "(IIIIII)Z", sig := { parameters := [.int, .int, .int, .int, .int, .int], returnType := some .boolean }, accessFlags := 9, code := some k1c2 }
/-- com/example/ballotwise/ballotwise/http/HeaderFieldsEmptyLineEndPinLaw -/
def k1 : Class := { plain "com/example/ballotwise/ballotwise/http/HeaderFieldsEmptyLineEndPinLaw" (some 0) with
  accessFlags := 49
  interfaces := #[]
  cf := some (fileOf pool1 8 #[] #[{ accessFlags := 1, nameIndex := 5, descriptorIndex := 6, attributes := #[] }, { accessFlags := 10, nameIndex := 11, descriptorIndex := 12, attributes := #[] }, { accessFlags := 9, nameIndex := 22, descriptorIndex := 23, attributes := #[] }] 49 2 #[] #[])
  fields := #[]
  methods := #[k1m0, k1m1, k1m2]
  instanceTypes := #[]
  staticTypes := #[]
  resolved := Array.replicate 28 none
  statics := none }

def pool2 : Array CpInfo := pool [(2, .class_ 4), (1, u "java/lang/Object"), (0, u "<init>"), (0, u "()V"), (11, .class_ 20), (1, u "com/example/ballotwise/ballotwise/http/HeaderFields"), (0, u "TOKEN"), (0, u "[Z"), (52, u "LISTS"), (0, u "Ljava/util/Set;"), (19, .class_ 97), (0, u "com/example/ballotwise/ballotwise/http/HeaderFields$Head"), (58, u "([BII)I"), (0, u "emptyLineEnd")] 44

def k2m0 : Method := { name := "<init>", desc := "()V", sig := { parameters := [], returnType := none }, accessFlags := 2, code := none }
def k2c1 : Code := { maxStack := 3, maxLocals := 4, code := prog_30_method_6_code, exceptionTable := #[], attributes := #[] }
def k2m1 : Method := { name := "emptyLineEnd", desc := "([BII)I", sig := { parameters := [(.array .byte), .int, .int], returnType := some .int }, accessFlags := 8, code := some k2c1 }
/-- com/example/ballotwise/ballotwise/http/HeaderFields -/
def k2 : Class := { plain "com/example/ballotwise/ballotwise/http/HeaderFields" (some 0) with
  accessFlags := 48
  interfaces := #[]
  cf := some (fileOf pool2 18 #[.nestMembers #[96]] #[{ accessFlags := 2, nameIndex := 5, descriptorIndex := 6, attributes := #[] }, { accessFlags := 8, nameIndex := 157, descriptorIndex := 156, attributes := #[] }] 48 2 #[] #[{ accessFlags := 26, nameIndex := 21, descriptorIndex := 22, attributes := #[] }, { accessFlags := 26, nameIndex := 75, descriptorIndex := 76, attributes := #[] }])
  fields := #[{ name := "TOKEN", type := (.array .boolean), accessFlags := 26, slot := 0, constantValue := 0 }, { name := "LISTS", type := (.object "java/util/Set"), accessFlags := 26, slot := 1, constantValue := 0 }]
  methods := #[k2m0, k2m1]
  instanceTypes := #[]
  staticTypes := #[(.array .boolean), (.object "java/util/Set")]
  resolved := Array.replicate 202 none
  statics := none }

def pool3 : Array CpInfo := pool [(1, u "java/lang/Cloneable"), (0, .class_ 1), (0, u "java/lang/Object"), (0, .class_ 3)] 3

/-- java/lang/Cloneable -/
def k3 : Class := { plain "java/lang/Cloneable" (some 0) with
  accessFlags := 1537
  interfaces := #[]
  cf := some (fileOf pool3 2 #[] #[] 1537 4 #[] #[])
  fields := #[]
  methods := #[]
  instanceTypes := #[]
  staticTypes := #[]
  resolved := Array.replicate 8 none
  statics := none }

def pool4 : Array CpInfo := pool [(1, u "java/io/Serializable"), (0, .class_ 1), (0, u "java/lang/Object"), (0, .class_ 3)] 3

/-- java/io/Serializable -/
def k4 : Class := { plain "java/io/Serializable" (some 0) with
  accessFlags := 1537
  interfaces := #[]
  cf := some (fileOf pool4 2 #[] #[] 1537 4 #[] #[])
  fields := #[]
  methods := #[]
  instanceTypes := #[]
  staticTypes := #[]
  resolved := Array.replicate 8 none
  statics := none }

/-- the primitive byte -/
def k5 : Class := { plain "byte" none with kind := .primitive 'B', accessFlags := 0x411 }
/-- [B -/
def k6 : Class := { plain "[B" (some 0) with kind := .array 5 .byte, interfaces := #[3, 4], accessFlags := 1041 }

/-- the primitive int -/
def k7 : Class := { plain "int" none with kind := .primitive 'I', accessFlags := 0x411 }
/-- [I -/
def k8 : Class := { plain "[I" (some 0) with kind := .array 7 .int, interfaces := #[3, 4], accessFlags := 1041 }

def heap : Heap := #[]
def classes : Array Class := #[k0, k1, k2, k3, k4, k5, k6, k7, k8]
def interned : List (Array UInt16 × Addr) := []
def slotsUsed : Nat := 0
def theMethod : MethodId := ⟨1, 2⟩
def args0 : Array Value := #[.int 5, .int 7, .int 9, .int 1, .int 2, .int 3]
def aboutOver (below : List Frame) : State where
  vm := { classes := classes, interned := interned.toArray }
  heap := heap
  slotsUsed := slotsUsed
  threads := #[{ frames := .invoking theMethod args0 :: below }]
def below0 : List Frame := [.native { method := ⟨0, 0⟩, args := #[] }]
def about1 : State := aboutOver below0
def p0 : Program := .bare "" "" ""
def e0 : Env := launch0.env 0 0 0
theorem w_frames : about1.frames = Frame.invoking theMethod args0 :: below0 := rfl
set_option maxRecDepth 65536 in
theorem w_args : argsFit about1.vm theMethod args0 = true := by decide +kernel
set_option maxRecDepth 65536 in
theorem w_heap : heapFits about1 = true := by decide +kernel
set_option maxRecDepth 65536 in
theorem w_runnable : about1.curStatus? = some .runnable := by decide +kernel
set_option maxRecDepth 65536 in
theorem w_alone : about1.alone = true := by decide +kernel
set_option maxRecDepth 65536 in
theorem w_named : about1.methodNamed? x = some theMethod := by decide +kernel
set_option maxRecDepth 65536 in
theorem w_hears : about1.hears theMethod below0 = true := by decide +kernel
set_option maxRecDepth 65536 in
theorem w_ripe : about1.ripe theMethod args0 below0 = true := by decide +kernel
theorem w_running : about1.status = .running := rfl
set_option maxRecDepth 65536 in
theorem w_room : about1.hasRoom e0.platform room_1 = true :=
  launch0.hasRoom_least _ room_1 (by decide +kernel) (by decide +kernel) (by decide +kernel) (by decide +kernel) (by decide +kernel) (by decide +kernel)
theorem allAtoms_all (ts : List Jvm.Cond) (a : Array Jvm.Value) (st : Jvm.State) : (allAtoms ts).before a st = ts.all (fun c => c.before a st) := by
  induction ts with
  | nil => rfl
  | cons c t ih =>
    show (Jvm.Cond.and c (allAtoms t)).before a st = _
    rw [Jvm.Cond.before_and, ih, List.all_cons]
def words1 : List Jvm.Cond := Jvm.Cond.code x code maxLocals ret :: tables_1
/-- a 'code' word, met by the world's own term for the bytes: nothing is compared byte by byte -/
theorem code_word {y : MethodName} {bytes : ByteArray} {mx : Nat} {rt : Option FieldType} {a : Array Value} {s : State} {m : MethodId} {meth : Method} {c : Code} (h1 : s.methodNamed? y = some m) (h2 : s.vm.method? m = some meth) (h3 : meth.code = some c) (h4 : c.code = bytes)
    (h5 : (c.maxLocals == mx && c.exceptionTable.isEmpty && decide (c.maxStack ≤ mostOperands) && decide (meth.sig.returnType = rt) && !meth.locks && decide (parseMethodDescriptor y.desc = some meth.sig)) = true) : (Jvm.Cond.code y bytes mx rt).before a s = true := by
  simp only [Bool.and_eq_true, beq_iff_eq, Bool.not_eq_true', decide_eq_true_eq] at h5
  obtain ⟨⟨⟨⟨⟨g1, g2⟩, g3⟩, g4⟩, g5⟩, g6⟩ := h5
  simp [Cond.before, Cond.holds, Cond.value, h1, h2, h3, h4, g1, g2, g3, g4, g5, g6]
def isCode : Jvm.Cond → Bool
  | .code _ _ _ _ => true
  | _ => false
theorem all_split {L : List Jvm.Cond} {P : Jvm.Cond → Bool} (h1 : L.all (fun c => isCode c || P c) = true) (h2 : ∀ c ∈ L.filter isCode, P c = true) : L.all P = true := by
  refine List.all_eq_true.mpr fun c hc => ?_
  have h := List.all_eq_true.mp h1 c hc
  rcases Bool.eq_false_or_eq_true (isCode c) with hi | hi
  · exact h2 c (List.mem_filter.mpr ⟨hc, hi⟩)
  · simpa [hi] using h
set_option maxRecDepth 65536 in
theorem w_c0 : (Jvm.Cond.code x code maxLocals ret).before args0 about1 = true := code_word (m := ⟨1, 2⟩) (meth := k1m2) (c := k1c2) (by decide +kernel) rfl rfl rfl (by decide +kernel)
set_option maxRecDepth 65536 in
theorem w_c1 : (Jvm.Cond.code ({ cls := "com/example/ballotwise/ballotwise/http/HeaderFieldsEmptyLineEndPinLaw", name := "draw", desc := "(I)B" } : Jvm.MethodName) method_2_code (2 : Nat) (Option.some Jvm.ClassFile.FieldType.byte)).before args0 about1 = true := code_word (m := ⟨1, 1⟩) (meth := k1m1) (c := k1c1) (by decide +kernel) rfl rfl rfl (by decide +kernel)
set_option maxRecDepth 65536 in
theorem w_c2 : (Jvm.Cond.code ({ cls := "com/example/ballotwise/ballotwise/http/HeaderFields", name := "emptyLineEnd", desc := "([BII)I" } : Jvm.MethodName) prog_30_method_6_code (4 : Nat) (Option.some Jvm.ClassFile.FieldType.int)).before args0 about1 = true := code_word (m := ⟨2, 1⟩) (meth := k2m1) (c := k2c1) (by decide +kernel) rfl rfl rfl (by decide +kernel)
def codes1 : List Jvm.Cond := [Jvm.Cond.code x code maxLocals ret, Jvm.Cond.code ({ cls := "com/example/ballotwise/ballotwise/http/HeaderFieldsEmptyLineEndPinLaw", name := "draw", desc := "(I)B" } : Jvm.MethodName) method_2_code (2 : Nat) (Option.some Jvm.ClassFile.FieldType.byte), Jvm.Cond.code ({ cls := "com/example/ballotwise/ballotwise/http/HeaderFields", name := "emptyLineEnd", desc := "([BII)I" } : Jvm.MethodName) prog_30_method_6_code (4 : Nat) (Option.some Jvm.ClassFile.FieldType.int)]
set_option maxRecDepth 65536 in
theorem codes_eq : words1.filter isCode = codes1 := rfl
theorem w_codes : ∀ c ∈ words1.filter isCode, c.before args0 about1 = true := by
  rw [codes_eq]
  intro c hc
  simp only [codes1, List.mem_cons, List.not_mem_nil, or_false] at hc
  rcases hc with rfl | rfl | rfl
  · exact w_c0
  · exact w_c1
  · exact w_c2
set_option maxRecDepth 65536 in
theorem w_t1 : words1.all (fun c => isCode c || c.before args0 about1) = true := by decide +kernel
theorem w_tables : (allAtoms (Jvm.Cond.code x code maxLocals ret :: tables_1)).before args0 about1 = true := by
  rw [allAtoms_all]
  show words1.all (fun c => c.before args0 about1) = true
  refine all_split ?_ w_codes
  rw [w_t1]
set_option maxRecDepth 65536 in
theorem w_case : (Jvm.Cond.and given_1 narrow_1).before args0 about1 = true := by decide +kernel
theorem w_applies : (headSpec (Jvm.Cond.code x code maxLocals ret :: tables_1) room_1).applies x e0.platform about1 = true :=
  (Spec.applies_iff w_frames).mpr ⟨w_running, w_runnable, w_alone, w_named, w_hears, w_ripe, w_room, w_tables⟩
theorem atStart : AtStart classFile x code maxLocals ret World_1 tables_1 room_1 Calls_1 rest_1 Pre_1 launch0 p0 e0 about1 theMethod args0 below0 :=
  ⟨lists_1, trivial, launch0.admits_env _ _ _, launch0.least_env, fairChoices_fair.cas, fairChoices_fair.clock, w_frames, w_args, w_heap, w_applies, trivial, trivial, w_case⟩
end start1
theorem witness_1 : WitnessClaimed_1 := ⟨start1.p0, start1.e0, start1.about1, start1.theMethod, start1.args0, start1.below0, start1.atStart⟩
end Jvm.Pilot.@@N@@
