import JvmDerived
import JvmDerived.Pilot.@@N@@Statement
import JvmDerived.Pilot.@@N@@Code
set_option linter.unusedVariables false
set_option linter.unusedSimpArgs false
@@BLOCK:NumsL.lean.txt@@
namespace Jvm.Pilot.@@N@@
open Jvm Jvm.ClassFile Sem Op Lib Jvm.Free Jvm.Stand Jvm.LawKit Jvm.RoadKit Bundle Jvm.Pilot.@@N@@.Jvm.D
section own_kit
variable {p : Program} {l : Launch} {e : Env} {R : Room} {s : State} {m : MethodId} {args : Array Value} {below : List Frame} {meth : Method} {c : Code} {T T' : State} {locs : List Loc} {cells slots : Nat}
/-- from the frame g over the state T the run comes to an end of which K speaks -/
def Go (p : Program) (e : Env) (below : List Frame) (T : State) (g : JFrame) (K : Outcome → State → Prop) : Prop :=
  ∃ s₂ o, Steps p.tables e below (T.setTop g) s₂ ∧ s₂.status = .running ∧ Ended s₂ below o ∧ K o s₂
def KQ (s : State) (Q : Option Value → Heap → List Loc → Prop) (k n : Nat) (o : Outcome) (U : State) : Prop :=
  ∃ v L, o = .returned v ∧ Q v U.heap L ∧ FrameEnd s o U L k n
theorem Go.of {g g' : JFrame} {K : Outcome → State → Prop} (h : ∀ t, Steps p.tables e below (T'.setTop g') t → Steps p.tables e below (T.setTop g) t) (k : Go p e below T' g' K) : Go p e below T g K := by
  obtain ⟨s₂, o, h1, h2⟩ := k
  exact ⟨s₂, o, h _ h1, h2⟩
theorem Go.cast {g g' : JFrame} {K : Outcome → State → Prop} (q : g = g') (k : Go p e below T g' K) : Go p e below T g K := q ▸ k
theorem Go.ret0 (X : Stand p l e R s m args below meth c T locs cells slots) (hx : p.tables.exec = Jvm.exec) (hret : meth.sig.returnType = none) (hlk : meth.locks = false) {pc : Nat} {Ls : Array Slot} {Q : Option Value → Heap → List Loc → Prop} {k n : Nat} {h : Heap}
    (hd : decode c.code pc = .ok (.return_, 1)) (eT : T.heap = h) (hk : cells ≤ k) (hn : slots ≤ n) (hq : Q none h locs) : Go p e below T (mkF m pc Ls []) (KQ s Q k n) := by
  obtain ⟨fs, hr, hrun, hended, hW, hsame⟩ := X.leave (v := none) (fun _ => rfl) hlk
  exact ⟨_, _, X.returnOut hx hret hd hr, hrun, hended, _, _, rfl, by show Q none T.heap _; rw [eT]; exact hq, ⟨_, rfl⟩, hW, hsame.mono hk hn⟩
theorem Go.retV (X : Stand p l e R s m args below meth c T locs cells slots) (hx : p.tables.exec = Jvm.exec) {t : FieldType} {w : Value} {i : Instr} {rest : List Value} (hret : meth.sig.returnType = some t) (hlk : meth.locks = false) {pc : Nat} {Ls : Array Slot} {Q : Option Value → Heap → List Loc → Prop} {k n : Nat} {h : Heap} (hn0 : narrow t w = w)
    (hi : (i = .ireturn ∧ (t = .int ∨ t = .boolean ∨ t = .byte ∨ t = .char ∨ t = .short) ∧ ∃ z, w = .int z) ∨ (i = .lreturn ∧ t = .long ∧ ∃ z, w = .long z) ∨ (i = .dreturn ∧ t = .double ∧ ∃ z, w = .double z) ∨ (i = .freturn ∧ t = .float ∧ ∃ z, w = .float z) ∨ (i = .areturn ∧ t.isReference = true ∧ w.isRef = true))
    (hd : decode c.code pc = .ok (i, 1)) (eT : T.heap = h) (hk : cells ≤ k) (hn : slots ≤ n) (hq : Q (some w) h locs) : Go p e below T (mkF m pc Ls (w :: rest)) (KQ s Q k n) := by
  obtain ⟨fs, hr, hrun, hended, hW, hsame⟩ := X.leave (v := some w) (fun h => by rw [hret] at h; cases h) hlk
  exact ⟨_, _, retOut X hx hret hn0 hi hd hr, hrun, hended, _, _, rfl, by show Q (some w) T.heap _; rw [eT]; exact hq, ⟨_, rfl⟩, hW, hsame.mono hk hn⟩
theorem Go.retI (X : Stand p l e R s m args below meth c T locs cells slots) (hx : p.tables.exec = Jvm.exec) {z : Int32} {rest : List Value} (hret : meth.sig.returnType = some .int) (hlk : meth.locks = false) {pc : Nat} {Ls : Array Slot} {Q : Option Value → Heap → List Loc → Prop} {k n : Nat} {h : Heap}
    (hd : decode c.code pc = .ok (.ireturn, 1)) (eT : T.heap = h) (hk : cells ≤ k) (hn : slots ≤ n) (hq : Q (some (.int z)) h locs) : Go p e below T (mkF m pc Ls (.int z :: rest)) (KQ s Q k n) :=
  Go.retV X hx hret hlk rfl (Or.inl ⟨rfl, Or.inl rfl, z, rfl⟩) hd eT hk hn hq
theorem Go.retJ (X : Stand p l e R s m args below meth c T locs cells slots) (hx : p.tables.exec = Jvm.exec) {z : Int64} {rest : List Value} (hret : meth.sig.returnType = some .long) (hlk : meth.locks = false) {pc : Nat} {Ls : Array Slot} {Q : Option Value → Heap → List Loc → Prop} {k n : Nat} {h : Heap}
    (hd : decode c.code pc = .ok (.lreturn, 1)) (eT : T.heap = h) (hk : cells ≤ k) (hn : slots ≤ n) (hq : Q (some (.long z)) h locs) : Go p e below T (mkF m pc Ls (.long z :: rest)) (KQ s Q k n) :=
  Go.retV X hx hret hlk rfl (Or.inr (Or.inl ⟨rfl, rfl, z, rfl⟩)) hd eT hk hn hq
theorem narrow_ref {t : FieldType} {w : Value} (ht : t.isReference = true) (hw : w.isRef = true) : narrow t w = w := by
  rcases ref_cases hw with rfl | ⟨z, rfl⟩ <;> cases t <;> first | rfl | (cases ht; done)
theorem Go.retA (X : Stand p l e R s m args below meth c T locs cells slots) (hx : p.tables.exec = Jvm.exec) {t : FieldType} {w : Value} {rest : List Value} (hret : meth.sig.returnType = some t) (hlk : meth.locks = false) {pc : Nat} {Ls : Array Slot} {Q : Option Value → Heap → List Loc → Prop} {k n : Nat} {h : Heap} (ht : t.isReference = true) (hw : w.isRef = true)
    (hd : decode c.code pc = .ok (.areturn, 1)) (eT : T.heap = h) (hk : cells ≤ k) (hn : slots ≤ n) (hq : Q (some w) h locs) : Go p e below T (mkF m pc Ls (w :: rest)) (KQ s Q k n) :=
  Go.retV X hx hret hlk (narrow_ref ht hw) (Or.inr (Or.inr (Or.inr (Or.inr ⟨rfl, ht, hw⟩)))) hd eT hk hn hq
theorem Go.retN (X : Stand p l e R s m args below meth c T locs cells slots) (hx : p.tables.exec = Jvm.exec) {t : FieldType} {z : Int32} {rest : List Value} (hret : meth.sig.returnType = some t) (hlk : meth.locks = false) {pc : Nat} {Ls : Array Slot} {Q : Option Value → Heap → List Loc → Prop} {k n : Nat} {h : Heap} (ht : t = .boolean ∨ t = .byte ∨ t = .char ∨ t = .short)
    (hd : decode c.code pc = .ok (.ireturn, 1)) (eT : T.heap = h) (hk : cells ≤ k) (hn : slots ≤ n) (hq : Q (some (.int (nar t z))) h locs) : Go p e below T (mkF m pc Ls (.int z :: rest)) (KQ s Q k n) := by
  obtain ⟨fs, hr, hrun, hended, hW, hsame⟩ := X.leave (v := some (.int (nar t z))) (fun h => by rw [hret] at h; cases h) hlk
  exact ⟨_, _, Jvm.RoadKit.retN X hx hret ht hd hr, hrun, hended, _, _, rfl, by show Q _ T.heap _; rw [eT]; exact hq, ⟨_, rfl⟩, hW, hsame.mono hk hn⟩
/-- the contract of one body, at the arguments as and the heap h0 -/
abbrev Ctr (l : Launch) (Z : State) (y : MethodName) (bytes : ByteArray) (mx : Nat) (rt : Option FieldType) (ws : List Jvm.Cond) (R : Room) (as : Array Value) (h0 : Heap) (Q : Option Value → Heap → List Loc → Prop) : Prop :=
  MetFree l y (head1 (Jvm.Cond.code y bytes mx rt :: ws) R) (fun a U => a = as ∧ Z.Warmed39 U.vm ∧ U.heap = h0) (fun _ _ _ _ _ => True) (fun _ U o U' => ∃ v L, o = .returned v ∧ Q v U'.heap L ∧ FrameEnd U o U' L R.cells R.slots)
theorem Ctr.intro {Z : State} {y : MethodName} {bytes : ByteArray} {mx : Nat} {rt : Option FieldType} {ws : List Jvm.Cond} {as : Array Value} {h0 : Heap} {Q : Option Value → Heap → List Loc → Prop} (hpl : plainFor y = true)
    (body : ∀ (p : Program) (e : Env) (s : State) (m : MethodId) (below : List Frame) (meth : Method) (c : Code) (s₁ : State), p.tables.exec = Jvm.exec → c.code = bytes → c.maxLocals = mx → s.vm.findClass y.cls = some m.cls → meth.name = y.name → meth.sig.returnType = rt → meth.locks = false → Z.Warmed39 s.vm →
      Stand p l e R s m as below meth c s₁ [] 0 0 → s₁.heap = h0 → Go p e below s₁ (entryFrame m as mx) (KQ s Q R.cells R.slots)) : Ctr l Z y bytes mx rt ws R as h0 Q := by
  refine MetFree.of_bodySF hpl hisR ?_
  intro p e s m args below meth c s₁ Bd hml0 hP hK
  obtain ⟨rfl, hZ, hh⟩ := hP
  obtain ⟨s₂, o, h1, h2, h3, h4⟩ := body p e s m below meth c s₁ Bd.exec Bd.bytes hml0 (findClass_of_methodNamed Bd.named) (name_of_methodNamed Bd.named Bd.method).1 Bd.returns Bd.notSynchronized hZ (Stand.of_body Bd) (by rw [← hh, Bd.state]; rfl)
  exact ⟨s₂, o, h1, h2, h3, h4⟩
end own_kit
theorem own_mask31 (x : Int32) : 0 ≤ (x &&& 2147483647).toInt ∧ (x &&& 2147483647).toInt < 2 ^ 31 := by
  have e : (x &&& 2147483647).toInt = x.toInt % 2 ^ 31 := Jvm.Kit.i32_mask x 2147483647 (k := 31) (by decide) (by decide)
  omega
theorem own_rem {x y : Int32} (hx : 0 ≤ x.toInt) (hy : 0 < y.toInt) : 0 ≤ (x % y).toInt ∧ (x % y).toInt < y.toInt := by
  have e : (x % y).toInt = x.toInt.tmod y.toInt := Int32.toInt_mod x y
  rw [Int.tmod_eq_emod_of_nonneg hx] at e
  have h1 := Int.emod_nonneg x.toInt (show y.toInt ≠ 0 by omega)
  have h2 := Int.emod_lt_of_pos x.toInt hy
  omega
theorem own_lt {a b : Int32} : a < b ↔ a.toInt < b.toInt := Int32.lt_iff_toInt_lt
theorem own_eq {a b : Int32} : a = b ↔ a.toInt = b.toInt := Int32.toInt_inj.symm
theorem own_or' {args : Array Value} {first s : State} {o : Option Outcome} {idx : List Nat} {G Y : Jvm.Cond} {P : Prop} [Decidable P] (h : (Jvm.Cond.or G Y).value args first o s idx = some true) (hG : G.value args first o s idx = some (decide P)) (hn : ¬ P) : Y.value args first o s idx = some true := by
  simpa [Cond.value, hG, hn] using h
theorem own_len {Z : State} {args : Array Value} {t : Term} {a : Addr} {cl : Cell} {ty : FieldType} {n : Int32} (ea : t.eval args Z none [] Z = some (.ref a)) (A : Arr Z Z.heap a cl ty) (h : (Term.length t).eval args Z none [] Z = some (.int n)) : cl.slots.size = n.toNatClampNeg ∧ ¬ n < 0 := by
  have ha := A.fin (Vm.Alike.refl _)
  by_cases p : cl.slots.size < 2 ^ 31
  · have e := (len_f ea ha p).symm.trans h
    have e2 : cl.slots.size.toInt32 = n := Value.int.inj (Option.some.inj e)
    have e3 := len_toInt p
    rw [e2] at e3
    refine ⟨by simp only [Int32.toNatClampNeg, e3]; rfl, by rw [Int32.lt_iff_toInt_lt, e3]; simp⟩
  · simp [Term.eval, ea, ha, p] at h
theorem own_at {Z : State} {args : Array Value} {t F : Term} {a : Addr} {cl : Cell} {ty : FieldType} {j y : Int32} (et : ∀ idx, t.eval args Z none idx Z = some (.ref a)) (A : Arr Z Z.heap a cl ty) (nn : ¬ j < 0) (hF : F.eval args Z none [j.toNatClampNeg] Z = some (.int y))
    (h : (Jvm.Cond.eq (.elem t (.index 0)) F).value args Z none Z [j.toNatClampNeg] = some true) : cl.slots[j.toNatClampNeg]? = some (.int y) :=
  (elem_f (et _) (idx_at nn) (A.fin (Vm.Alike.refl _)) nn).symm.trans (eqv_i hF h)
theorem own_nlt {a b : Int32} : ¬ a < b ↔ b.toInt ≤ a.toInt := by rw [own_lt]; omega
theorem own_le {a b : Int32} : a ≤ b ↔ a.toInt ≤ b.toInt := Int32.le_iff_toInt_le
theorem own_clamp {j n : Int32} {k : Nat} (h0 : ¬ j < 0) (h1 : j < n) (hk : k = n.toNatClampNeg) : j.toNatClampNeg < k := by
  rw [own_lt] at h0 h1; subst hk
  have : (0 : Int32).toInt = 0 := by decide
  simp only [Int32.toNatClampNeg]; omega

theorem k0 : (0 : Int32).toInt = 0 := by decide
theorem k1 : (1 : Int32).toInt = 1 := by decide
theorem k2 : (2 : Int32).toInt = 2 := by decide
theorem k3 : (3 : Int32).toInt = 3 := by decide
theorem k4 : (4 : Int32).toInt = 4 := by decide
theorem k5 : (5 : Int32).toInt = 5 := by decide
theorem k6 : (6 : Int32).toInt = 6 := by decide
theorem k7 : (7 : Int32).toInt = 7 := by decide
theorem k8 : (8 : Int32).toInt = 8 := by decide
theorem k9 : (9 : Int32).toInt = 9 := by decide
theorem k10 : (10 : Int32).toInt = 10 := by decide
theorem k11 : (11 : Int32).toInt = 11 := by decide
theorem k12 : (12 : Int32).toInt = 12 := by decide
theorem k13 : (13 : Int32).toInt = 13 := by decide
theorem k14 : (14 : Int32).toInt = 14 := by decide
theorem k15 : (15 : Int32).toInt = 15 := by decide
theorem k16 : (16 : Int32).toInt = 16 := by decide
theorem k17 : (17 : Int32).toInt = 17 := by decide
theorem k18 : (18 : Int32).toInt = 18 := by decide
theorem k19 : (19 : Int32).toInt = 19 := by decide
theorem own_19 {j : Int32} (h1 : ¬ j < 0) (h2 : j < 19) : j = 0 ∨ j = 1 ∨ j = 2 ∨ j = 3 ∨ j = 4 ∨ j = 5 ∨ j = 6 ∨ j = 7 ∨ j = 8 ∨ j = 9 ∨ j = 10 ∨ j = 11 ∨ j = 12 ∨ j = 13 ∨ j = 14 ∨ j = 15 ∨ j = 16 ∨ j = 17 ∨ j = 18 := by
  simp only [own_lt, own_eq, k0, k1, k2, k3, k4, k5, k6, k7, k8, k9, k10, k11, k12, k13, k14, k15, k16, k17, k18, k19] at *
  omega
def fS (i : Int32) : Int32 := if i = 13 then 1 else if i = 14 then 1 else if i = 9 then 1 else if i = 10 then 1 else 0
theorem d1_0 : decode prog_52_method_4_code 0 = .ok (.aload_n 0, 1) := by decide +kernel
theorem d1_1 : decode prog_52_method_4_code 1 = .ok (.getstatic 43, 3) := by decide +kernel
theorem d1_4 : decode prog_52_method_4_code 4 = .ok (.if_acmp .eq 24, 3) := by decide +kernel
theorem d1_28 : decode prog_52_method_4_code 28 = .ok (.iconst 1, 1) := by decide +kernel
theorem d1_29 : decode prog_52_method_4_code 29 = .ok (.goto 4, 3) := by decide +kernel
theorem d1_33 : decode prog_52_method_4_code 33 = .ok (.ireturn, 1) := by decide +kernel
theorem d1_7 : decode prog_52_method_4_code 7 = .ok (.aload_n 0, 1) := by decide +kernel
theorem d1_8 : decode prog_52_method_4_code 8 = .ok (.getstatic 46, 3) := by decide +kernel
theorem d1_11 : decode prog_52_method_4_code 11 = .ok (.if_acmp .eq 17, 3) := by decide +kernel
theorem d1_14 : decode prog_52_method_4_code 14 = .ok (.aload_n 0, 1) := by decide +kernel
theorem d1_15 : decode prog_52_method_4_code 15 = .ok (.getstatic 31, 3) := by decide +kernel
theorem d1_18 : decode prog_52_method_4_code 18 = .ok (.if_acmp .eq 10, 3) := by decide +kernel
theorem d1_21 : decode prog_52_method_4_code 21 = .ok (.aload_n 0, 1) := by decide +kernel
theorem d1_22 : decode prog_52_method_4_code 22 = .ok (.getstatic 34, 3) := by decide +kernel
theorem d1_25 : decode prog_52_method_4_code 25 = .ok (.if_acmp .ne 7, 3) := by decide +kernel
theorem d1_32 : decode prog_52_method_4_code 32 = .ok (.iconst 0, 1) := by decide +kernel
theorem own_pn0 : plainName "com/example/ballotwise/ballotwise/kv/Command$Kind" = true := by first | (simp [plainName, overriddenIn]; done) | decide +kernel
theorem own_ef_rm1 (m : MethodId) (x0 : Addr) : entryFrame m #[(.ref x0)] 1 = mkF m 0 #[.val (.ref x0)] [] := by first | (simp [entryFrame, mkF, argsToLocals, Value.category]; done) | rfl
def Q_rm1 (Z : State) (x0 : Addr) (ii : Int32) (aF : Int32 → Addr) (h0 : Heap) (n0 : Nat) : Option Value → Heap → List Loc → Prop := fun v h L => v = some (.int (fS ii)) ∧ Fr n0 L ∧ h = h0
set_option maxRecDepth 65536 in
set_option maxHeartbeats 40000000 in
theorem rm1 (l : Launch) (Z : State) (a0 : Array Value) (hw : ∀ d ∈ tables_1, d.before a0 Z = true) (ws : List Jvm.Cond) (x0 : Addr) (ii : Int32) (aF : Int32 → Addr) (h0 : Heap) (n0 : Nat) (Z0 : n0 ≤ h0.size) (hx0 : x0 = aF ii) (hi1 : ¬ ii < 0) (hi2 : ii < 19) (OL : Old Z n0 h0) (HE : ∀ j : Int32, ¬ j < 0 → j < 19 → Exa Z Z.heap (aF j) "com/example/ballotwise/ballotwise/kv/Command$Kind" ∧ Fld Z Z.heap (aF j) "java/lang/Enum" "ordinal" "I" (.int j)) (S13 : Sta Z Z.heap "com/example/ballotwise/ballotwise/kv/Command$Kind" "UNLOCK" "Lcom/example/ballotwise/ballotwise/kv/Command$Kind;" (.ref (aF 13))) (S14 : Sta Z Z.heap "com/example/ballotwise/ballotwise/kv/Command$Kind" "WITHDRAW" "Lcom/example/ballotwise/ballotwise/kv/Command$Kind;" (.ref (aF 14))) (S9 : Sta Z Z.heap "com/example/ballotwise/ballotwise/kv/Command$Kind" "REVOKE" "Lcom/example/ballotwise/ballotwise/kv/Command$Kind;" (.ref (aF 9))) (S10 : Sta Z Z.heap "com/example/ballotwise/ballotwise/kv/Command$Kind" "LAPSE" "Lcom/example/ballotwise/ballotwise/kv/Command$Kind;" (.ref (aF 10))) :
    Ctr l Z (⟨"com/example/ballotwise/ballotwise/kv/Command$Kind", "settlesClaims", "()Z"⟩ : MethodName) prog_52_method_4_code 1 (some .boolean) ws ({ frames := 0, cells := 0, slots := 0, locals := 0 } : Room) #[(.ref x0)] h0 (Q_rm1 Z x0 ii aF h0 n0) := by
  refine Ctr.intro (plainFor_of_name own_pn0) ?_
  intro p e s m below meth c s₁ hx hby hml hown hnm hret hlk hZ X0 e0
  have hown : s.vm.findClass "com/example/ballotwise/ballotwise/kv/Command$Kind" = some m.cls := hown
  have hml : c.maxLocals = 1 := hml
  have N0 := Fr.nil n0
  refine Go.cast (own_ef_rm1 m x0) ?_
  have own_ne : ∀ {k : Int32}, ¬ (ii = k) → ¬ k < 0 → k < 19 → aF ii = aF k → False := fun h1 h2 h3 h4 => (Fld.ne (HE ii hi1 hi2).2 (HE _ h2 h3).2 (fun q => h1 (Value.int.inj q))) h4
  show Go p e below s₁ (mkF m 0 #[.val (.ref x0)] []) _
  refine Go.of (fun _ k => XS.aloadN X0.here hx rfl (hb hby d1_0) rfl rfl  k) ?_
  show Go p e below s₁ (mkF m 1 #[.val (.ref x0)] [(.ref x0)]) _
  obtain ⟨T1, X1, e1, st1⟩ := getS2 X0 hx hZ hown (host := "") (Or.inl (hw _ (List.mem_of_getElem? (i := 48) rfl))) Via.refl e0 (S13.ext OL.2) (g := (mkF m 1 #[.val (.ref x0)] [(.ref x0)])) rfl (hb hby d1_1)
  refine Go.of (fun _ k => st1 _ k) ?_
  show Go p e below T1 (mkF m 4 #[.val (.ref x0)] [(.ref (aF 13)), (.ref x0)]) _
  by_cases hi13 : ii = 13
  · refine Go.of (fun _ k => Jvm.RoadKit.acmp (g := (mkF m 4 #[.val (.ref x0)] [(.ref (aF 13)), (.ref x0)])) X1 hx rfl rfl rfl (pc0 := 4) (pc' := 28) (same := true) rfl (hb hby d1_4) rfl (decide_eq_true (by rw [hx0, hi13])) (by decide) (by decide) k) ?_
    show Go p e below T1 (mkF m 28 #[.val (.ref x0)] []) _
    refine Go.of (fun _ k => XS.iconst X1.here hx rfl (hb hby d1_28) k) ?_
    show Go p e below T1 (mkF m 29 #[.val (.ref x0)] [(.int (1 : Int32))]) _
    refine Go.of (fun _ k => XS.goto X1.here hx rfl (pc0 := 29) (pc' := 33) rfl (hb hby d1_29) (by decide) (by decide) k) ?_
    show Go p e below T1 (mkF m 33 #[.val (.ref x0)] [(.int (1 : Int32))]) _
    refine Go.retN X1 hx (t := .boolean) hret hlk (by simp) (hb hby d1_33) e1 (by decide) (by decide) ?_
    exact ⟨show some (Value.int (1 : Int32)) = _ from by simp [fS, *], N0, rfl⟩
  · refine Go.of (fun _ k => Jvm.RoadKit.acmp (g := (mkF m 4 #[.val (.ref x0)] [(.ref (aF 13)), (.ref x0)])) X1 hx rfl rfl rfl (pc0 := 4) (pc' := 7) (same := false) rfl (hb hby d1_4) rfl (decide_eq_false fun q => own_ne hi13 (by decide) (by decide) (hx0.symm.trans (Value.ref.inj q))) (by decide) (by decide) k) ?_
    show Go p e below T1 (mkF m 7 #[.val (.ref x0)] []) _
    refine Go.of (fun _ k => XS.aloadN X1.here hx rfl (hb hby d1_7) rfl rfl  k) ?_
    show Go p e below T1 (mkF m 8 #[.val (.ref x0)] [(.ref x0)]) _
    obtain ⟨T2, X2, e2, st2⟩ := getS2 X1 hx hZ hown (host := "") (Or.inl (hw _ (List.mem_of_getElem? (i := 49) rfl))) Via.refl e1 (S14.ext OL.2) (g := (mkF m 8 #[.val (.ref x0)] [(.ref x0)])) rfl (hb hby d1_8)
    refine Go.of (fun _ k => st2 _ k) ?_
    show Go p e below T2 (mkF m 11 #[.val (.ref x0)] [(.ref (aF 14)), (.ref x0)]) _
    by_cases hi14 : ii = 14
    · refine Go.of (fun _ k => Jvm.RoadKit.acmp (g := (mkF m 11 #[.val (.ref x0)] [(.ref (aF 14)), (.ref x0)])) X2 hx rfl rfl rfl (pc0 := 11) (pc' := 28) (same := true) rfl (hb hby d1_11) rfl (decide_eq_true (by rw [hx0, hi14])) (by decide) (by decide) k) ?_
      show Go p e below T2 (mkF m 28 #[.val (.ref x0)] []) _
      refine Go.of (fun _ k => XS.iconst X2.here hx rfl (hb hby d1_28) k) ?_
      show Go p e below T2 (mkF m 29 #[.val (.ref x0)] [(.int (1 : Int32))]) _
      refine Go.of (fun _ k => XS.goto X2.here hx rfl (pc0 := 29) (pc' := 33) rfl (hb hby d1_29) (by decide) (by decide) k) ?_
      show Go p e below T2 (mkF m 33 #[.val (.ref x0)] [(.int (1 : Int32))]) _
      refine Go.retN X2 hx (t := .boolean) hret hlk (by simp) (hb hby d1_33) e2 (by decide) (by decide) ?_
      exact ⟨show some (Value.int (1 : Int32)) = _ from by simp [fS, *], N0, rfl⟩
    · refine Go.of (fun _ k => Jvm.RoadKit.acmp (g := (mkF m 11 #[.val (.ref x0)] [(.ref (aF 14)), (.ref x0)])) X2 hx rfl rfl rfl (pc0 := 11) (pc' := 14) (same := false) rfl (hb hby d1_11) rfl (decide_eq_false fun q => own_ne hi14 (by decide) (by decide) (hx0.symm.trans (Value.ref.inj q))) (by decide) (by decide) k) ?_
      show Go p e below T2 (mkF m 14 #[.val (.ref x0)] []) _
      refine Go.of (fun _ k => XS.aloadN X2.here hx rfl (hb hby d1_14) rfl rfl  k) ?_
      show Go p e below T2 (mkF m 15 #[.val (.ref x0)] [(.ref x0)]) _
      obtain ⟨T3, X3, e3, st3⟩ := getS2 X2 hx hZ hown (host := "") (Or.inl (hw _ (List.mem_of_getElem? (i := 50) rfl))) Via.refl e2 (S9.ext OL.2) (g := (mkF m 15 #[.val (.ref x0)] [(.ref x0)])) rfl (hb hby d1_15)
      refine Go.of (fun _ k => st3 _ k) ?_
      show Go p e below T3 (mkF m 18 #[.val (.ref x0)] [(.ref (aF 9)), (.ref x0)]) _
      by_cases hi9 : ii = 9
      · refine Go.of (fun _ k => Jvm.RoadKit.acmp (g := (mkF m 18 #[.val (.ref x0)] [(.ref (aF 9)), (.ref x0)])) X3 hx rfl rfl rfl (pc0 := 18) (pc' := 28) (same := true) rfl (hb hby d1_18) rfl (decide_eq_true (by rw [hx0, hi9])) (by decide) (by decide) k) ?_
        show Go p e below T3 (mkF m 28 #[.val (.ref x0)] []) _
        refine Go.of (fun _ k => XS.iconst X3.here hx rfl (hb hby d1_28) k) ?_
        show Go p e below T3 (mkF m 29 #[.val (.ref x0)] [(.int (1 : Int32))]) _
        refine Go.of (fun _ k => XS.goto X3.here hx rfl (pc0 := 29) (pc' := 33) rfl (hb hby d1_29) (by decide) (by decide) k) ?_
        show Go p e below T3 (mkF m 33 #[.val (.ref x0)] [(.int (1 : Int32))]) _
        refine Go.retN X3 hx (t := .boolean) hret hlk (by simp) (hb hby d1_33) e3 (by decide) (by decide) ?_
        exact ⟨show some (Value.int (1 : Int32)) = _ from by simp [fS, *], N0, rfl⟩
      · refine Go.of (fun _ k => Jvm.RoadKit.acmp (g := (mkF m 18 #[.val (.ref x0)] [(.ref (aF 9)), (.ref x0)])) X3 hx rfl rfl rfl (pc0 := 18) (pc' := 21) (same := false) rfl (hb hby d1_18) rfl (decide_eq_false fun q => own_ne hi9 (by decide) (by decide) (hx0.symm.trans (Value.ref.inj q))) (by decide) (by decide) k) ?_
        show Go p e below T3 (mkF m 21 #[.val (.ref x0)] []) _
        refine Go.of (fun _ k => XS.aloadN X3.here hx rfl (hb hby d1_21) rfl rfl  k) ?_
        show Go p e below T3 (mkF m 22 #[.val (.ref x0)] [(.ref x0)]) _
        obtain ⟨T4, X4, e4, st4⟩ := getS2 X3 hx hZ hown (host := "") (Or.inl (hw _ (List.mem_of_getElem? (i := 51) rfl))) Via.refl e3 (S10.ext OL.2) (g := (mkF m 22 #[.val (.ref x0)] [(.ref x0)])) rfl (hb hby d1_22)
        refine Go.of (fun _ k => st4 _ k) ?_
        show Go p e below T4 (mkF m 25 #[.val (.ref x0)] [(.ref (aF 10)), (.ref x0)]) _
        by_cases hi10 : ii = 10
        · refine Go.of (fun _ k => Jvm.RoadKit.acmp (g := (mkF m 25 #[.val (.ref x0)] [(.ref (aF 10)), (.ref x0)])) X4 hx rfl rfl rfl (pc0 := 25) (pc' := 28) (same := true) rfl (hb hby d1_25) rfl (decide_eq_true (by rw [hx0, hi10])) (by decide) (by decide) k) ?_
          show Go p e below T4 (mkF m 28 #[.val (.ref x0)] []) _
          refine Go.of (fun _ k => XS.iconst X4.here hx rfl (hb hby d1_28) k) ?_
          show Go p e below T4 (mkF m 29 #[.val (.ref x0)] [(.int (1 : Int32))]) _
          refine Go.of (fun _ k => XS.goto X4.here hx rfl (pc0 := 29) (pc' := 33) rfl (hb hby d1_29) (by decide) (by decide) k) ?_
          show Go p e below T4 (mkF m 33 #[.val (.ref x0)] [(.int (1 : Int32))]) _
          refine Go.retN X4 hx (t := .boolean) hret hlk (by simp) (hb hby d1_33) e4 (by decide) (by decide) ?_
          exact ⟨show some (Value.int (1 : Int32)) = _ from by simp [fS, *], N0, rfl⟩
        · refine Go.of (fun _ k => Jvm.RoadKit.acmp (g := (mkF m 25 #[.val (.ref x0)] [(.ref (aF 10)), (.ref x0)])) X4 hx rfl rfl rfl (pc0 := 25) (pc' := 32) (same := false) rfl (hb hby d1_25) rfl (decide_eq_false fun q => own_ne hi10 (by decide) (by decide) (hx0.symm.trans (Value.ref.inj q))) (by decide) (by decide) k) ?_
          show Go p e below T4 (mkF m 32 #[.val (.ref x0)] []) _
          refine Go.of (fun _ k => XS.iconst X4.here hx rfl (hb hby d1_32) k) ?_
          show Go p e below T4 (mkF m 33 #[.val (.ref x0)] [(.int (0 : Int32))]) _
          refine Go.retN X4 hx (t := .boolean) hret hlk (by simp) (hb hby d1_33) e4 (by decide) (by decide) ?_
          exact ⟨show some (Value.int (0 : Int32)) = _ from by simp [fS, *], N0, rfl⟩
theorem own_pd0 : parseMethodDescriptor "()Z" = some ⟨[], some .boolean⟩ := by decide +kernel
theorem own_pn1 : plainName "com/example/ballotwise/ballotwise/kv/KindSettlesClaimsPinLaw" = true := by first | (simp [plainName, overriddenIn]; done) | decide +kernel
theorem own_ef_rm0 (m : MethodId) (x0 : Int32) : entryFrame m #[(.int x0)] maxLocals = mkF m 0 #[.val (.int x0), .unset, .unset, .unset] [] := by first | (simp [entryFrame, mkF, argsToLocals, Value.category, maxLocals]; done) | rfl
def Q_rm0 (Z : State) (x0 : Int32) (aF : Int32 → Addr) (h0 : Heap) (n0 : Nat) : Option Value → Heap → List Loc → Prop := fun v h L => v = some (.int 1) ∧ Fr n0 L
set_option maxRecDepth 65536 in
set_option maxHeartbeats 40000000 in
theorem rm0 (l : Launch) (Z : State) (a0 : Array Value) (hw : ∀ d ∈ tables_1, d.before a0 Z = true) (ws : List Jvm.Cond) (x0 : Int32) (aF : Int32 → Addr) (h0 : Heap) (n0 : Nat) (Z0 : n0 ≤ h0.size) (OL : Old Z n0 h0) (HE : ∀ j : Int32, ¬ j < 0 → j < 19 → Exa Z Z.heap (aF j) "com/example/ballotwise/ballotwise/kv/Command$Kind" ∧ Fld Z Z.heap (aF j) "java/lang/Enum" "ordinal" "I" (.int j)) (S0 : Sta Z Z.heap "com/example/ballotwise/ballotwise/kv/Command$Kind" "NO_OP" "Lcom/example/ballotwise/ballotwise/kv/Command$Kind;" (.ref (aF 0))) (S1 : Sta Z Z.heap "com/example/ballotwise/ballotwise/kv/Command$Kind" "PUT" "Lcom/example/ballotwise/ballotwise/kv/Command$Kind;" (.ref (aF 1))) (S2 : Sta Z Z.heap "com/example/ballotwise/ballotwise/kv/Command$Kind" "DELETE" "Lcom/example/ballotwise/ballotwise/kv/Command$Kind;" (.ref (aF 2))) (S3 : Sta Z Z.heap "com/example/ballotwise/ballotwise/kv/Command$Kind" "GET" "Lcom/example/ballotwise/ballotwise/kv/Command$Kind;" (.ref (aF 3))) (S4 : Sta Z Z.heap "com/example/ballotwise/ballotwise/kv/Command$Kind" "REGISTER" "Lcom/example/ballotwise/ballotwise/kv/Command$Kind;" (.ref (aF 4))) (S5 : Sta Z Z.heap "com/example/ballotwise/ballotwise/kv/Command$Kind" "CONDITIONAL_PUT" "Lcom/example/ballotwise/ballotwise/kv/Command$Kind;" (.ref (aF 5))) (S6 : Sta Z Z.heap "com/example/ballotwise/ballotwise/kv/Command$Kind" "CONDITIONAL_DELETE" "Lcom/example/ballotwise/ballotwise/kv/Command$Kind;" (.ref (aF 6))) (S7 : Sta Z Z.heap "com/example/ballotwise/ballotwise/kv/Command$Kind" "GRANT" "Lcom/example/ballotwise/ballotwise/kv/Command$Kind;" (.ref (aF 7))) (S8 : Sta Z Z.heap "com/example/ballotwise/ballotwise/kv/Command$Kind" "RENEW" "Lcom/example/ballotwise/ballotwise/kv/Command$Kind;" (.ref (aF 8))) (S9 : Sta Z Z.heap "com/example/ballotwise/ballotwise/kv/Command$Kind" "REVOKE" "Lcom/example/ballotwise/ballotwise/kv/Command$Kind;" (.ref (aF 9))) (S10 : Sta Z Z.heap "com/example/ballotwise/ballotwise/kv/Command$Kind" "LAPSE" "Lcom/example/ballotwise/ballotwise/kv/Command$Kind;" (.ref (aF 10))) (S11 : Sta Z Z.heap "com/example/ballotwise/ballotwise/kv/Command$Kind" "LEASED_PUT" "Lcom/example/ballotwise/ballotwise/kv/Command$Kind;" (.ref (aF 11))) (S12 : Sta Z Z.heap "com/example/ballotwise/ballotwise/kv/Command$Kind" "LOCK" "Lcom/example/ballotwise/ballotwise/kv/Command$Kind;" (.ref (aF 12))) (S13 : Sta Z Z.heap "com/example/ballotwise/ballotwise/kv/Command$Kind" "UNLOCK" "Lcom/example/ballotwise/ballotwise/kv/Command$Kind;" (.ref (aF 13))) (S14 : Sta Z Z.heap "com/example/ballotwise/ballotwise/kv/Command$Kind" "WITHDRAW" "Lcom/example/ballotwise/ballotwise/kv/Command$Kind;" (.ref (aF 14))) (S15 : Sta Z Z.heap "com/example/ballotwise/ballotwise/kv/Command$Kind" "HOLDER" "Lcom/example/ballotwise/ballotwise/kv/Command$Kind;" (.ref (aF 15))) (S16 : Sta Z Z.heap "com/example/ballotwise/ballotwise/kv/Command$Kind" "LIST" "Lcom/example/ballotwise/ballotwise/kv/Command$Kind;" (.ref (aF 16))) (S17 : Sta Z Z.heap "com/example/ballotwise/ballotwise/kv/Command$Kind" "TIMED_LOCK" "Lcom/example/ballotwise/ballotwise/kv/Command$Kind;" (.ref (aF 17))) (S18 : Sta Z Z.heap "com/example/ballotwise/ballotwise/kv/Command$Kind" "RENUMBER" "Lcom/example/ballotwise/ballotwise/kv/Command$Kind;" (.ref (aF 18))) :
    Ctr l Z x code maxLocals ret ws room_1 #[(.int x0)] h0 (Q_rm0 Z x0 aF h0 n0) := by
  refine Ctr.intro (plainFor_of_name own_pn1) ?_
  intro p e s m below meth c s₁ hx hby hml hown hnm hret hlk hZ X0 e0
  have hown : s.vm.findClass "com/example/ballotwise/ballotwise/kv/KindSettlesClaimsPinLaw" = some m.cls := hown
  have hml : c.maxLocals = 4 := hml
  have N0 := Fr.nil n0
  refine Go.cast (own_ef_rm0 m x0) ?_
  show Go p e below s₁ (mkF m 0 #[.val (.int x0), .unset, .unset, .unset] []) _
  refine Go.of (fun _ k => XS.bipush X0.here hx rfl (hb hby at_0) k) ?_
  show Go p e below s₁ (mkF m 2 #[.val (.int x0), .unset, .unset, .unset] [(.int (19 : Int32))]) _
  obtain ⟨T1, h1, kc1, X1, e1, E1, A1, Ov1, st1⟩ := newR X0 hx hZ hown (hw _ (List.mem_of_getElem? (i := 0) rfl)) (hw _ (List.mem_of_getElem? (i := 1) rfl)) e0 (g := (mkF m 2 #[.val (.int x0), .unset, .unset, .unset] [(.int (19 : Int32))])) rfl (hb hby at_2) rfl (by decide) (cap := 19) (by decide) (by decide) (by decide) (by decide)
  obtain ⟨ad1, g1⟩ : ∃ z, z = h0.size := ⟨_, rfl⟩
  rw [← g1] at A1 st1
  have ge_ad1 : n0 ≤ ad1 := Nat.le_trans Z0 (Nat.le_of_eq g1.symm)
  have Z0 := Nat.le_trans Z0 E1.1
  have OL := OL.ext E1
  have V_ad1 : Arv Z h1 ad1 kc1 (.object "com/example/ballotwise/ballotwise/kv/Command$Kind") (19 : Int32) [.null, .null, .null, .null, .null, .null, .null, .null, .null, .null, .null, .null, .null, .null, .null, .null, .null, .null, .null] .null := (Arv.new A1 (by decide)).pad (pad_rep [] .null 19)
  refine Go.of (fun _ k => st1 _ k) ?_
  show Go p e below T1 (mkF m 5 #[.val (.int x0), .unset, .unset, .unset] [(.ref ad1)]) _
  refine Go.of (fun _ k => XS.dup X1.here hx rfl (hb hby at_5) rfl rfl k) ?_
  show Go p e below T1 (mkF m 6 #[.val (.int x0), .unset, .unset, .unset] [(.ref ad1), (.ref ad1)]) _
  refine Go.of (fun _ k => XS.iconst X1.here hx rfl (hb hby at_6) k) ?_
  show Go p e below T1 (mkF m 7 #[.val (.int x0), .unset, .unset, .unset] [(.int (0 : Int32)), (.ref ad1), (.ref ad1)]) _
  obtain ⟨T2, X2, e2, st2⟩ := getS2 X1 hx hZ hown (host := "") (Or.inl (hw _ (List.mem_of_getElem? (i := 2) rfl))) Via.refl e1 (S0.ext OL.2) (g := (mkF m 7 #[.val (.int x0), .unset, .unset, .unset] [(.int (0 : Int32)), (.ref ad1), (.ref ad1)])) rfl (hb hby at_7)
  refine Go.of (fun _ k => st2 _ k) ?_
  show Go p e below T2 (mkF m 10 #[.val (.int x0), .unset, .unset, .unset] [(.ref (aF 0)), (.int (0 : Int32)), (.ref ad1), (.ref ad1)]) _
  obtain ⟨clq3, Arq3, qq3, Sq3, Nnq3, Hq3, Gq3⟩ := V_ad1
  have hin3 : ¬ ((0 : Int32) < 0 ∨ clq3.slots.size ≤ ((0 : Int32)).toNatClampNeg) := inb_of Sq3 ⟨by decide, by decide⟩
  obtain ⟨T3, h3, X3, e3, W3, st3⟩ := stR X2 hx hZ e2 Arq3 (j := (0 : Int32)) hin3 rfl (Sto.ofV Arq3 qq3 Ov1 (Ins.self ((HE 0 (by decide) (by decide)).1.ext OL.2))) (g := (mkF m 10 #[.val (.int x0), .unset, .unset, .unset] [(.ref (aF 0)), (.int (0 : Int32)), (.ref ad1), (.ref ad1)])) rfl rfl (hb hby at_10)
  have V_ad1 : Arv Z h3 ad1 kc1 (.object "com/example/ballotwise/ballotwise/kv/Command$Kind") (19 : Int32) [(.ref (aF 0)), .null, .null, .null, .null, .null, .null, .null, .null, .null, .null, .null, .null, .null, .null, .null, .null, .null, .null] .null := Arv.set Arq3 qq3 Sq3 Nnq3 Hq3 Gq3 rfl W3 0 rfl (Nat.le_of_ble_eq_true rfl)
  have N3 := Fr.snoc X3 N0 ge_ad1
  have Z0 := Nat.le_trans Z0 (Keep.of_wr W3).1
  have OL := OL.wr W3 ge_ad1
  refine Go.of (fun _ k => st3 _ k) ?_
  show Go p e below T3 (mkF m 11 #[.val (.int x0), .unset, .unset, .unset] [(.ref ad1)]) _
  refine Go.of (fun _ k => XS.dup X3.here hx rfl (hb hby at_11) rfl rfl k) ?_
  show Go p e below T3 (mkF m 12 #[.val (.int x0), .unset, .unset, .unset] [(.ref ad1), (.ref ad1)]) _
  refine Go.of (fun _ k => XS.iconst X3.here hx rfl (hb hby at_12) k) ?_
  show Go p e below T3 (mkF m 13 #[.val (.int x0), .unset, .unset, .unset] [(.int (1 : Int32)), (.ref ad1), (.ref ad1)]) _
  obtain ⟨T4, X4, e4, st4⟩ := getS2 X3 hx hZ hown (host := "") (Or.inl (hw _ (List.mem_of_getElem? (i := 6) rfl))) Via.refl e3 (S1.ext OL.2) (g := (mkF m 13 #[.val (.int x0), .unset, .unset, .unset] [(.int (1 : Int32)), (.ref ad1), (.ref ad1)])) rfl (hb hby at_13)
  refine Go.of (fun _ k => st4 _ k) ?_
  show Go p e below T4 (mkF m 16 #[.val (.int x0), .unset, .unset, .unset] [(.ref (aF 1)), (.int (1 : Int32)), (.ref ad1), (.ref ad1)]) _
  obtain ⟨clq5, Arq5, qq5, Sq5, Nnq5, Hq5, Gq5⟩ := V_ad1
  have hin5 : ¬ ((1 : Int32) < 0 ∨ clq5.slots.size ≤ ((1 : Int32)).toNatClampNeg) := inb_of Sq5 ⟨by decide, by decide⟩
  obtain ⟨T5, h5, X5, e5, W5, st5⟩ := stR X4 hx hZ e4 Arq5 (j := (1 : Int32)) hin5 rfl (Sto.ofV Arq5 qq5 Ov1 (Ins.self ((HE 1 (by decide) (by decide)).1.ext OL.2))) (g := (mkF m 16 #[.val (.int x0), .unset, .unset, .unset] [(.ref (aF 1)), (.int (1 : Int32)), (.ref ad1), (.ref ad1)])) rfl rfl (hb hby at_16)
  have V_ad1 : Arv Z h5 ad1 kc1 (.object "com/example/ballotwise/ballotwise/kv/Command$Kind") (19 : Int32) [(.ref (aF 0)), (.ref (aF 1)), .null, .null, .null, .null, .null, .null, .null, .null, .null, .null, .null, .null, .null, .null, .null, .null, .null] .null := Arv.set Arq5 qq5 Sq5 Nnq5 Hq5 Gq5 rfl W5 1 rfl (Nat.le_of_ble_eq_true rfl)
  have N5 := Fr.snoc X5 N3 ge_ad1
  have Z0 := Nat.le_trans Z0 (Keep.of_wr W5).1
  have OL := OL.wr W5 ge_ad1
  refine Go.of (fun _ k => st5 _ k) ?_
  show Go p e below T5 (mkF m 17 #[.val (.int x0), .unset, .unset, .unset] [(.ref ad1)]) _
  refine Go.of (fun _ k => XS.dup X5.here hx rfl (hb hby at_17) rfl rfl k) ?_
  show Go p e below T5 (mkF m 18 #[.val (.int x0), .unset, .unset, .unset] [(.ref ad1), (.ref ad1)]) _
  refine Go.of (fun _ k => XS.iconst X5.here hx rfl (hb hby at_18) k) ?_
  show Go p e below T5 (mkF m 19 #[.val (.int x0), .unset, .unset, .unset] [(.int (2 : Int32)), (.ref ad1), (.ref ad1)]) _
  obtain ⟨T6, X6, e6, st6⟩ := getS2 X5 hx hZ hown (host := "") (Or.inl (hw _ (List.mem_of_getElem? (i := 8) rfl))) Via.refl e5 (S2.ext OL.2) (g := (mkF m 19 #[.val (.int x0), .unset, .unset, .unset] [(.int (2 : Int32)), (.ref ad1), (.ref ad1)])) rfl (hb hby at_19)
  refine Go.of (fun _ k => st6 _ k) ?_
  show Go p e below T6 (mkF m 22 #[.val (.int x0), .unset, .unset, .unset] [(.ref (aF 2)), (.int (2 : Int32)), (.ref ad1), (.ref ad1)]) _
  obtain ⟨clq7, Arq7, qq7, Sq7, Nnq7, Hq7, Gq7⟩ := V_ad1
  have hin7 : ¬ ((2 : Int32) < 0 ∨ clq7.slots.size ≤ ((2 : Int32)).toNatClampNeg) := inb_of Sq7 ⟨by decide, by decide⟩
  obtain ⟨T7, h7, X7, e7, W7, st7⟩ := stR X6 hx hZ e6 Arq7 (j := (2 : Int32)) hin7 rfl (Sto.ofV Arq7 qq7 Ov1 (Ins.self ((HE 2 (by decide) (by decide)).1.ext OL.2))) (g := (mkF m 22 #[.val (.int x0), .unset, .unset, .unset] [(.ref (aF 2)), (.int (2 : Int32)), (.ref ad1), (.ref ad1)])) rfl rfl (hb hby at_22)
  have V_ad1 : Arv Z h7 ad1 kc1 (.object "com/example/ballotwise/ballotwise/kv/Command$Kind") (19 : Int32) [(.ref (aF 0)), (.ref (aF 1)), (.ref (aF 2)), .null, .null, .null, .null, .null, .null, .null, .null, .null, .null, .null, .null, .null, .null, .null, .null] .null := Arv.set Arq7 qq7 Sq7 Nnq7 Hq7 Gq7 rfl W7 2 rfl (Nat.le_of_ble_eq_true rfl)
  have N7 := Fr.snoc X7 N5 ge_ad1
  have Z0 := Nat.le_trans Z0 (Keep.of_wr W7).1
  have OL := OL.wr W7 ge_ad1
  refine Go.of (fun _ k => st7 _ k) ?_
  show Go p e below T7 (mkF m 23 #[.val (.int x0), .unset, .unset, .unset] [(.ref ad1)]) _
  refine Go.of (fun _ k => XS.dup X7.here hx rfl (hb hby at_23) rfl rfl k) ?_
  show Go p e below T7 (mkF m 24 #[.val (.int x0), .unset, .unset, .unset] [(.ref ad1), (.ref ad1)]) _
  refine Go.of (fun _ k => XS.iconst X7.here hx rfl (hb hby at_24) k) ?_
  show Go p e below T7 (mkF m 25 #[.val (.int x0), .unset, .unset, .unset] [(.int (3 : Int32)), (.ref ad1), (.ref ad1)]) _
  obtain ⟨T8, X8, e8, st8⟩ := getS2 X7 hx hZ hown (host := "") (Or.inl (hw _ (List.mem_of_getElem? (i := 10) rfl))) Via.refl e7 (S3.ext OL.2) (g := (mkF m 25 #[.val (.int x0), .unset, .unset, .unset] [(.int (3 : Int32)), (.ref ad1), (.ref ad1)])) rfl (hb hby at_25)
  refine Go.of (fun _ k => st8 _ k) ?_
  show Go p e below T8 (mkF m 28 #[.val (.int x0), .unset, .unset, .unset] [(.ref (aF 3)), (.int (3 : Int32)), (.ref ad1), (.ref ad1)]) _
  obtain ⟨clq9, Arq9, qq9, Sq9, Nnq9, Hq9, Gq9⟩ := V_ad1
  have hin9 : ¬ ((3 : Int32) < 0 ∨ clq9.slots.size ≤ ((3 : Int32)).toNatClampNeg) := inb_of Sq9 ⟨by decide, by decide⟩
  obtain ⟨T9, h9, X9, e9, W9, st9⟩ := stR X8 hx hZ e8 Arq9 (j := (3 : Int32)) hin9 rfl (Sto.ofV Arq9 qq9 Ov1 (Ins.self ((HE 3 (by decide) (by decide)).1.ext OL.2))) (g := (mkF m 28 #[.val (.int x0), .unset, .unset, .unset] [(.ref (aF 3)), (.int (3 : Int32)), (.ref ad1), (.ref ad1)])) rfl rfl (hb hby at_28)
  have V_ad1 : Arv Z h9 ad1 kc1 (.object "com/example/ballotwise/ballotwise/kv/Command$Kind") (19 : Int32) [(.ref (aF 0)), (.ref (aF 1)), (.ref (aF 2)), (.ref (aF 3)), .null, .null, .null, .null, .null, .null, .null, .null, .null, .null, .null, .null, .null, .null, .null] .null := Arv.set Arq9 qq9 Sq9 Nnq9 Hq9 Gq9 rfl W9 3 rfl (Nat.le_of_ble_eq_true rfl)
  have N9 := Fr.snoc X9 N7 ge_ad1
  have Z0 := Nat.le_trans Z0 (Keep.of_wr W9).1
  have OL := OL.wr W9 ge_ad1
  refine Go.of (fun _ k => st9 _ k) ?_
  show Go p e below T9 (mkF m 29 #[.val (.int x0), .unset, .unset, .unset] [(.ref ad1)]) _
  refine Go.of (fun _ k => XS.dup X9.here hx rfl (hb hby at_29) rfl rfl k) ?_
  show Go p e below T9 (mkF m 30 #[.val (.int x0), .unset, .unset, .unset] [(.ref ad1), (.ref ad1)]) _
  refine Go.of (fun _ k => XS.iconst X9.here hx rfl (hb hby at_30) k) ?_
  show Go p e below T9 (mkF m 31 #[.val (.int x0), .unset, .unset, .unset] [(.int (4 : Int32)), (.ref ad1), (.ref ad1)]) _
  obtain ⟨T10, X10, e10, st10⟩ := getS2 X9 hx hZ hown (host := "") (Or.inl (hw _ (List.mem_of_getElem? (i := 12) rfl))) Via.refl e9 (S4.ext OL.2) (g := (mkF m 31 #[.val (.int x0), .unset, .unset, .unset] [(.int (4 : Int32)), (.ref ad1), (.ref ad1)])) rfl (hb hby at_31)
  refine Go.of (fun _ k => st10 _ k) ?_
  show Go p e below T10 (mkF m 34 #[.val (.int x0), .unset, .unset, .unset] [(.ref (aF 4)), (.int (4 : Int32)), (.ref ad1), (.ref ad1)]) _
  obtain ⟨clq11, Arq11, qq11, Sq11, Nnq11, Hq11, Gq11⟩ := V_ad1
  have hin11 : ¬ ((4 : Int32) < 0 ∨ clq11.slots.size ≤ ((4 : Int32)).toNatClampNeg) := inb_of Sq11 ⟨by decide, by decide⟩
  obtain ⟨T11, h11, X11, e11, W11, st11⟩ := stR X10 hx hZ e10 Arq11 (j := (4 : Int32)) hin11 rfl (Sto.ofV Arq11 qq11 Ov1 (Ins.self ((HE 4 (by decide) (by decide)).1.ext OL.2))) (g := (mkF m 34 #[.val (.int x0), .unset, .unset, .unset] [(.ref (aF 4)), (.int (4 : Int32)), (.ref ad1), (.ref ad1)])) rfl rfl (hb hby at_34)
  have V_ad1 : Arv Z h11 ad1 kc1 (.object "com/example/ballotwise/ballotwise/kv/Command$Kind") (19 : Int32) [(.ref (aF 0)), (.ref (aF 1)), (.ref (aF 2)), (.ref (aF 3)), (.ref (aF 4)), .null, .null, .null, .null, .null, .null, .null, .null, .null, .null, .null, .null, .null, .null] .null := Arv.set Arq11 qq11 Sq11 Nnq11 Hq11 Gq11 rfl W11 4 rfl (Nat.le_of_ble_eq_true rfl)
  have N11 := Fr.snoc X11 N9 ge_ad1
  have Z0 := Nat.le_trans Z0 (Keep.of_wr W11).1
  have OL := OL.wr W11 ge_ad1
  refine Go.of (fun _ k => st11 _ k) ?_
  show Go p e below T11 (mkF m 35 #[.val (.int x0), .unset, .unset, .unset] [(.ref ad1)]) _
  refine Go.of (fun _ k => XS.dup X11.here hx rfl (hb hby at_35) rfl rfl k) ?_
  show Go p e below T11 (mkF m 36 #[.val (.int x0), .unset, .unset, .unset] [(.ref ad1), (.ref ad1)]) _
  refine Go.of (fun _ k => XS.iconst X11.here hx rfl (hb hby at_36) k) ?_
  show Go p e below T11 (mkF m 37 #[.val (.int x0), .unset, .unset, .unset] [(.int (5 : Int32)), (.ref ad1), (.ref ad1)]) _
  obtain ⟨T12, X12, e12, st12⟩ := getS2 X11 hx hZ hown (host := "") (Or.inl (hw _ (List.mem_of_getElem? (i := 14) rfl))) Via.refl e11 (S5.ext OL.2) (g := (mkF m 37 #[.val (.int x0), .unset, .unset, .unset] [(.int (5 : Int32)), (.ref ad1), (.ref ad1)])) rfl (hb hby at_37)
  refine Go.of (fun _ k => st12 _ k) ?_
  show Go p e below T12 (mkF m 40 #[.val (.int x0), .unset, .unset, .unset] [(.ref (aF 5)), (.int (5 : Int32)), (.ref ad1), (.ref ad1)]) _
  obtain ⟨clq13, Arq13, qq13, Sq13, Nnq13, Hq13, Gq13⟩ := V_ad1
  have hin13 : ¬ ((5 : Int32) < 0 ∨ clq13.slots.size ≤ ((5 : Int32)).toNatClampNeg) := inb_of Sq13 ⟨by decide, by decide⟩
  obtain ⟨T13, h13, X13, e13, W13, st13⟩ := stR X12 hx hZ e12 Arq13 (j := (5 : Int32)) hin13 rfl (Sto.ofV Arq13 qq13 Ov1 (Ins.self ((HE 5 (by decide) (by decide)).1.ext OL.2))) (g := (mkF m 40 #[.val (.int x0), .unset, .unset, .unset] [(.ref (aF 5)), (.int (5 : Int32)), (.ref ad1), (.ref ad1)])) rfl rfl (hb hby at_40)
  have V_ad1 : Arv Z h13 ad1 kc1 (.object "com/example/ballotwise/ballotwise/kv/Command$Kind") (19 : Int32) [(.ref (aF 0)), (.ref (aF 1)), (.ref (aF 2)), (.ref (aF 3)), (.ref (aF 4)), (.ref (aF 5)), .null, .null, .null, .null, .null, .null, .null, .null, .null, .null, .null, .null, .null] .null := Arv.set Arq13 qq13 Sq13 Nnq13 Hq13 Gq13 rfl W13 5 rfl (Nat.le_of_ble_eq_true rfl)
  have N13 := Fr.snoc X13 N11 ge_ad1
  have Z0 := Nat.le_trans Z0 (Keep.of_wr W13).1
  have OL := OL.wr W13 ge_ad1
  refine Go.of (fun _ k => st13 _ k) ?_
  show Go p e below T13 (mkF m 41 #[.val (.int x0), .unset, .unset, .unset] [(.ref ad1)]) _
  refine Go.of (fun _ k => XS.dup X13.here hx rfl (hb hby at_41) rfl rfl k) ?_
  show Go p e below T13 (mkF m 42 #[.val (.int x0), .unset, .unset, .unset] [(.ref ad1), (.ref ad1)]) _
  refine Go.of (fun _ k => XS.bipush X13.here hx rfl (hb hby at_42) k) ?_
  show Go p e below T13 (mkF m 44 #[.val (.int x0), .unset, .unset, .unset] [(.int (6 : Int32)), (.ref ad1), (.ref ad1)]) _
  obtain ⟨T14, X14, e14, st14⟩ := getS2 X13 hx hZ hown (host := "") (Or.inl (hw _ (List.mem_of_getElem? (i := 16) rfl))) Via.refl e13 (S6.ext OL.2) (g := (mkF m 44 #[.val (.int x0), .unset, .unset, .unset] [(.int (6 : Int32)), (.ref ad1), (.ref ad1)])) rfl (hb hby at_44)
  refine Go.of (fun _ k => st14 _ k) ?_
  show Go p e below T14 (mkF m 47 #[.val (.int x0), .unset, .unset, .unset] [(.ref (aF 6)), (.int (6 : Int32)), (.ref ad1), (.ref ad1)]) _
  obtain ⟨clq15, Arq15, qq15, Sq15, Nnq15, Hq15, Gq15⟩ := V_ad1
  have hin15 : ¬ ((6 : Int32) < 0 ∨ clq15.slots.size ≤ ((6 : Int32)).toNatClampNeg) := inb_of Sq15 ⟨by decide, by decide⟩
  obtain ⟨T15, h15, X15, e15, W15, st15⟩ := stR X14 hx hZ e14 Arq15 (j := (6 : Int32)) hin15 rfl (Sto.ofV Arq15 qq15 Ov1 (Ins.self ((HE 6 (by decide) (by decide)).1.ext OL.2))) (g := (mkF m 47 #[.val (.int x0), .unset, .unset, .unset] [(.ref (aF 6)), (.int (6 : Int32)), (.ref ad1), (.ref ad1)])) rfl rfl (hb hby at_47)
  have V_ad1 : Arv Z h15 ad1 kc1 (.object "com/example/ballotwise/ballotwise/kv/Command$Kind") (19 : Int32) [(.ref (aF 0)), (.ref (aF 1)), (.ref (aF 2)), (.ref (aF 3)), (.ref (aF 4)), (.ref (aF 5)), (.ref (aF 6)), .null, .null, .null, .null, .null, .null, .null, .null, .null, .null, .null, .null] .null := Arv.set Arq15 qq15 Sq15 Nnq15 Hq15 Gq15 rfl W15 6 rfl (Nat.le_of_ble_eq_true rfl)
  have N15 := Fr.snoc X15 N13 ge_ad1
  have Z0 := Nat.le_trans Z0 (Keep.of_wr W15).1
  have OL := OL.wr W15 ge_ad1
  refine Go.of (fun _ k => st15 _ k) ?_
  show Go p e below T15 (mkF m 48 #[.val (.int x0), .unset, .unset, .unset] [(.ref ad1)]) _
  refine Go.of (fun _ k => XS.dup X15.here hx rfl (hb hby at_48) rfl rfl k) ?_
  show Go p e below T15 (mkF m 49 #[.val (.int x0), .unset, .unset, .unset] [(.ref ad1), (.ref ad1)]) _
  refine Go.of (fun _ k => XS.bipush X15.here hx rfl (hb hby at_49) k) ?_
  show Go p e below T15 (mkF m 51 #[.val (.int x0), .unset, .unset, .unset] [(.int (7 : Int32)), (.ref ad1), (.ref ad1)]) _
  obtain ⟨T16, X16, e16, st16⟩ := getS2 X15 hx hZ hown (host := "") (Or.inl (hw _ (List.mem_of_getElem? (i := 18) rfl))) Via.refl e15 (S7.ext OL.2) (g := (mkF m 51 #[.val (.int x0), .unset, .unset, .unset] [(.int (7 : Int32)), (.ref ad1), (.ref ad1)])) rfl (hb hby at_51)
  refine Go.of (fun _ k => st16 _ k) ?_
  show Go p e below T16 (mkF m 54 #[.val (.int x0), .unset, .unset, .unset] [(.ref (aF 7)), (.int (7 : Int32)), (.ref ad1), (.ref ad1)]) _
  obtain ⟨clq17, Arq17, qq17, Sq17, Nnq17, Hq17, Gq17⟩ := V_ad1
  have hin17 : ¬ ((7 : Int32) < 0 ∨ clq17.slots.size ≤ ((7 : Int32)).toNatClampNeg) := inb_of Sq17 ⟨by decide, by decide⟩
  obtain ⟨T17, h17, X17, e17, W17, st17⟩ := stR X16 hx hZ e16 Arq17 (j := (7 : Int32)) hin17 rfl (Sto.ofV Arq17 qq17 Ov1 (Ins.self ((HE 7 (by decide) (by decide)).1.ext OL.2))) (g := (mkF m 54 #[.val (.int x0), .unset, .unset, .unset] [(.ref (aF 7)), (.int (7 : Int32)), (.ref ad1), (.ref ad1)])) rfl rfl (hb hby at_54)
  have V_ad1 : Arv Z h17 ad1 kc1 (.object "com/example/ballotwise/ballotwise/kv/Command$Kind") (19 : Int32) [(.ref (aF 0)), (.ref (aF 1)), (.ref (aF 2)), (.ref (aF 3)), (.ref (aF 4)), (.ref (aF 5)), (.ref (aF 6)), (.ref (aF 7)), .null, .null, .null, .null, .null, .null, .null, .null, .null, .null, .null] .null := Arv.set Arq17 qq17 Sq17 Nnq17 Hq17 Gq17 rfl W17 7 rfl (Nat.le_of_ble_eq_true rfl)
  have N17 := Fr.snoc X17 N15 ge_ad1
  have Z0 := Nat.le_trans Z0 (Keep.of_wr W17).1
  have OL := OL.wr W17 ge_ad1
  refine Go.of (fun _ k => st17 _ k) ?_
  show Go p e below T17 (mkF m 55 #[.val (.int x0), .unset, .unset, .unset] [(.ref ad1)]) _
  refine Go.of (fun _ k => XS.dup X17.here hx rfl (hb hby at_55) rfl rfl k) ?_
  show Go p e below T17 (mkF m 56 #[.val (.int x0), .unset, .unset, .unset] [(.ref ad1), (.ref ad1)]) _
  refine Go.of (fun _ k => XS.bipush X17.here hx rfl (hb hby at_56) k) ?_
  show Go p e below T17 (mkF m 58 #[.val (.int x0), .unset, .unset, .unset] [(.int (8 : Int32)), (.ref ad1), (.ref ad1)]) _
  obtain ⟨T18, X18, e18, st18⟩ := getS2 X17 hx hZ hown (host := "") (Or.inl (hw _ (List.mem_of_getElem? (i := 20) rfl))) Via.refl e17 (S8.ext OL.2) (g := (mkF m 58 #[.val (.int x0), .unset, .unset, .unset] [(.int (8 : Int32)), (.ref ad1), (.ref ad1)])) rfl (hb hby at_58)
  refine Go.of (fun _ k => st18 _ k) ?_
  show Go p e below T18 (mkF m 61 #[.val (.int x0), .unset, .unset, .unset] [(.ref (aF 8)), (.int (8 : Int32)), (.ref ad1), (.ref ad1)]) _
  obtain ⟨clq19, Arq19, qq19, Sq19, Nnq19, Hq19, Gq19⟩ := V_ad1
  have hin19 : ¬ ((8 : Int32) < 0 ∨ clq19.slots.size ≤ ((8 : Int32)).toNatClampNeg) := inb_of Sq19 ⟨by decide, by decide⟩
  obtain ⟨T19, h19, X19, e19, W19, st19⟩ := stR X18 hx hZ e18 Arq19 (j := (8 : Int32)) hin19 rfl (Sto.ofV Arq19 qq19 Ov1 (Ins.self ((HE 8 (by decide) (by decide)).1.ext OL.2))) (g := (mkF m 61 #[.val (.int x0), .unset, .unset, .unset] [(.ref (aF 8)), (.int (8 : Int32)), (.ref ad1), (.ref ad1)])) rfl rfl (hb hby at_61)
  have V_ad1 : Arv Z h19 ad1 kc1 (.object "com/example/ballotwise/ballotwise/kv/Command$Kind") (19 : Int32) [(.ref (aF 0)), (.ref (aF 1)), (.ref (aF 2)), (.ref (aF 3)), (.ref (aF 4)), (.ref (aF 5)), (.ref (aF 6)), (.ref (aF 7)), (.ref (aF 8)), .null, .null, .null, .null, .null, .null, .null, .null, .null, .null] .null := Arv.set Arq19 qq19 Sq19 Nnq19 Hq19 Gq19 rfl W19 8 rfl (Nat.le_of_ble_eq_true rfl)
  have N19 := Fr.snoc X19 N17 ge_ad1
  have Z0 := Nat.le_trans Z0 (Keep.of_wr W19).1
  have OL := OL.wr W19 ge_ad1
  refine Go.of (fun _ k => st19 _ k) ?_
  show Go p e below T19 (mkF m 62 #[.val (.int x0), .unset, .unset, .unset] [(.ref ad1)]) _
  refine Go.of (fun _ k => XS.dup X19.here hx rfl (hb hby at_62) rfl rfl k) ?_
  show Go p e below T19 (mkF m 63 #[.val (.int x0), .unset, .unset, .unset] [(.ref ad1), (.ref ad1)]) _
  refine Go.of (fun _ k => XS.bipush X19.here hx rfl (hb hby at_63) k) ?_
  show Go p e below T19 (mkF m 65 #[.val (.int x0), .unset, .unset, .unset] [(.int (9 : Int32)), (.ref ad1), (.ref ad1)]) _
  obtain ⟨T20, X20, e20, st20⟩ := getS2 X19 hx hZ hown (host := "") (Or.inl (hw _ (List.mem_of_getElem? (i := 22) rfl))) Via.refl e19 (S9.ext OL.2) (g := (mkF m 65 #[.val (.int x0), .unset, .unset, .unset] [(.int (9 : Int32)), (.ref ad1), (.ref ad1)])) rfl (hb hby at_65)
  refine Go.of (fun _ k => st20 _ k) ?_
  show Go p e below T20 (mkF m 68 #[.val (.int x0), .unset, .unset, .unset] [(.ref (aF 9)), (.int (9 : Int32)), (.ref ad1), (.ref ad1)]) _
  obtain ⟨clq21, Arq21, qq21, Sq21, Nnq21, Hq21, Gq21⟩ := V_ad1
  have hin21 : ¬ ((9 : Int32) < 0 ∨ clq21.slots.size ≤ ((9 : Int32)).toNatClampNeg) := inb_of Sq21 ⟨by decide, by decide⟩
  obtain ⟨T21, h21, X21, e21, W21, st21⟩ := stR X20 hx hZ e20 Arq21 (j := (9 : Int32)) hin21 rfl (Sto.ofV Arq21 qq21 Ov1 (Ins.self ((HE 9 (by decide) (by decide)).1.ext OL.2))) (g := (mkF m 68 #[.val (.int x0), .unset, .unset, .unset] [(.ref (aF 9)), (.int (9 : Int32)), (.ref ad1), (.ref ad1)])) rfl rfl (hb hby at_68)
  have V_ad1 : Arv Z h21 ad1 kc1 (.object "com/example/ballotwise/ballotwise/kv/Command$Kind") (19 : Int32) [(.ref (aF 0)), (.ref (aF 1)), (.ref (aF 2)), (.ref (aF 3)), (.ref (aF 4)), (.ref (aF 5)), (.ref (aF 6)), (.ref (aF 7)), (.ref (aF 8)), (.ref (aF 9)), .null, .null, .null, .null, .null, .null, .null, .null, .null] .null := Arv.set Arq21 qq21 Sq21 Nnq21 Hq21 Gq21 rfl W21 9 rfl (Nat.le_of_ble_eq_true rfl)
  have N21 := Fr.snoc X21 N19 ge_ad1
  have Z0 := Nat.le_trans Z0 (Keep.of_wr W21).1
  have OL := OL.wr W21 ge_ad1
  refine Go.of (fun _ k => st21 _ k) ?_
  show Go p e below T21 (mkF m 69 #[.val (.int x0), .unset, .unset, .unset] [(.ref ad1)]) _
  refine Go.of (fun _ k => XS.dup X21.here hx rfl (hb hby at_69) rfl rfl k) ?_
  show Go p e below T21 (mkF m 70 #[.val (.int x0), .unset, .unset, .unset] [(.ref ad1), (.ref ad1)]) _
  refine Go.of (fun _ k => XS.bipush X21.here hx rfl (hb hby at_70) k) ?_
  show Go p e below T21 (mkF m 72 #[.val (.int x0), .unset, .unset, .unset] [(.int (10 : Int32)), (.ref ad1), (.ref ad1)]) _
  obtain ⟨T22, X22, e22, st22⟩ := getS2 X21 hx hZ hown (host := "") (Or.inl (hw _ (List.mem_of_getElem? (i := 24) rfl))) Via.refl e21 (S10.ext OL.2) (g := (mkF m 72 #[.val (.int x0), .unset, .unset, .unset] [(.int (10 : Int32)), (.ref ad1), (.ref ad1)])) rfl (hb hby at_72)
  refine Go.of (fun _ k => st22 _ k) ?_
  show Go p e below T22 (mkF m 75 #[.val (.int x0), .unset, .unset, .unset] [(.ref (aF 10)), (.int (10 : Int32)), (.ref ad1), (.ref ad1)]) _
  obtain ⟨clq23, Arq23, qq23, Sq23, Nnq23, Hq23, Gq23⟩ := V_ad1
  have hin23 : ¬ ((10 : Int32) < 0 ∨ clq23.slots.size ≤ ((10 : Int32)).toNatClampNeg) := inb_of Sq23 ⟨by decide, by decide⟩
  obtain ⟨T23, h23, X23, e23, W23, st23⟩ := stR X22 hx hZ e22 Arq23 (j := (10 : Int32)) hin23 rfl (Sto.ofV Arq23 qq23 Ov1 (Ins.self ((HE 10 (by decide) (by decide)).1.ext OL.2))) (g := (mkF m 75 #[.val (.int x0), .unset, .unset, .unset] [(.ref (aF 10)), (.int (10 : Int32)), (.ref ad1), (.ref ad1)])) rfl rfl (hb hby at_75)
  have V_ad1 : Arv Z h23 ad1 kc1 (.object "com/example/ballotwise/ballotwise/kv/Command$Kind") (19 : Int32) [(.ref (aF 0)), (.ref (aF 1)), (.ref (aF 2)), (.ref (aF 3)), (.ref (aF 4)), (.ref (aF 5)), (.ref (aF 6)), (.ref (aF 7)), (.ref (aF 8)), (.ref (aF 9)), (.ref (aF 10)), .null, .null, .null, .null, .null, .null, .null, .null] .null := Arv.set Arq23 qq23 Sq23 Nnq23 Hq23 Gq23 rfl W23 10 rfl (Nat.le_of_ble_eq_true rfl)
  have N23 := Fr.snoc X23 N21 ge_ad1
  have Z0 := Nat.le_trans Z0 (Keep.of_wr W23).1
  have OL := OL.wr W23 ge_ad1
  refine Go.of (fun _ k => st23 _ k) ?_
  show Go p e below T23 (mkF m 76 #[.val (.int x0), .unset, .unset, .unset] [(.ref ad1)]) _
  refine Go.of (fun _ k => XS.dup X23.here hx rfl (hb hby at_76) rfl rfl k) ?_
  show Go p e below T23 (mkF m 77 #[.val (.int x0), .unset, .unset, .unset] [(.ref ad1), (.ref ad1)]) _
  refine Go.of (fun _ k => XS.bipush X23.here hx rfl (hb hby at_77) k) ?_
  show Go p e below T23 (mkF m 79 #[.val (.int x0), .unset, .unset, .unset] [(.int (11 : Int32)), (.ref ad1), (.ref ad1)]) _
  obtain ⟨T24, X24, e24, st24⟩ := getS2 X23 hx hZ hown (host := "") (Or.inl (hw _ (List.mem_of_getElem? (i := 26) rfl))) Via.refl e23 (S11.ext OL.2) (g := (mkF m 79 #[.val (.int x0), .unset, .unset, .unset] [(.int (11 : Int32)), (.ref ad1), (.ref ad1)])) rfl (hb hby at_79)
  refine Go.of (fun _ k => st24 _ k) ?_
  show Go p e below T24 (mkF m 82 #[.val (.int x0), .unset, .unset, .unset] [(.ref (aF 11)), (.int (11 : Int32)), (.ref ad1), (.ref ad1)]) _
  obtain ⟨clq25, Arq25, qq25, Sq25, Nnq25, Hq25, Gq25⟩ := V_ad1
  have hin25 : ¬ ((11 : Int32) < 0 ∨ clq25.slots.size ≤ ((11 : Int32)).toNatClampNeg) := inb_of Sq25 ⟨by decide, by decide⟩
  obtain ⟨T25, h25, X25, e25, W25, st25⟩ := stR X24 hx hZ e24 Arq25 (j := (11 : Int32)) hin25 rfl (Sto.ofV Arq25 qq25 Ov1 (Ins.self ((HE 11 (by decide) (by decide)).1.ext OL.2))) (g := (mkF m 82 #[.val (.int x0), .unset, .unset, .unset] [(.ref (aF 11)), (.int (11 : Int32)), (.ref ad1), (.ref ad1)])) rfl rfl (hb hby at_82)
  have V_ad1 : Arv Z h25 ad1 kc1 (.object "com/example/ballotwise/ballotwise/kv/Command$Kind") (19 : Int32) [(.ref (aF 0)), (.ref (aF 1)), (.ref (aF 2)), (.ref (aF 3)), (.ref (aF 4)), (.ref (aF 5)), (.ref (aF 6)), (.ref (aF 7)), (.ref (aF 8)), (.ref (aF 9)), (.ref (aF 10)), (.ref (aF 11)), .null, .null, .null, .null, .null, .null, .null] .null := Arv.set Arq25 qq25 Sq25 Nnq25 Hq25 Gq25 rfl W25 11 rfl (Nat.le_of_ble_eq_true rfl)
  have N25 := Fr.snoc X25 N23 ge_ad1
  have Z0 := Nat.le_trans Z0 (Keep.of_wr W25).1
  have OL := OL.wr W25 ge_ad1
  refine Go.of (fun _ k => st25 _ k) ?_
  show Go p e below T25 (mkF m 83 #[.val (.int x0), .unset, .unset, .unset] [(.ref ad1)]) _
  refine Go.of (fun _ k => XS.dup X25.here hx rfl (hb hby at_83) rfl rfl k) ?_
  show Go p e below T25 (mkF m 84 #[.val (.int x0), .unset, .unset, .unset] [(.ref ad1), (.ref ad1)]) _
  refine Go.of (fun _ k => XS.bipush X25.here hx rfl (hb hby at_84) k) ?_
  show Go p e below T25 (mkF m 86 #[.val (.int x0), .unset, .unset, .unset] [(.int (12 : Int32)), (.ref ad1), (.ref ad1)]) _
  obtain ⟨T26, X26, e26, st26⟩ := getS2 X25 hx hZ hown (host := "") (Or.inl (hw _ (List.mem_of_getElem? (i := 28) rfl))) Via.refl e25 (S12.ext OL.2) (g := (mkF m 86 #[.val (.int x0), .unset, .unset, .unset] [(.int (12 : Int32)), (.ref ad1), (.ref ad1)])) rfl (hb hby at_86)
  refine Go.of (fun _ k => st26 _ k) ?_
  show Go p e below T26 (mkF m 89 #[.val (.int x0), .unset, .unset, .unset] [(.ref (aF 12)), (.int (12 : Int32)), (.ref ad1), (.ref ad1)]) _
  obtain ⟨clq27, Arq27, qq27, Sq27, Nnq27, Hq27, Gq27⟩ := V_ad1
  have hin27 : ¬ ((12 : Int32) < 0 ∨ clq27.slots.size ≤ ((12 : Int32)).toNatClampNeg) := inb_of Sq27 ⟨by decide, by decide⟩
  obtain ⟨T27, h27, X27, e27, W27, st27⟩ := stR X26 hx hZ e26 Arq27 (j := (12 : Int32)) hin27 rfl (Sto.ofV Arq27 qq27 Ov1 (Ins.self ((HE 12 (by decide) (by decide)).1.ext OL.2))) (g := (mkF m 89 #[.val (.int x0), .unset, .unset, .unset] [(.ref (aF 12)), (.int (12 : Int32)), (.ref ad1), (.ref ad1)])) rfl rfl (hb hby at_89)
  have V_ad1 : Arv Z h27 ad1 kc1 (.object "com/example/ballotwise/ballotwise/kv/Command$Kind") (19 : Int32) [(.ref (aF 0)), (.ref (aF 1)), (.ref (aF 2)), (.ref (aF 3)), (.ref (aF 4)), (.ref (aF 5)), (.ref (aF 6)), (.ref (aF 7)), (.ref (aF 8)), (.ref (aF 9)), (.ref (aF 10)), (.ref (aF 11)), (.ref (aF 12)), .null, .null, .null, .null, .null, .null] .null := Arv.set Arq27 qq27 Sq27 Nnq27 Hq27 Gq27 rfl W27 12 rfl (Nat.le_of_ble_eq_true rfl)
  have N27 := Fr.snoc X27 N25 ge_ad1
  have Z0 := Nat.le_trans Z0 (Keep.of_wr W27).1
  have OL := OL.wr W27 ge_ad1
  refine Go.of (fun _ k => st27 _ k) ?_
  show Go p e below T27 (mkF m 90 #[.val (.int x0), .unset, .unset, .unset] [(.ref ad1)]) _
  refine Go.of (fun _ k => XS.dup X27.here hx rfl (hb hby at_90) rfl rfl k) ?_
  show Go p e below T27 (mkF m 91 #[.val (.int x0), .unset, .unset, .unset] [(.ref ad1), (.ref ad1)]) _
  refine Go.of (fun _ k => XS.bipush X27.here hx rfl (hb hby at_91) k) ?_
  show Go p e below T27 (mkF m 93 #[.val (.int x0), .unset, .unset, .unset] [(.int (13 : Int32)), (.ref ad1), (.ref ad1)]) _
  obtain ⟨T28, X28, e28, st28⟩ := getS2 X27 hx hZ hown (host := "") (Or.inl (hw _ (List.mem_of_getElem? (i := 30) rfl))) Via.refl e27 (S13.ext OL.2) (g := (mkF m 93 #[.val (.int x0), .unset, .unset, .unset] [(.int (13 : Int32)), (.ref ad1), (.ref ad1)])) rfl (hb hby at_93)
  refine Go.of (fun _ k => st28 _ k) ?_
  show Go p e below T28 (mkF m 96 #[.val (.int x0), .unset, .unset, .unset] [(.ref (aF 13)), (.int (13 : Int32)), (.ref ad1), (.ref ad1)]) _
  obtain ⟨clq29, Arq29, qq29, Sq29, Nnq29, Hq29, Gq29⟩ := V_ad1
  have hin29 : ¬ ((13 : Int32) < 0 ∨ clq29.slots.size ≤ ((13 : Int32)).toNatClampNeg) := inb_of Sq29 ⟨by decide, by decide⟩
  obtain ⟨T29, h29, X29, e29, W29, st29⟩ := stR X28 hx hZ e28 Arq29 (j := (13 : Int32)) hin29 rfl (Sto.ofV Arq29 qq29 Ov1 (Ins.self ((HE 13 (by decide) (by decide)).1.ext OL.2))) (g := (mkF m 96 #[.val (.int x0), .unset, .unset, .unset] [(.ref (aF 13)), (.int (13 : Int32)), (.ref ad1), (.ref ad1)])) rfl rfl (hb hby at_96)
  have V_ad1 : Arv Z h29 ad1 kc1 (.object "com/example/ballotwise/ballotwise/kv/Command$Kind") (19 : Int32) [(.ref (aF 0)), (.ref (aF 1)), (.ref (aF 2)), (.ref (aF 3)), (.ref (aF 4)), (.ref (aF 5)), (.ref (aF 6)), (.ref (aF 7)), (.ref (aF 8)), (.ref (aF 9)), (.ref (aF 10)), (.ref (aF 11)), (.ref (aF 12)), (.ref (aF 13)), .null, .null, .null, .null, .null] .null := Arv.set Arq29 qq29 Sq29 Nnq29 Hq29 Gq29 rfl W29 13 rfl (Nat.le_of_ble_eq_true rfl)
  have N29 := Fr.snoc X29 N27 ge_ad1
  have Z0 := Nat.le_trans Z0 (Keep.of_wr W29).1
  have OL := OL.wr W29 ge_ad1
  refine Go.of (fun _ k => st29 _ k) ?_
  show Go p e below T29 (mkF m 97 #[.val (.int x0), .unset, .unset, .unset] [(.ref ad1)]) _
  refine Go.of (fun _ k => XS.dup X29.here hx rfl (hb hby at_97) rfl rfl k) ?_
  show Go p e below T29 (mkF m 98 #[.val (.int x0), .unset, .unset, .unset] [(.ref ad1), (.ref ad1)]) _
  refine Go.of (fun _ k => XS.bipush X29.here hx rfl (hb hby at_98) k) ?_
  show Go p e below T29 (mkF m 100 #[.val (.int x0), .unset, .unset, .unset] [(.int (14 : Int32)), (.ref ad1), (.ref ad1)]) _
  obtain ⟨T30, X30, e30, st30⟩ := getS2 X29 hx hZ hown (host := "") (Or.inl (hw _ (List.mem_of_getElem? (i := 32) rfl))) Via.refl e29 (S14.ext OL.2) (g := (mkF m 100 #[.val (.int x0), .unset, .unset, .unset] [(.int (14 : Int32)), (.ref ad1), (.ref ad1)])) rfl (hb hby at_100)
  refine Go.of (fun _ k => st30 _ k) ?_
  show Go p e below T30 (mkF m 103 #[.val (.int x0), .unset, .unset, .unset] [(.ref (aF 14)), (.int (14 : Int32)), (.ref ad1), (.ref ad1)]) _
  obtain ⟨clq31, Arq31, qq31, Sq31, Nnq31, Hq31, Gq31⟩ := V_ad1
  have hin31 : ¬ ((14 : Int32) < 0 ∨ clq31.slots.size ≤ ((14 : Int32)).toNatClampNeg) := inb_of Sq31 ⟨by decide, by decide⟩
  obtain ⟨T31, h31, X31, e31, W31, st31⟩ := stR X30 hx hZ e30 Arq31 (j := (14 : Int32)) hin31 rfl (Sto.ofV Arq31 qq31 Ov1 (Ins.self ((HE 14 (by decide) (by decide)).1.ext OL.2))) (g := (mkF m 103 #[.val (.int x0), .unset, .unset, .unset] [(.ref (aF 14)), (.int (14 : Int32)), (.ref ad1), (.ref ad1)])) rfl rfl (hb hby at_103)
  have V_ad1 : Arv Z h31 ad1 kc1 (.object "com/example/ballotwise/ballotwise/kv/Command$Kind") (19 : Int32) [(.ref (aF 0)), (.ref (aF 1)), (.ref (aF 2)), (.ref (aF 3)), (.ref (aF 4)), (.ref (aF 5)), (.ref (aF 6)), (.ref (aF 7)), (.ref (aF 8)), (.ref (aF 9)), (.ref (aF 10)), (.ref (aF 11)), (.ref (aF 12)), (.ref (aF 13)), (.ref (aF 14)), .null, .null, .null, .null] .null := Arv.set Arq31 qq31 Sq31 Nnq31 Hq31 Gq31 rfl W31 14 rfl (Nat.le_of_ble_eq_true rfl)
  have N31 := Fr.snoc X31 N29 ge_ad1
  have Z0 := Nat.le_trans Z0 (Keep.of_wr W31).1
  have OL := OL.wr W31 ge_ad1
  refine Go.of (fun _ k => st31 _ k) ?_
  show Go p e below T31 (mkF m 104 #[.val (.int x0), .unset, .unset, .unset] [(.ref ad1)]) _
  refine Go.of (fun _ k => XS.dup X31.here hx rfl (hb hby at_104) rfl rfl k) ?_
  show Go p e below T31 (mkF m 105 #[.val (.int x0), .unset, .unset, .unset] [(.ref ad1), (.ref ad1)]) _
  refine Go.of (fun _ k => XS.bipush X31.here hx rfl (hb hby at_105) k) ?_
  show Go p e below T31 (mkF m 107 #[.val (.int x0), .unset, .unset, .unset] [(.int (15 : Int32)), (.ref ad1), (.ref ad1)]) _
  obtain ⟨T32, X32, e32, st32⟩ := getS2 X31 hx hZ hown (host := "") (Or.inl (hw _ (List.mem_of_getElem? (i := 34) rfl))) Via.refl e31 (S15.ext OL.2) (g := (mkF m 107 #[.val (.int x0), .unset, .unset, .unset] [(.int (15 : Int32)), (.ref ad1), (.ref ad1)])) rfl (hb hby at_107)
  refine Go.of (fun _ k => st32 _ k) ?_
  show Go p e below T32 (mkF m 110 #[.val (.int x0), .unset, .unset, .unset] [(.ref (aF 15)), (.int (15 : Int32)), (.ref ad1), (.ref ad1)]) _
  obtain ⟨clq33, Arq33, qq33, Sq33, Nnq33, Hq33, Gq33⟩ := V_ad1
  have hin33 : ¬ ((15 : Int32) < 0 ∨ clq33.slots.size ≤ ((15 : Int32)).toNatClampNeg) := inb_of Sq33 ⟨by decide, by decide⟩
  obtain ⟨T33, h33, X33, e33, W33, st33⟩ := stR X32 hx hZ e32 Arq33 (j := (15 : Int32)) hin33 rfl (Sto.ofV Arq33 qq33 Ov1 (Ins.self ((HE 15 (by decide) (by decide)).1.ext OL.2))) (g := (mkF m 110 #[.val (.int x0), .unset, .unset, .unset] [(.ref (aF 15)), (.int (15 : Int32)), (.ref ad1), (.ref ad1)])) rfl rfl (hb hby at_110)
  have V_ad1 : Arv Z h33 ad1 kc1 (.object "com/example/ballotwise/ballotwise/kv/Command$Kind") (19 : Int32) [(.ref (aF 0)), (.ref (aF 1)), (.ref (aF 2)), (.ref (aF 3)), (.ref (aF 4)), (.ref (aF 5)), (.ref (aF 6)), (.ref (aF 7)), (.ref (aF 8)), (.ref (aF 9)), (.ref (aF 10)), (.ref (aF 11)), (.ref (aF 12)), (.ref (aF 13)), (.ref (aF 14)), (.ref (aF 15)), .null, .null, .null] .null := Arv.set Arq33 qq33 Sq33 Nnq33 Hq33 Gq33 rfl W33 15 rfl (Nat.le_of_ble_eq_true rfl)
  have N33 := Fr.snoc X33 N31 ge_ad1
  have Z0 := Nat.le_trans Z0 (Keep.of_wr W33).1
  have OL := OL.wr W33 ge_ad1
  refine Go.of (fun _ k => st33 _ k) ?_
  show Go p e below T33 (mkF m 111 #[.val (.int x0), .unset, .unset, .unset] [(.ref ad1)]) _
  refine Go.of (fun _ k => XS.dup X33.here hx rfl (hb hby at_111) rfl rfl k) ?_
  show Go p e below T33 (mkF m 112 #[.val (.int x0), .unset, .unset, .unset] [(.ref ad1), (.ref ad1)]) _
  refine Go.of (fun _ k => XS.bipush X33.here hx rfl (hb hby at_112) k) ?_
  show Go p e below T33 (mkF m 114 #[.val (.int x0), .unset, .unset, .unset] [(.int (16 : Int32)), (.ref ad1), (.ref ad1)]) _
  obtain ⟨T34, X34, e34, st34⟩ := getS2 X33 hx hZ hown (host := "") (Or.inl (hw _ (List.mem_of_getElem? (i := 36) rfl))) Via.refl e33 (S16.ext OL.2) (g := (mkF m 114 #[.val (.int x0), .unset, .unset, .unset] [(.int (16 : Int32)), (.ref ad1), (.ref ad1)])) rfl (hb hby at_114)
  refine Go.of (fun _ k => st34 _ k) ?_
  show Go p e below T34 (mkF m 117 #[.val (.int x0), .unset, .unset, .unset] [(.ref (aF 16)), (.int (16 : Int32)), (.ref ad1), (.ref ad1)]) _
  obtain ⟨clq35, Arq35, qq35, Sq35, Nnq35, Hq35, Gq35⟩ := V_ad1
  have hin35 : ¬ ((16 : Int32) < 0 ∨ clq35.slots.size ≤ ((16 : Int32)).toNatClampNeg) := inb_of Sq35 ⟨by decide, by decide⟩
  obtain ⟨T35, h35, X35, e35, W35, st35⟩ := stR X34 hx hZ e34 Arq35 (j := (16 : Int32)) hin35 rfl (Sto.ofV Arq35 qq35 Ov1 (Ins.self ((HE 16 (by decide) (by decide)).1.ext OL.2))) (g := (mkF m 117 #[.val (.int x0), .unset, .unset, .unset] [(.ref (aF 16)), (.int (16 : Int32)), (.ref ad1), (.ref ad1)])) rfl rfl (hb hby at_117)
  have V_ad1 : Arv Z h35 ad1 kc1 (.object "com/example/ballotwise/ballotwise/kv/Command$Kind") (19 : Int32) [(.ref (aF 0)), (.ref (aF 1)), (.ref (aF 2)), (.ref (aF 3)), (.ref (aF 4)), (.ref (aF 5)), (.ref (aF 6)), (.ref (aF 7)), (.ref (aF 8)), (.ref (aF 9)), (.ref (aF 10)), (.ref (aF 11)), (.ref (aF 12)), (.ref (aF 13)), (.ref (aF 14)), (.ref (aF 15)), (.ref (aF 16)), .null, .null] .null := Arv.set Arq35 qq35 Sq35 Nnq35 Hq35 Gq35 rfl W35 16 rfl (Nat.le_of_ble_eq_true rfl)
  have N35 := Fr.snoc X35 N33 ge_ad1
  have Z0 := Nat.le_trans Z0 (Keep.of_wr W35).1
  have OL := OL.wr W35 ge_ad1
  refine Go.of (fun _ k => st35 _ k) ?_
  show Go p e below T35 (mkF m 118 #[.val (.int x0), .unset, .unset, .unset] [(.ref ad1)]) _
  refine Go.of (fun _ k => XS.dup X35.here hx rfl (hb hby at_118) rfl rfl k) ?_
  show Go p e below T35 (mkF m 119 #[.val (.int x0), .unset, .unset, .unset] [(.ref ad1), (.ref ad1)]) _
  refine Go.of (fun _ k => XS.bipush X35.here hx rfl (hb hby at_119) k) ?_
  show Go p e below T35 (mkF m 121 #[.val (.int x0), .unset, .unset, .unset] [(.int (17 : Int32)), (.ref ad1), (.ref ad1)]) _
  obtain ⟨T36, X36, e36, st36⟩ := getS2 X35 hx hZ hown (host := "") (Or.inl (hw _ (List.mem_of_getElem? (i := 38) rfl))) Via.refl e35 (S17.ext OL.2) (g := (mkF m 121 #[.val (.int x0), .unset, .unset, .unset] [(.int (17 : Int32)), (.ref ad1), (.ref ad1)])) rfl (hb hby at_121)
  refine Go.of (fun _ k => st36 _ k) ?_
  show Go p e below T36 (mkF m 124 #[.val (.int x0), .unset, .unset, .unset] [(.ref (aF 17)), (.int (17 : Int32)), (.ref ad1), (.ref ad1)]) _
  obtain ⟨clq37, Arq37, qq37, Sq37, Nnq37, Hq37, Gq37⟩ := V_ad1
  have hin37 : ¬ ((17 : Int32) < 0 ∨ clq37.slots.size ≤ ((17 : Int32)).toNatClampNeg) := inb_of Sq37 ⟨by decide, by decide⟩
  obtain ⟨T37, h37, X37, e37, W37, st37⟩ := stR X36 hx hZ e36 Arq37 (j := (17 : Int32)) hin37 rfl (Sto.ofV Arq37 qq37 Ov1 (Ins.self ((HE 17 (by decide) (by decide)).1.ext OL.2))) (g := (mkF m 124 #[.val (.int x0), .unset, .unset, .unset] [(.ref (aF 17)), (.int (17 : Int32)), (.ref ad1), (.ref ad1)])) rfl rfl (hb hby at_124)
  have V_ad1 : Arv Z h37 ad1 kc1 (.object "com/example/ballotwise/ballotwise/kv/Command$Kind") (19 : Int32) [(.ref (aF 0)), (.ref (aF 1)), (.ref (aF 2)), (.ref (aF 3)), (.ref (aF 4)), (.ref (aF 5)), (.ref (aF 6)), (.ref (aF 7)), (.ref (aF 8)), (.ref (aF 9)), (.ref (aF 10)), (.ref (aF 11)), (.ref (aF 12)), (.ref (aF 13)), (.ref (aF 14)), (.ref (aF 15)), (.ref (aF 16)), (.ref (aF 17)), .null] .null := Arv.set Arq37 qq37 Sq37 Nnq37 Hq37 Gq37 rfl W37 17 rfl (Nat.le_of_ble_eq_true rfl)
  have N37 := Fr.snoc X37 N35 ge_ad1
  have Z0 := Nat.le_trans Z0 (Keep.of_wr W37).1
  have OL := OL.wr W37 ge_ad1
  refine Go.of (fun _ k => st37 _ k) ?_
  show Go p e below T37 (mkF m 125 #[.val (.int x0), .unset, .unset, .unset] [(.ref ad1)]) _
  refine Go.of (fun _ k => XS.dup X37.here hx rfl (hb hby at_125) rfl rfl k) ?_
  show Go p e below T37 (mkF m 126 #[.val (.int x0), .unset, .unset, .unset] [(.ref ad1), (.ref ad1)]) _
  refine Go.of (fun _ k => XS.bipush X37.here hx rfl (hb hby at_126) k) ?_
  show Go p e below T37 (mkF m 128 #[.val (.int x0), .unset, .unset, .unset] [(.int (18 : Int32)), (.ref ad1), (.ref ad1)]) _
  obtain ⟨T38, X38, e38, st38⟩ := getS2 X37 hx hZ hown (host := "") (Or.inl (hw _ (List.mem_of_getElem? (i := 40) rfl))) Via.refl e37 (S18.ext OL.2) (g := (mkF m 128 #[.val (.int x0), .unset, .unset, .unset] [(.int (18 : Int32)), (.ref ad1), (.ref ad1)])) rfl (hb hby at_128)
  refine Go.of (fun _ k => st38 _ k) ?_
  show Go p e below T38 (mkF m 131 #[.val (.int x0), .unset, .unset, .unset] [(.ref (aF 18)), (.int (18 : Int32)), (.ref ad1), (.ref ad1)]) _
  obtain ⟨clq39, Arq39, qq39, Sq39, Nnq39, Hq39, Gq39⟩ := V_ad1
  have hin39 : ¬ ((18 : Int32) < 0 ∨ clq39.slots.size ≤ ((18 : Int32)).toNatClampNeg) := inb_of Sq39 ⟨by decide, by decide⟩
  obtain ⟨T39, h39, X39, e39, W39, st39⟩ := stR X38 hx hZ e38 Arq39 (j := (18 : Int32)) hin39 rfl (Sto.ofV Arq39 qq39 Ov1 (Ins.self ((HE 18 (by decide) (by decide)).1.ext OL.2))) (g := (mkF m 131 #[.val (.int x0), .unset, .unset, .unset] [(.ref (aF 18)), (.int (18 : Int32)), (.ref ad1), (.ref ad1)])) rfl rfl (hb hby at_131)
  have V_ad1 : Arv Z h39 ad1 kc1 (.object "com/example/ballotwise/ballotwise/kv/Command$Kind") (19 : Int32) [(.ref (aF 0)), (.ref (aF 1)), (.ref (aF 2)), (.ref (aF 3)), (.ref (aF 4)), (.ref (aF 5)), (.ref (aF 6)), (.ref (aF 7)), (.ref (aF 8)), (.ref (aF 9)), (.ref (aF 10)), (.ref (aF 11)), (.ref (aF 12)), (.ref (aF 13)), (.ref (aF 14)), (.ref (aF 15)), (.ref (aF 16)), (.ref (aF 17)), (.ref (aF 18))] .null := Arv.set Arq39 qq39 Sq39 Nnq39 Hq39 Gq39 rfl W39 18 rfl (Nat.le_of_ble_eq_true rfl)
  have N39 := Fr.snoc X39 N37 ge_ad1
  have Z0 := Nat.le_trans Z0 (Keep.of_wr W39).1
  have OL := OL.wr W39 ge_ad1
  refine Go.of (fun _ k => st39 _ k) ?_
  show Go p e below T39 (mkF m 132 #[.val (.int x0), .unset, .unset, .unset] [(.ref ad1)]) _
  refine Go.of (fun _ k => XS.astoreN X39.here hx rfl (hb hby at_132) rfl rfl (l' := #[.val (.int x0), .val (.ref ad1), .unset, .unset]) rfl k) ?_
  show Go p e below T39 (mkF m 133 #[.val (.int x0), .val (.ref ad1), .unset, .unset] []) _
  refine Go.of (fun _ k => XS.iloadN X39.here hx rfl (hb hby at_133) rfl  k) ?_
  show Go p e below T39 (mkF m 134 #[.val (.int x0), .val (.ref ad1), .unset, .unset] [(.int x0)]) _
  refine Go.of (fun _ k => X39.ldcInt hx hown (mvT hZ (hw _ (List.mem_of_getElem? (i := 42) rfl))) (g := (mkF m 134 #[.val (.int x0), .val (.ref ad1), .unset, .unset] [(.int x0)])) rfl (hb hby at_134) _ k) ?_
  show Go p e below T39 (mkF m 136 #[.val (.int x0), .val (.ref ad1), .unset, .unset] [(.int (2147483647 : Int32)), (.int x0)]) _
  refine Go.of (fun _ k => XS.iand X39.here hx rfl (hb hby at_136) rfl k) ?_
  show Go p e below T39 (mkF m 137 #[.val (.int x0), .val (.ref ad1), .unset, .unset] [(.int (x0 &&& (2147483647 : Int32)))]) _
  refine Go.of (fun _ k => XS.bipush X39.here hx rfl (hb hby at_137) k) ?_
  show Go p e below T39 (mkF m 139 #[.val (.int x0), .val (.ref ad1), .unset, .unset] [(.int (19 : Int32)), (.int (x0 &&& (2147483647 : Int32)))]) _
  refine Go.of (fun _ k => iremM X39 hx rfl (hb hby at_139) rfl (by decide) k) ?_
  show Go p e below T39 (mkF m 140 #[.val (.int x0), .val (.ref ad1), .unset, .unset] [(.int ((x0 &&& (2147483647 : Int32)) % (19 : Int32)))]) _
  refine Go.of (fun _ k => XS.istoreN X39.here hx rfl (hb hby at_140) rfl (l' := #[.val (.int x0), .val (.ref ad1), .val (.int ((x0 &&& (2147483647 : Int32)) % (19 : Int32))), .unset]) rfl k) ?_
  show Go p e below T39 (mkF m 141 #[.val (.int x0), .val (.ref ad1), .val (.int ((x0 &&& (2147483647 : Int32)) % (19 : Int32))), .unset] []) _
  generalize h_ii : ((x0 &&& (2147483647 : Int32)) % (19 : Int32)) = ii
  have hq := own_rem (x := x0 &&& 2147483647) (y := 19) (own_mask31 x0).1 (by decide)
  rw [h_ii, k19] at hq
  have hi1 : ¬ ii < 0 := by rw [own_lt, k0]; omega
  have hi2 : ii < 19 := by rw [own_lt, k19]; omega
  obtain ⟨cl, A, -, Sz, -, H, -⟩ := V_ad1
  have Hat : ∀ j : Int32, ¬ j < 0 → j < 19 → cl.slots[j.toNatClampNeg]? = some (.ref (aF j)) := by
    intro j h1 h2
    rcases own_19 h1 h2 with rfl | rfl | rfl | rfl | rfl | rfl | rfl | rfl | rfl | rfl | rfl | rfl | rfl | rfl | rfl | rfl | rfl | rfl | rfl
    · exact H 0 (by rw [Sz]; decide)
    · exact H 1 (by rw [Sz]; decide)
    · exact H 2 (by rw [Sz]; decide)
    · exact H 3 (by rw [Sz]; decide)
    · exact H 4 (by rw [Sz]; decide)
    · exact H 5 (by rw [Sz]; decide)
    · exact H 6 (by rw [Sz]; decide)
    · exact H 7 (by rw [Sz]; decide)
    · exact H 8 (by rw [Sz]; decide)
    · exact H 9 (by rw [Sz]; decide)
    · exact H 10 (by rw [Sz]; decide)
    · exact H 11 (by rw [Sz]; decide)
    · exact H 12 (by rw [Sz]; decide)
    · exact H 13 (by rw [Sz]; decide)
    · exact H 14 (by rw [Sz]; decide)
    · exact H 15 (by rw [Sz]; decide)
    · exact H 16 (by rw [Sz]; decide)
    · exact H 17 (by rw [Sz]; decide)
    · exact H 18 (by rw [Sz]; decide)
  have Ei := (HE ii hi1 hi2).1.ext OL.2
  refine Go.of (fun _ k => XS.iloadN X39.here hx rfl (hb hby at_141) rfl  k) ?_
  show Go p e below T39 (mkF m 142 #[.val (.int x0), .val (.ref ad1), .val (.int ii), .unset] [(.int ii)]) _
  refine Go.of (fun _ k => XS.bipush X39.here hx rfl (hb hby at_142) k) ?_
  show Go p e below T39 (mkF m 144 #[.val (.int x0), .val (.ref ad1), .val (.int ii), .unset] [(.int (9 : Int32)), (.int ii)]) _
  by_cases hc144_0 : ii = (9 : Int32)
  · refine Go.of (fun _ k => XS.icmpYes X39.here hx rfl (pc0 := 144) (pc' := 165) rfl (hb hby at_144) rfl (teq hc144_0).1 (by decide) (by decide) k) ?_
    show Go p e below T39 (mkF m 165 #[.val (.int x0), .val (.ref ad1), .val (.int ii), .unset] []) _
    refine Go.of (fun _ k => XS.iconst X39.here hx rfl (hb hby at_165) k) ?_
    show Go p e below T39 (mkF m 166 #[.val (.int x0), .val (.ref ad1), .val (.int ii), .unset] [(.int (1 : Int32))]) _
    refine Go.of (fun _ k => XS.goto X39.here hx rfl (pc0 := 166) (pc' := 170) rfl (hb hby at_166) (by decide) (by decide) k) ?_
    show Go p e below T39 (mkF m 170 #[.val (.int x0), .val (.ref ad1), .val (.int ii), .unset] [(.int (1 : Int32))]) _
    refine Go.of (fun _ k => XS.istoreN X39.here hx rfl (hb hby at_170) rfl (l' := #[.val (.int x0), .val (.ref ad1), .val (.int ii), .val (.int (1 : Int32))]) rfl k) ?_
    show Go p e below T39 (mkF m 171 #[.val (.int x0), .val (.ref ad1), .val (.int ii), .val (.int (1 : Int32))] []) _
    refine Go.of (fun _ k => XS.aloadN X39.here hx rfl (hb hby at_171) rfl rfl  k) ?_
    show Go p e below T39 (mkF m 172 #[.val (.int x0), .val (.ref ad1), .val (.int ii), .val (.int (1 : Int32))] [(.ref ad1)]) _
    refine Go.of (fun _ k => XS.iloadN X39.here hx rfl (hb hby at_172) rfl  k) ?_
    show Go p e below T39 (mkF m 173 #[.val (.int x0), .val (.ref ad1), .val (.int ii), .val (.int (1 : Int32))] [(.int ii), (.ref ad1)]) _
    refine Go.of (fun _ k => X39.aaload hx (j := ii) (v := (.ref (aF ii))) (by rw [e39]; exact A.1) (State.isArrayOf_alike hZ.alike A.2.1) rfl A.2.2 (inb_of (z := 19) Sz ⟨hi1, hi2⟩) (Hat _ hi1 hi2) (g := (mkF m 173 #[.val (.int x0), .val (.ref ad1), .val (.int ii), .val (.int (1 : Int32))] [(.int ii), (.ref ad1)])) rfl rfl (hb hby at_173) _ k) ?_
    show Go p e below T39 (mkF m 174 #[.val (.int x0), .val (.ref ad1), .val (.int ii), .val (.int (1 : Int32))] [(.ref (aF ii))]) _
    obtain ⟨cq40, kq40, q40a, q40b, q40c⟩ := isOf hZ e39 Ei
    obtain ⟨_, _, ⟨T40, L40, kq40, nq40⟩, -, X40, ⟨Lc40, hQ40, l40, y40, z40⟩, st40⟩ := X39.virtualBack hx (y := (⟨"com/example/ballotwise/ballotwise/kv/Command$Kind", "settlesClaims", "()Z"⟩ : MethodName)) (z := (⟨"com/example/ballotwise/ballotwise/kv/Command$Kind", "settlesClaims", "()Z"⟩ : MethodName)) hown (mvT hZ (hw _ (List.mem_of_getElem? (i := 43) rfl))) (mvT hZ (hw _ (List.mem_of_getElem? (i := 44) rfl))) (notFace_of_selects (args := #[]) (mvT hZ (hw _ (List.mem_of_getElem? (i := 46) rfl)))) (mvT hZ (hw _ (List.mem_of_getElem? (i := 46) rfl))) (mvT hZ (hw _ (List.mem_of_getElem? (i := 45) rfl))) (by decide) (backOf (W := 0) (rm1 l Z a0 hw [] (aF ii) ii aF h39 n0 Z0 rfl hi1 hi2 OL HE S13 S14 S9 S10) hZ (hw _ (List.mem_of_getElem? (i := 47) rfl)) (hw _ (List.mem_of_getElem? (i := 3) rfl)) (by decide) (by decide)) q40a q40c (g := (mkF m 174 #[.val (.int x0), .val (.ref ad1), .val (.int ii), .val (.int (1 : Int32))] [(.ref (aF ii))])) rfl (by rw [hml]; rfl) (Steps.refl _) (argsL := []) (rest := []) (lenOf own_pd0 rfl) rfl (by show 2 * 0 + _ ≤ _; exact Nat.le_of_eq rfl) (hb hby at_174) (fun _ _ => ⟨rfl, e39, (by decide : 1 + 0 ≤ _), (by decide : 19 + 0 ≤ _)⟩)
    dsimp only [Pt.U, Pt.locs, Pt.cells, Pt.slots] at X40 l40 y40 z40 st40 hQ40
    subst l40 y40 z40
    obtain ⟨rfl, Nq40, e40⟩ := hQ40
    have e40 := e40.trans rfl
    have N40 := Fr.app N39 Nq40
    refine Go.of (fun _ k => st40.trans k) ?_
    show Go p e below T40 (mkF m 177 #[.val (.int x0), .val (.ref ad1), .val (.int ii), .val (.int (1 : Int32))] [(.int (fS ii))]) _
    refine Go.of (fun _ k => XS.iloadN X40.here hx rfl (hb hby at_177) rfl  k) ?_
    show Go p e below T40 (mkF m 178 #[.val (.int x0), .val (.ref ad1), .val (.int ii), .val (.int (1 : Int32))] [(.int (1 : Int32)), (.int (fS ii))]) _
    refine Go.of (fun _ k => XS.icmpNo X40.here hx rfl (hb hby at_178) rfl (teq (show (fS ii) = (1 : Int32) from (by simp [fS, *]))).2 k) ?_
    show Go p e below T40 (mkF m 181 #[.val (.int x0), .val (.ref ad1), .val (.int ii), .val (.int (1 : Int32))] []) _
    refine Go.of (fun _ k => XS.iconst X40.here hx rfl (hb hby at_181) k) ?_
    show Go p e below T40 (mkF m 182 #[.val (.int x0), .val (.ref ad1), .val (.int ii), .val (.int (1 : Int32))] [(.int (1 : Int32))]) _
    refine Go.of (fun _ k => XS.goto X40.here hx rfl (pc0 := 182) (pc' := 186) rfl (hb hby at_182) (by decide) (by decide) k) ?_
    show Go p e below T40 (mkF m 186 #[.val (.int x0), .val (.ref ad1), .val (.int ii), .val (.int (1 : Int32))] [(.int (1 : Int32))]) _
    refine Go.retN X40 hx (t := .boolean) hret hlk (by simp) (hb hby at_186) e40 (by decide) (by decide) ?_
    exact ⟨rfl, N40⟩
  · refine Go.of (fun _ k => XS.icmpNo X39.here hx rfl (hb hby at_144) rfl (feq hc144_0).1 k) ?_
    show Go p e below T39 (mkF m 147 #[.val (.int x0), .val (.ref ad1), .val (.int ii), .unset] []) _
    refine Go.of (fun _ k => XS.iloadN X39.here hx rfl (hb hby at_147) rfl  k) ?_
    show Go p e below T39 (mkF m 148 #[.val (.int x0), .val (.ref ad1), .val (.int ii), .unset] [(.int ii)]) _
    refine Go.of (fun _ k => XS.bipush X39.here hx rfl (hb hby at_148) k) ?_
    show Go p e below T39 (mkF m 150 #[.val (.int x0), .val (.ref ad1), .val (.int ii), .unset] [(.int (10 : Int32)), (.int ii)]) _
    by_cases hc150_1 : ii = (10 : Int32)
    · refine Go.of (fun _ k => XS.icmpYes X39.here hx rfl (pc0 := 150) (pc' := 165) rfl (hb hby at_150) rfl (teq hc150_1).1 (by decide) (by decide) k) ?_
      show Go p e below T39 (mkF m 165 #[.val (.int x0), .val (.ref ad1), .val (.int ii), .unset] []) _
      refine Go.of (fun _ k => XS.iconst X39.here hx rfl (hb hby at_165) k) ?_
      show Go p e below T39 (mkF m 166 #[.val (.int x0), .val (.ref ad1), .val (.int ii), .unset] [(.int (1 : Int32))]) _
      refine Go.of (fun _ k => XS.goto X39.here hx rfl (pc0 := 166) (pc' := 170) rfl (hb hby at_166) (by decide) (by decide) k) ?_
      show Go p e below T39 (mkF m 170 #[.val (.int x0), .val (.ref ad1), .val (.int ii), .unset] [(.int (1 : Int32))]) _
      refine Go.of (fun _ k => XS.istoreN X39.here hx rfl (hb hby at_170) rfl (l' := #[.val (.int x0), .val (.ref ad1), .val (.int ii), .val (.int (1 : Int32))]) rfl k) ?_
      show Go p e below T39 (mkF m 171 #[.val (.int x0), .val (.ref ad1), .val (.int ii), .val (.int (1 : Int32))] []) _
      refine Go.of (fun _ k => XS.aloadN X39.here hx rfl (hb hby at_171) rfl rfl  k) ?_
      show Go p e below T39 (mkF m 172 #[.val (.int x0), .val (.ref ad1), .val (.int ii), .val (.int (1 : Int32))] [(.ref ad1)]) _
      refine Go.of (fun _ k => XS.iloadN X39.here hx rfl (hb hby at_172) rfl  k) ?_
      show Go p e below T39 (mkF m 173 #[.val (.int x0), .val (.ref ad1), .val (.int ii), .val (.int (1 : Int32))] [(.int ii), (.ref ad1)]) _
      refine Go.of (fun _ k => X39.aaload hx (j := ii) (v := (.ref (aF ii))) (by rw [e39]; exact A.1) (State.isArrayOf_alike hZ.alike A.2.1) rfl A.2.2 (inb_of (z := 19) Sz ⟨hi1, hi2⟩) (Hat _ hi1 hi2) (g := (mkF m 173 #[.val (.int x0), .val (.ref ad1), .val (.int ii), .val (.int (1 : Int32))] [(.int ii), (.ref ad1)])) rfl rfl (hb hby at_173) _ k) ?_
      show Go p e below T39 (mkF m 174 #[.val (.int x0), .val (.ref ad1), .val (.int ii), .val (.int (1 : Int32))] [(.ref (aF ii))]) _
      obtain ⟨cq41, kq41, q41a, q41b, q41c⟩ := isOf hZ e39 Ei
      obtain ⟨_, _, ⟨T41, L41, kq41, nq41⟩, -, X41, ⟨Lc41, hQ41, l41, y41, z41⟩, st41⟩ := X39.virtualBack hx (y := (⟨"com/example/ballotwise/ballotwise/kv/Command$Kind", "settlesClaims", "()Z"⟩ : MethodName)) (z := (⟨"com/example/ballotwise/ballotwise/kv/Command$Kind", "settlesClaims", "()Z"⟩ : MethodName)) hown (mvT hZ (hw _ (List.mem_of_getElem? (i := 43) rfl))) (mvT hZ (hw _ (List.mem_of_getElem? (i := 44) rfl))) (notFace_of_selects (args := #[]) (mvT hZ (hw _ (List.mem_of_getElem? (i := 46) rfl)))) (mvT hZ (hw _ (List.mem_of_getElem? (i := 46) rfl))) (mvT hZ (hw _ (List.mem_of_getElem? (i := 45) rfl))) (by decide) (backOf (W := 0) (rm1 l Z a0 hw [] (aF ii) ii aF h39 n0 Z0 rfl hi1 hi2 OL HE S13 S14 S9 S10) hZ (hw _ (List.mem_of_getElem? (i := 47) rfl)) (hw _ (List.mem_of_getElem? (i := 3) rfl)) (by decide) (by decide)) q41a q41c (g := (mkF m 174 #[.val (.int x0), .val (.ref ad1), .val (.int ii), .val (.int (1 : Int32))] [(.ref (aF ii))])) rfl (by rw [hml]; rfl) (Steps.refl _) (argsL := []) (rest := []) (lenOf own_pd0 rfl) rfl (by show 2 * 0 + _ ≤ _; exact Nat.le_of_eq rfl) (hb hby at_174) (fun _ _ => ⟨rfl, e39, (by decide : 1 + 0 ≤ _), (by decide : 19 + 0 ≤ _)⟩)
      dsimp only [Pt.U, Pt.locs, Pt.cells, Pt.slots] at X41 l41 y41 z41 st41 hQ41
      subst l41 y41 z41
      obtain ⟨rfl, Nq41, e41⟩ := hQ41
      have e41 := e41.trans rfl
      have N41 := Fr.app N39 Nq41
      refine Go.of (fun _ k => st41.trans k) ?_
      show Go p e below T41 (mkF m 177 #[.val (.int x0), .val (.ref ad1), .val (.int ii), .val (.int (1 : Int32))] [(.int (fS ii))]) _
      refine Go.of (fun _ k => XS.iloadN X41.here hx rfl (hb hby at_177) rfl  k) ?_
      show Go p e below T41 (mkF m 178 #[.val (.int x0), .val (.ref ad1), .val (.int ii), .val (.int (1 : Int32))] [(.int (1 : Int32)), (.int (fS ii))]) _
      refine Go.of (fun _ k => XS.icmpNo X41.here hx rfl (hb hby at_178) rfl (teq (show (fS ii) = (1 : Int32) from (by simp [fS, *]))).2 k) ?_
      show Go p e below T41 (mkF m 181 #[.val (.int x0), .val (.ref ad1), .val (.int ii), .val (.int (1 : Int32))] []) _
      refine Go.of (fun _ k => XS.iconst X41.here hx rfl (hb hby at_181) k) ?_
      show Go p e below T41 (mkF m 182 #[.val (.int x0), .val (.ref ad1), .val (.int ii), .val (.int (1 : Int32))] [(.int (1 : Int32))]) _
      refine Go.of (fun _ k => XS.goto X41.here hx rfl (pc0 := 182) (pc' := 186) rfl (hb hby at_182) (by decide) (by decide) k) ?_
      show Go p e below T41 (mkF m 186 #[.val (.int x0), .val (.ref ad1), .val (.int ii), .val (.int (1 : Int32))] [(.int (1 : Int32))]) _
      refine Go.retN X41 hx (t := .boolean) hret hlk (by simp) (hb hby at_186) e41 (by decide) (by decide) ?_
      exact ⟨rfl, N41⟩
    · refine Go.of (fun _ k => XS.icmpNo X39.here hx rfl (hb hby at_150) rfl (feq hc150_1).1 k) ?_
      show Go p e below T39 (mkF m 153 #[.val (.int x0), .val (.ref ad1), .val (.int ii), .unset] []) _
      refine Go.of (fun _ k => XS.iloadN X39.here hx rfl (hb hby at_153) rfl  k) ?_
      show Go p e below T39 (mkF m 154 #[.val (.int x0), .val (.ref ad1), .val (.int ii), .unset] [(.int ii)]) _
      refine Go.of (fun _ k => XS.bipush X39.here hx rfl (hb hby at_154) k) ?_
      show Go p e below T39 (mkF m 156 #[.val (.int x0), .val (.ref ad1), .val (.int ii), .unset] [(.int (13 : Int32)), (.int ii)]) _
      by_cases hc156_2 : ii = (13 : Int32)
      · refine Go.of (fun _ k => XS.icmpYes X39.here hx rfl (pc0 := 156) (pc' := 165) rfl (hb hby at_156) rfl (teq hc156_2).1 (by decide) (by decide) k) ?_
        show Go p e below T39 (mkF m 165 #[.val (.int x0), .val (.ref ad1), .val (.int ii), .unset] []) _
        refine Go.of (fun _ k => XS.iconst X39.here hx rfl (hb hby at_165) k) ?_
        show Go p e below T39 (mkF m 166 #[.val (.int x0), .val (.ref ad1), .val (.int ii), .unset] [(.int (1 : Int32))]) _
        refine Go.of (fun _ k => XS.goto X39.here hx rfl (pc0 := 166) (pc' := 170) rfl (hb hby at_166) (by decide) (by decide) k) ?_
        show Go p e below T39 (mkF m 170 #[.val (.int x0), .val (.ref ad1), .val (.int ii), .unset] [(.int (1 : Int32))]) _
        refine Go.of (fun _ k => XS.istoreN X39.here hx rfl (hb hby at_170) rfl (l' := #[.val (.int x0), .val (.ref ad1), .val (.int ii), .val (.int (1 : Int32))]) rfl k) ?_
        show Go p e below T39 (mkF m 171 #[.val (.int x0), .val (.ref ad1), .val (.int ii), .val (.int (1 : Int32))] []) _
        refine Go.of (fun _ k => XS.aloadN X39.here hx rfl (hb hby at_171) rfl rfl  k) ?_
        show Go p e below T39 (mkF m 172 #[.val (.int x0), .val (.ref ad1), .val (.int ii), .val (.int (1 : Int32))] [(.ref ad1)]) _
        refine Go.of (fun _ k => XS.iloadN X39.here hx rfl (hb hby at_172) rfl  k) ?_
        show Go p e below T39 (mkF m 173 #[.val (.int x0), .val (.ref ad1), .val (.int ii), .val (.int (1 : Int32))] [(.int ii), (.ref ad1)]) _
        refine Go.of (fun _ k => X39.aaload hx (j := ii) (v := (.ref (aF ii))) (by rw [e39]; exact A.1) (State.isArrayOf_alike hZ.alike A.2.1) rfl A.2.2 (inb_of (z := 19) Sz ⟨hi1, hi2⟩) (Hat _ hi1 hi2) (g := (mkF m 173 #[.val (.int x0), .val (.ref ad1), .val (.int ii), .val (.int (1 : Int32))] [(.int ii), (.ref ad1)])) rfl rfl (hb hby at_173) _ k) ?_
        show Go p e below T39 (mkF m 174 #[.val (.int x0), .val (.ref ad1), .val (.int ii), .val (.int (1 : Int32))] [(.ref (aF ii))]) _
        obtain ⟨cq42, kq42, q42a, q42b, q42c⟩ := isOf hZ e39 Ei
        obtain ⟨_, _, ⟨T42, L42, kq42, nq42⟩, -, X42, ⟨Lc42, hQ42, l42, y42, z42⟩, st42⟩ := X39.virtualBack hx (y := (⟨"com/example/ballotwise/ballotwise/kv/Command$Kind", "settlesClaims", "()Z"⟩ : MethodName)) (z := (⟨"com/example/ballotwise/ballotwise/kv/Command$Kind", "settlesClaims", "()Z"⟩ : MethodName)) hown (mvT hZ (hw _ (List.mem_of_getElem? (i := 43) rfl))) (mvT hZ (hw _ (List.mem_of_getElem? (i := 44) rfl))) (notFace_of_selects (args := #[]) (mvT hZ (hw _ (List.mem_of_getElem? (i := 46) rfl)))) (mvT hZ (hw _ (List.mem_of_getElem? (i := 46) rfl))) (mvT hZ (hw _ (List.mem_of_getElem? (i := 45) rfl))) (by decide) (backOf (W := 0) (rm1 l Z a0 hw [] (aF ii) ii aF h39 n0 Z0 rfl hi1 hi2 OL HE S13 S14 S9 S10) hZ (hw _ (List.mem_of_getElem? (i := 47) rfl)) (hw _ (List.mem_of_getElem? (i := 3) rfl)) (by decide) (by decide)) q42a q42c (g := (mkF m 174 #[.val (.int x0), .val (.ref ad1), .val (.int ii), .val (.int (1 : Int32))] [(.ref (aF ii))])) rfl (by rw [hml]; rfl) (Steps.refl _) (argsL := []) (rest := []) (lenOf own_pd0 rfl) rfl (by show 2 * 0 + _ ≤ _; exact Nat.le_of_eq rfl) (hb hby at_174) (fun _ _ => ⟨rfl, e39, (by decide : 1 + 0 ≤ _), (by decide : 19 + 0 ≤ _)⟩)
        dsimp only [Pt.U, Pt.locs, Pt.cells, Pt.slots] at X42 l42 y42 z42 st42 hQ42
        subst l42 y42 z42
        obtain ⟨rfl, Nq42, e42⟩ := hQ42
        have e42 := e42.trans rfl
        have N42 := Fr.app N39 Nq42
        refine Go.of (fun _ k => st42.trans k) ?_
        show Go p e below T42 (mkF m 177 #[.val (.int x0), .val (.ref ad1), .val (.int ii), .val (.int (1 : Int32))] [(.int (fS ii))]) _
        refine Go.of (fun _ k => XS.iloadN X42.here hx rfl (hb hby at_177) rfl  k) ?_
        show Go p e below T42 (mkF m 178 #[.val (.int x0), .val (.ref ad1), .val (.int ii), .val (.int (1 : Int32))] [(.int (1 : Int32)), (.int (fS ii))]) _
        refine Go.of (fun _ k => XS.icmpNo X42.here hx rfl (hb hby at_178) rfl (teq (show (fS ii) = (1 : Int32) from (by simp [fS, *]))).2 k) ?_
        show Go p e below T42 (mkF m 181 #[.val (.int x0), .val (.ref ad1), .val (.int ii), .val (.int (1 : Int32))] []) _
        refine Go.of (fun _ k => XS.iconst X42.here hx rfl (hb hby at_181) k) ?_
        show Go p e below T42 (mkF m 182 #[.val (.int x0), .val (.ref ad1), .val (.int ii), .val (.int (1 : Int32))] [(.int (1 : Int32))]) _
        refine Go.of (fun _ k => XS.goto X42.here hx rfl (pc0 := 182) (pc' := 186) rfl (hb hby at_182) (by decide) (by decide) k) ?_
        show Go p e below T42 (mkF m 186 #[.val (.int x0), .val (.ref ad1), .val (.int ii), .val (.int (1 : Int32))] [(.int (1 : Int32))]) _
        refine Go.retN X42 hx (t := .boolean) hret hlk (by simp) (hb hby at_186) e42 (by decide) (by decide) ?_
        exact ⟨rfl, N42⟩
      · refine Go.of (fun _ k => XS.icmpNo X39.here hx rfl (hb hby at_156) rfl (feq hc156_2).1 k) ?_
        show Go p e below T39 (mkF m 159 #[.val (.int x0), .val (.ref ad1), .val (.int ii), .unset] []) _
        refine Go.of (fun _ k => XS.iloadN X39.here hx rfl (hb hby at_159) rfl  k) ?_
        show Go p e below T39 (mkF m 160 #[.val (.int x0), .val (.ref ad1), .val (.int ii), .unset] [(.int ii)]) _
        refine Go.of (fun _ k => XS.bipush X39.here hx rfl (hb hby at_160) k) ?_
        show Go p e below T39 (mkF m 162 #[.val (.int x0), .val (.ref ad1), .val (.int ii), .unset] [(.int (14 : Int32)), (.int ii)]) _
        by_cases hc162_3 : ii = (14 : Int32)
        · refine Go.of (fun _ k => XS.icmpNo X39.here hx rfl (hb hby at_162) rfl (teq hc162_3).2 k) ?_
          show Go p e below T39 (mkF m 165 #[.val (.int x0), .val (.ref ad1), .val (.int ii), .unset] []) _
          refine Go.of (fun _ k => XS.iconst X39.here hx rfl (hb hby at_165) k) ?_
          show Go p e below T39 (mkF m 166 #[.val (.int x0), .val (.ref ad1), .val (.int ii), .unset] [(.int (1 : Int32))]) _
          refine Go.of (fun _ k => XS.goto X39.here hx rfl (pc0 := 166) (pc' := 170) rfl (hb hby at_166) (by decide) (by decide) k) ?_
          show Go p e below T39 (mkF m 170 #[.val (.int x0), .val (.ref ad1), .val (.int ii), .unset] [(.int (1 : Int32))]) _
          refine Go.of (fun _ k => XS.istoreN X39.here hx rfl (hb hby at_170) rfl (l' := #[.val (.int x0), .val (.ref ad1), .val (.int ii), .val (.int (1 : Int32))]) rfl k) ?_
          show Go p e below T39 (mkF m 171 #[.val (.int x0), .val (.ref ad1), .val (.int ii), .val (.int (1 : Int32))] []) _
          refine Go.of (fun _ k => XS.aloadN X39.here hx rfl (hb hby at_171) rfl rfl  k) ?_
          show Go p e below T39 (mkF m 172 #[.val (.int x0), .val (.ref ad1), .val (.int ii), .val (.int (1 : Int32))] [(.ref ad1)]) _
          refine Go.of (fun _ k => XS.iloadN X39.here hx rfl (hb hby at_172) rfl  k) ?_
          show Go p e below T39 (mkF m 173 #[.val (.int x0), .val (.ref ad1), .val (.int ii), .val (.int (1 : Int32))] [(.int ii), (.ref ad1)]) _
          refine Go.of (fun _ k => X39.aaload hx (j := ii) (v := (.ref (aF ii))) (by rw [e39]; exact A.1) (State.isArrayOf_alike hZ.alike A.2.1) rfl A.2.2 (inb_of (z := 19) Sz ⟨hi1, hi2⟩) (Hat _ hi1 hi2) (g := (mkF m 173 #[.val (.int x0), .val (.ref ad1), .val (.int ii), .val (.int (1 : Int32))] [(.int ii), (.ref ad1)])) rfl rfl (hb hby at_173) _ k) ?_
          show Go p e below T39 (mkF m 174 #[.val (.int x0), .val (.ref ad1), .val (.int ii), .val (.int (1 : Int32))] [(.ref (aF ii))]) _
          obtain ⟨cq43, kq43, q43a, q43b, q43c⟩ := isOf hZ e39 Ei
          obtain ⟨_, _, ⟨T43, L43, kq43, nq43⟩, -, X43, ⟨Lc43, hQ43, l43, y43, z43⟩, st43⟩ := X39.virtualBack hx (y := (⟨"com/example/ballotwise/ballotwise/kv/Command$Kind", "settlesClaims", "()Z"⟩ : MethodName)) (z := (⟨"com/example/ballotwise/ballotwise/kv/Command$Kind", "settlesClaims", "()Z"⟩ : MethodName)) hown (mvT hZ (hw _ (List.mem_of_getElem? (i := 43) rfl))) (mvT hZ (hw _ (List.mem_of_getElem? (i := 44) rfl))) (notFace_of_selects (args := #[]) (mvT hZ (hw _ (List.mem_of_getElem? (i := 46) rfl)))) (mvT hZ (hw _ (List.mem_of_getElem? (i := 46) rfl))) (mvT hZ (hw _ (List.mem_of_getElem? (i := 45) rfl))) (by decide) (backOf (W := 0) (rm1 l Z a0 hw [] (aF ii) ii aF h39 n0 Z0 rfl hi1 hi2 OL HE S13 S14 S9 S10) hZ (hw _ (List.mem_of_getElem? (i := 47) rfl)) (hw _ (List.mem_of_getElem? (i := 3) rfl)) (by decide) (by decide)) q43a q43c (g := (mkF m 174 #[.val (.int x0), .val (.ref ad1), .val (.int ii), .val (.int (1 : Int32))] [(.ref (aF ii))])) rfl (by rw [hml]; rfl) (Steps.refl _) (argsL := []) (rest := []) (lenOf own_pd0 rfl) rfl (by show 2 * 0 + _ ≤ _; exact Nat.le_of_eq rfl) (hb hby at_174) (fun _ _ => ⟨rfl, e39, (by decide : 1 + 0 ≤ _), (by decide : 19 + 0 ≤ _)⟩)
          dsimp only [Pt.U, Pt.locs, Pt.cells, Pt.slots] at X43 l43 y43 z43 st43 hQ43
          subst l43 y43 z43
          obtain ⟨rfl, Nq43, e43⟩ := hQ43
          have e43 := e43.trans rfl
          have N43 := Fr.app N39 Nq43
          refine Go.of (fun _ k => st43.trans k) ?_
          show Go p e below T43 (mkF m 177 #[.val (.int x0), .val (.ref ad1), .val (.int ii), .val (.int (1 : Int32))] [(.int (fS ii))]) _
          refine Go.of (fun _ k => XS.iloadN X43.here hx rfl (hb hby at_177) rfl  k) ?_
          show Go p e below T43 (mkF m 178 #[.val (.int x0), .val (.ref ad1), .val (.int ii), .val (.int (1 : Int32))] [(.int (1 : Int32)), (.int (fS ii))]) _
          refine Go.of (fun _ k => XS.icmpNo X43.here hx rfl (hb hby at_178) rfl (teq (show (fS ii) = (1 : Int32) from (by simp [fS, *]))).2 k) ?_
          show Go p e below T43 (mkF m 181 #[.val (.int x0), .val (.ref ad1), .val (.int ii), .val (.int (1 : Int32))] []) _
          refine Go.of (fun _ k => XS.iconst X43.here hx rfl (hb hby at_181) k) ?_
          show Go p e below T43 (mkF m 182 #[.val (.int x0), .val (.ref ad1), .val (.int ii), .val (.int (1 : Int32))] [(.int (1 : Int32))]) _
          refine Go.of (fun _ k => XS.goto X43.here hx rfl (pc0 := 182) (pc' := 186) rfl (hb hby at_182) (by decide) (by decide) k) ?_
          show Go p e below T43 (mkF m 186 #[.val (.int x0), .val (.ref ad1), .val (.int ii), .val (.int (1 : Int32))] [(.int (1 : Int32))]) _
          refine Go.retN X43 hx (t := .boolean) hret hlk (by simp) (hb hby at_186) e43 (by decide) (by decide) ?_
          exact ⟨rfl, N43⟩
        · refine Go.of (fun _ k => XS.icmpYes X39.here hx rfl (pc0 := 162) (pc' := 169) rfl (hb hby at_162) rfl (feq hc162_3).2 (by decide) (by decide) k) ?_
          show Go p e below T39 (mkF m 169 #[.val (.int x0), .val (.ref ad1), .val (.int ii), .unset] []) _
          refine Go.of (fun _ k => XS.iconst X39.here hx rfl (hb hby at_169) k) ?_
          show Go p e below T39 (mkF m 170 #[.val (.int x0), .val (.ref ad1), .val (.int ii), .unset] [(.int (0 : Int32))]) _
          refine Go.of (fun _ k => XS.istoreN X39.here hx rfl (hb hby at_170) rfl (l' := #[.val (.int x0), .val (.ref ad1), .val (.int ii), .val (.int (0 : Int32))]) rfl k) ?_
          show Go p e below T39 (mkF m 171 #[.val (.int x0), .val (.ref ad1), .val (.int ii), .val (.int (0 : Int32))] []) _
          refine Go.of (fun _ k => XS.aloadN X39.here hx rfl (hb hby at_171) rfl rfl  k) ?_
          show Go p e below T39 (mkF m 172 #[.val (.int x0), .val (.ref ad1), .val (.int ii), .val (.int (0 : Int32))] [(.ref ad1)]) _
          refine Go.of (fun _ k => XS.iloadN X39.here hx rfl (hb hby at_172) rfl  k) ?_
          show Go p e below T39 (mkF m 173 #[.val (.int x0), .val (.ref ad1), .val (.int ii), .val (.int (0 : Int32))] [(.int ii), (.ref ad1)]) _
          refine Go.of (fun _ k => X39.aaload hx (j := ii) (v := (.ref (aF ii))) (by rw [e39]; exact A.1) (State.isArrayOf_alike hZ.alike A.2.1) rfl A.2.2 (inb_of (z := 19) Sz ⟨hi1, hi2⟩) (Hat _ hi1 hi2) (g := (mkF m 173 #[.val (.int x0), .val (.ref ad1), .val (.int ii), .val (.int (0 : Int32))] [(.int ii), (.ref ad1)])) rfl rfl (hb hby at_173) _ k) ?_
          show Go p e below T39 (mkF m 174 #[.val (.int x0), .val (.ref ad1), .val (.int ii), .val (.int (0 : Int32))] [(.ref (aF ii))]) _
          obtain ⟨cq44, kq44, q44a, q44b, q44c⟩ := isOf hZ e39 Ei
          obtain ⟨_, _, ⟨T44, L44, kq44, nq44⟩, -, X44, ⟨Lc44, hQ44, l44, y44, z44⟩, st44⟩ := X39.virtualBack hx (y := (⟨"com/example/ballotwise/ballotwise/kv/Command$Kind", "settlesClaims", "()Z"⟩ : MethodName)) (z := (⟨"com/example/ballotwise/ballotwise/kv/Command$Kind", "settlesClaims", "()Z"⟩ : MethodName)) hown (mvT hZ (hw _ (List.mem_of_getElem? (i := 43) rfl))) (mvT hZ (hw _ (List.mem_of_getElem? (i := 44) rfl))) (notFace_of_selects (args := #[]) (mvT hZ (hw _ (List.mem_of_getElem? (i := 46) rfl)))) (mvT hZ (hw _ (List.mem_of_getElem? (i := 46) rfl))) (mvT hZ (hw _ (List.mem_of_getElem? (i := 45) rfl))) (by decide) (backOf (W := 0) (rm1 l Z a0 hw [] (aF ii) ii aF h39 n0 Z0 rfl hi1 hi2 OL HE S13 S14 S9 S10) hZ (hw _ (List.mem_of_getElem? (i := 47) rfl)) (hw _ (List.mem_of_getElem? (i := 3) rfl)) (by decide) (by decide)) q44a q44c (g := (mkF m 174 #[.val (.int x0), .val (.ref ad1), .val (.int ii), .val (.int (0 : Int32))] [(.ref (aF ii))])) rfl (by rw [hml]; rfl) (Steps.refl _) (argsL := []) (rest := []) (lenOf own_pd0 rfl) rfl (by show 2 * 0 + _ ≤ _; exact Nat.le_of_eq rfl) (hb hby at_174) (fun _ _ => ⟨rfl, e39, (by decide : 1 + 0 ≤ _), (by decide : 19 + 0 ≤ _)⟩)
          dsimp only [Pt.U, Pt.locs, Pt.cells, Pt.slots] at X44 l44 y44 z44 st44 hQ44
          subst l44 y44 z44
          obtain ⟨rfl, Nq44, e44⟩ := hQ44
          have e44 := e44.trans rfl
          have N44 := Fr.app N39 Nq44
          refine Go.of (fun _ k => st44.trans k) ?_
          show Go p e below T44 (mkF m 177 #[.val (.int x0), .val (.ref ad1), .val (.int ii), .val (.int (0 : Int32))] [(.int (fS ii))]) _
          refine Go.of (fun _ k => XS.iloadN X44.here hx rfl (hb hby at_177) rfl  k) ?_
          show Go p e below T44 (mkF m 178 #[.val (.int x0), .val (.ref ad1), .val (.int ii), .val (.int (0 : Int32))] [(.int (0 : Int32)), (.int (fS ii))]) _
          refine Go.of (fun _ k => XS.icmpNo X44.here hx rfl (hb hby at_178) rfl (teq (show (fS ii) = (0 : Int32) from (by simp [fS, *]))).2 k) ?_
          show Go p e below T44 (mkF m 181 #[.val (.int x0), .val (.ref ad1), .val (.int ii), .val (.int (0 : Int32))] []) _
          refine Go.of (fun _ k => XS.iconst X44.here hx rfl (hb hby at_181) k) ?_
          show Go p e below T44 (mkF m 182 #[.val (.int x0), .val (.ref ad1), .val (.int ii), .val (.int (0 : Int32))] [(.int (1 : Int32))]) _
          refine Go.of (fun _ k => XS.goto X44.here hx rfl (pc0 := 182) (pc' := 186) rfl (hb hby at_182) (by decide) (by decide) k) ?_
          show Go p e below T44 (mkF m 186 #[.val (.int x0), .val (.ref ad1), .val (.int ii), .val (.int (0 : Int32))] [(.int (1 : Int32))]) _
          refine Go.retN X44 hx (t := .boolean) hret hlk (by simp) (hb hby at_186) e44 (by decide) (by decide) ?_
          exact ⟨rfl, N44⟩
set_option maxRecDepth 65536 in
set_option maxHeartbeats 40000000 in
theorem comes_1 {Post : Tables → Env → Array Value → State → Outcome → State → Prop} (hpost : ∀ tb e args s v u, (limb_1_1.after args s (.returned v) u = true ∧ limb_1_2.after args s (.returned v) u = true ∧ True) → FrameEnd s (.returned v) u (Jvm.fieldLocs frame_1_writes args s ++ Jvm.arrayLocs frame_1_arrays args s ++ Jvm.staticLocs frame_1_statics s) 16 128 → Post tb e args s (.returned v) u) :
    ArmFor flags0 classFile x code maxLocals ret World_1 tables_1 room_1 Calls_1 rest_1 Pre_1 Post := by
  intro l hfl _ _ p e ha hc hk s m args below hf hA hF happ hP
  obtain ⟨hcalls, hrest, hpre⟩ := hP
  obtain ⟨-, -, -, hnamed, -, -, -, hat⟩ := (Spec.applies_iff hf).mp happ
  obtain ⟨hg, hn⟩ := and_e (Cond.before_iff.mp (show (Jvm.Cond.and given_1 narrow_1).before args s = true from hpre))
  obtain ⟨g1, g2⟩ := and_e hg
  obtain ⟨w0, rfl⟩ : ∃ w0 : Value, args = #[w0] := by
    have hs : args.size = 1 := by simpa [Cond.value, given_1] using g1
    obtain ⟨L⟩ := args
    match L, hs with
    | [w0], _ => exact ⟨w0, rfl⟩
  have hw := fun d (hd : d ∈ tables_1) => atoms_spec (ws := Jvm.Cond.code x code maxLocals ret :: tables_1) hat d (List.mem_cons_of_mem _ hd)
  have hfit : Fit s := fun {y c} hc i hi => by
    obtain ⟨ha, rfl⟩ := Array.getElem?_eq_some_iff.mp hc
    have q := List.all_eq_true.mp ((Array.all_eq_true_iff_forall_mem.mp hF) _ (Array.getElem_mem ha)) i (List.mem_range.mpr hi)
    simpa [Array.getElem?_eq_getElem hi] using q
  obtain ⟨i0, ei0⟩ := is_v g2
  obtain rfl : w0 = (.int i0) := Option.some.inj ei0
  obtain ⟨n0, m0⟩ := and_e hn
  obtain ⟨n1, m1⟩ := and_e m0
  obtain ⟨n2, m2⟩ := and_e m1
  obtain ⟨n3, m3⟩ := and_e m2
  obtain ⟨n4, m4⟩ := and_e m3
  obtain ⟨n5, m5⟩ := and_e m4
  obtain ⟨n6, m6⟩ := and_e m5
  obtain ⟨n7, m7⟩ := and_e m6
  obtain ⟨n8, m8⟩ := and_e m7
  obtain ⟨n9, m9⟩ := and_e m8
  obtain ⟨n10, m10⟩ := and_e m9
  obtain ⟨n11, m11⟩ := and_e m10
  obtain ⟨n12, m12⟩ := and_e m11
  obtain ⟨n13, m13⟩ := and_e m12
  obtain ⟨n14, m14⟩ := and_e m13
  obtain ⟨n15, m15⟩ := and_e m14
  obtain ⟨n16, m16⟩ := and_e m15
  obtain ⟨n17, m17⟩ := and_e m16
  obtain ⟨n18, m18⟩ := and_e m17
  obtain ⟨n19, m19⟩ := and_e m18
  obtain ⟨n20, m20⟩ := and_e m19
  obtain ⟨n21, m21⟩ := and_e m20
  obtain ⟨n22, m22⟩ := and_e m21
  obtain ⟨n23, m23⟩ := and_e m22
  obtain ⟨n24, m24⟩ := and_e m23
  obtain ⟨n25, m25⟩ := and_e m24
  obtain ⟨n26, m26⟩ := and_e m25
  obtain ⟨n27, m27⟩ := and_e m26
  obtain ⟨n28, m28⟩ := and_e m27
  obtain ⟨n29, m29⟩ := and_e m28
  obtain ⟨n30, m30⟩ := and_e m29
  obtain ⟨n31, m31⟩ := and_e m30
  obtain ⟨n32, m32⟩ := and_e m31
  obtain ⟨n33, m33⟩ := and_e m32
  obtain ⟨n34, m34⟩ := and_e m33
  obtain ⟨n35, m35⟩ := and_e m34
  obtain ⟨n36, m36⟩ := and_e m35
  obtain ⟨a_0, ea_0⟩ := exa_v n0
  have E_0 := Exa.start ea_0 n0
  have F_0 := Fld.start ((fld_at ea_0).symm.trans (eqv_i (Term.int_eval 0) n19))
  have S_0 := Sta.start ea_0 (Or.inr ⟨(hw _ (List.mem_of_getElem? (i := 3) rfl)), (hw _ (List.mem_of_getElem? (i := 4) rfl))⟩)
  obtain ⟨a_1, ea_1⟩ := exa_v n1
  have E_1 := Exa.start ea_1 n1
  have F_1 := Fld.start ((fld_at ea_1).symm.trans (eqv_i (Term.int_eval 1) n32))
  have S_1 := Sta.start ea_1 (Or.inr ⟨(hw _ (List.mem_of_getElem? (i := 3) rfl)), (hw _ (List.mem_of_getElem? (i := 7) rfl))⟩)
  obtain ⟨a_2, ea_2⟩ := exa_v n2
  have E_2 := Exa.start ea_2 n2
  have F_2 := Fld.start ((fld_at ea_2).symm.trans (eqv_i (Term.int_eval 2) n29))
  have S_2 := Sta.start ea_2 (Or.inr ⟨(hw _ (List.mem_of_getElem? (i := 3) rfl)), (hw _ (List.mem_of_getElem? (i := 9) rfl))⟩)
  obtain ⟨a_3, ea_3⟩ := exa_v n3
  have E_3 := Exa.start ea_3 n3
  have F_3 := Fld.start ((fld_at ea_3).symm.trans (eqv_i (Term.int_eval 3) n24))
  have S_3 := Sta.start ea_3 (Or.inr ⟨(hw _ (List.mem_of_getElem? (i := 3) rfl)), (hw _ (List.mem_of_getElem? (i := 11) rfl))⟩)
  obtain ⟨a_4, ea_4⟩ := exa_v n4
  have E_4 := Exa.start ea_4 n4
  have F_4 := Fld.start ((fld_at ea_4).symm.trans (eqv_i (Term.int_eval 4) n36))
  have S_4 := Sta.start ea_4 (Or.inr ⟨(hw _ (List.mem_of_getElem? (i := 3) rfl)), (hw _ (List.mem_of_getElem? (i := 13) rfl))⟩)
  obtain ⟨a_5, ea_5⟩ := exa_v n5
  have E_5 := Exa.start ea_5 n5
  have F_5 := Fld.start ((fld_at ea_5).symm.trans (eqv_i (Term.int_eval 5) n26))
  have S_5 := Sta.start ea_5 (Or.inr ⟨(hw _ (List.mem_of_getElem? (i := 3) rfl)), (hw _ (List.mem_of_getElem? (i := 15) rfl))⟩)
  obtain ⟨a_6, ea_6⟩ := exa_v n6
  have E_6 := Exa.start ea_6 n6
  have F_6 := Fld.start ((fld_at ea_6).symm.trans (eqv_i (Term.int_eval 6) n34))
  have S_6 := Sta.start ea_6 (Or.inr ⟨(hw _ (List.mem_of_getElem? (i := 3) rfl)), (hw _ (List.mem_of_getElem? (i := 17) rfl))⟩)
  obtain ⟨a_7, ea_7⟩ := exa_v n7
  have E_7 := Exa.start ea_7 n7
  have F_7 := Fld.start ((fld_at ea_7).symm.trans (eqv_i (Term.int_eval 7) n28))
  have S_7 := Sta.start ea_7 (Or.inr ⟨(hw _ (List.mem_of_getElem? (i := 3) rfl)), (hw _ (List.mem_of_getElem? (i := 19) rfl))⟩)
  obtain ⟨a_8, ea_8⟩ := exa_v n8
  have E_8 := Exa.start ea_8 n8
  have F_8 := Fld.start ((fld_at ea_8).symm.trans (eqv_i (Term.int_eval 8) n31))
  have S_8 := Sta.start ea_8 (Or.inr ⟨(hw _ (List.mem_of_getElem? (i := 3) rfl)), (hw _ (List.mem_of_getElem? (i := 21) rfl))⟩)
  obtain ⟨a_9, ea_9⟩ := exa_v n9
  have E_9 := Exa.start ea_9 n9
  have F_9 := Fld.start ((fld_at ea_9).symm.trans (eqv_i (Term.int_eval 9) n22))
  have S_9 := Sta.start ea_9 (Or.inr ⟨(hw _ (List.mem_of_getElem? (i := 3) rfl)), (hw _ (List.mem_of_getElem? (i := 23) rfl))⟩)
  obtain ⟨a_10, ea_10⟩ := exa_v n10
  have E_10 := Exa.start ea_10 n10
  have F_10 := Fld.start ((fld_at ea_10).symm.trans (eqv_i (Term.int_eval 10) n23))
  have S_10 := Sta.start ea_10 (Or.inr ⟨(hw _ (List.mem_of_getElem? (i := 3) rfl)), (hw _ (List.mem_of_getElem? (i := 25) rfl))⟩)
  obtain ⟨a_11, ea_11⟩ := exa_v n11
  have E_11 := Exa.start ea_11 n11
  have F_11 := Fld.start ((fld_at ea_11).symm.trans (eqv_i (Term.int_eval 11) n30))
  have S_11 := Sta.start ea_11 (Or.inr ⟨(hw _ (List.mem_of_getElem? (i := 3) rfl)), (hw _ (List.mem_of_getElem? (i := 27) rfl))⟩)
  obtain ⟨a_12, ea_12⟩ := exa_v n12
  have E_12 := Exa.start ea_12 n12
  have F_12 := Fld.start ((fld_at ea_12).symm.trans (eqv_i (Term.int_eval 12) m36))
  have S_12 := Sta.start ea_12 (Or.inr ⟨(hw _ (List.mem_of_getElem? (i := 3) rfl)), (hw _ (List.mem_of_getElem? (i := 29) rfl))⟩)
  obtain ⟨a_13, ea_13⟩ := exa_v n13
  have E_13 := Exa.start ea_13 n13
  have F_13 := Fld.start ((fld_at ea_13).symm.trans (eqv_i (Term.int_eval 13) n20))
  have S_13 := Sta.start ea_13 (Or.inr ⟨(hw _ (List.mem_of_getElem? (i := 3) rfl)), (hw _ (List.mem_of_getElem? (i := 31) rfl))⟩)
  obtain ⟨a_14, ea_14⟩ := exa_v n14
  have E_14 := Exa.start ea_14 n14
  have F_14 := Fld.start ((fld_at ea_14).symm.trans (eqv_i (Term.int_eval 14) n21))
  have S_14 := Sta.start ea_14 (Or.inr ⟨(hw _ (List.mem_of_getElem? (i := 3) rfl)), (hw _ (List.mem_of_getElem? (i := 33) rfl))⟩)
  obtain ⟨a_15, ea_15⟩ := exa_v n15
  have E_15 := Exa.start ea_15 n15
  have F_15 := Fld.start ((fld_at ea_15).symm.trans (eqv_i (Term.int_eval 15) n25))
  have S_15 := Sta.start ea_15 (Or.inr ⟨(hw _ (List.mem_of_getElem? (i := 3) rfl)), (hw _ (List.mem_of_getElem? (i := 35) rfl))⟩)
  obtain ⟨a_16, ea_16⟩ := exa_v n16
  have E_16 := Exa.start ea_16 n16
  have F_16 := Fld.start ((fld_at ea_16).symm.trans (eqv_i (Term.int_eval 16) n35))
  have S_16 := Sta.start ea_16 (Or.inr ⟨(hw _ (List.mem_of_getElem? (i := 3) rfl)), (hw _ (List.mem_of_getElem? (i := 37) rfl))⟩)
  obtain ⟨a_17, ea_17⟩ := exa_v n17
  have E_17 := Exa.start ea_17 n17
  have F_17 := Fld.start ((fld_at ea_17).symm.trans (eqv_i (Term.int_eval 17) n27))
  have S_17 := Sta.start ea_17 (Or.inr ⟨(hw _ (List.mem_of_getElem? (i := 3) rfl)), (hw _ (List.mem_of_getElem? (i := 39) rfl))⟩)
  obtain ⟨a_18, ea_18⟩ := exa_v n18
  have E_18 := Exa.start ea_18 n18
  have F_18 := Fld.start ((fld_at ea_18).symm.trans (eqv_i (Term.int_eval 18) n33))
  have S_18 := Sta.start ea_18 (Or.inr ⟨(hw _ (List.mem_of_getElem? (i := 3) rfl)), (hw _ (List.mem_of_getElem? (i := 41) rfl))⟩)
  obtain ⟨aF, haF⟩ : ∃ aF : Int32 → Addr, aF 0 = a_0 ∧ aF 1 = a_1 ∧ aF 2 = a_2 ∧ aF 3 = a_3 ∧ aF 4 = a_4 ∧ aF 5 = a_5 ∧ aF 6 = a_6 ∧ aF 7 = a_7 ∧ aF 8 = a_8 ∧ aF 9 = a_9 ∧ aF 10 = a_10 ∧ aF 11 = a_11 ∧ aF 12 = a_12 ∧ aF 13 = a_13 ∧ aF 14 = a_14 ∧ aF 15 = a_15 ∧ aF 16 = a_16 ∧ aF 17 = a_17 ∧ aF 18 = a_18 := ⟨fun j => if j = 0 then a_0 else if j = 1 then a_1 else if j = 2 then a_2 else if j = 3 then a_3 else if j = 4 then a_4 else if j = 5 then a_5 else if j = 6 then a_6 else if j = 7 then a_7 else if j = 8 then a_8 else if j = 9 then a_9 else if j = 10 then a_10 else if j = 11 then a_11 else if j = 12 then a_12 else if j = 13 then a_13 else if j = 14 then a_14 else if j = 15 then a_15 else if j = 16 then a_16 else if j = 17 then a_17 else a_18, by simp, by simp, by simp, by simp, by simp, by simp, by simp, by simp, by simp, by simp, by simp, by simp, by simp, by simp, by simp, by simp, by simp, by simp, by simp⟩
  obtain ⟨f0, f1, f2, f3, f4, f5, f6, f7, f8, f9, f10, f11, f12, f13, f14, f15, f16, f17, f18⟩ := haF
  rw [← f0] at E_0 F_0 S_0
  rw [← f1] at E_1 F_1 S_1
  rw [← f2] at E_2 F_2 S_2
  rw [← f3] at E_3 F_3 S_3
  rw [← f4] at E_4 F_4 S_4
  rw [← f5] at E_5 F_5 S_5
  rw [← f6] at E_6 F_6 S_6
  rw [← f7] at E_7 F_7 S_7
  rw [← f8] at E_8 F_8 S_8
  rw [← f9] at E_9 F_9 S_9
  rw [← f10] at E_10 F_10 S_10
  rw [← f11] at E_11 F_11 S_11
  rw [← f12] at E_12 F_12 S_12
  rw [← f13] at E_13 F_13 S_13
  rw [← f14] at E_14 F_14 S_14
  rw [← f15] at E_15 F_15 S_15
  rw [← f16] at E_16 F_16 S_16
  rw [← f17] at E_17 F_17 S_17
  rw [← f18] at E_18 F_18 S_18
  have HE : ∀ j : Int32, ¬ j < 0 → j < 19 → Exa s s.heap (aF j) "com/example/ballotwise/ballotwise/kv/Command$Kind" ∧ Fld s s.heap (aF j) "java/lang/Enum" "ordinal" "I" (.int j) := by
    intro j h1 h2
    rcases own_19 h1 h2 with rfl | rfl | rfl | rfl | rfl | rfl | rfl | rfl | rfl | rfl | rfl | rfl | rfl | rfl | rfl | rfl | rfl | rfl | rfl
    · exact ⟨E_0, F_0⟩
    · exact ⟨E_1, F_1⟩
    · exact ⟨E_2, F_2⟩
    · exact ⟨E_3, F_3⟩
    · exact ⟨E_4, F_4⟩
    · exact ⟨E_5, F_5⟩
    · exact ⟨E_6, F_6⟩
    · exact ⟨E_7, F_7⟩
    · exact ⟨E_8, F_8⟩
    · exact ⟨E_9, F_9⟩
    · exact ⟨E_10, F_10⟩
    · exact ⟨E_11, F_11⟩
    · exact ⟨E_12, F_12⟩
    · exact ⟨E_13, F_13⟩
    · exact ⟨E_14, F_14⟩
    · exact ⟨E_15, F_15⟩
    · exact ⟨E_16, F_16⟩
    · exact ⟨E_17, F_17⟩
    · exact ⟨E_18, F_18⟩
  obtain ⟨n, o, h1, h2, h3, _, L, rfl, ⟨rfl, N⟩, hq⟩ := rm0 l s _ hw tables_1 i0 aF s.heap s.heap.size (Nat.le_refl _) (Old.start s) HE S_0 S_1 S_2 S_3 S_4 S_5 S_6 S_7 S_8 S_9 S_10 S_11 S_12 S_13 S_14 S_15 S_16 S_17 S_18 p e ha hc hk s m _ below hf ((Spec.applies_iff_loose hf).mp happ).1 ⟨rfl, State.Warmed39.refl s, rfl⟩ trivial
  refine ⟨n, _, h1, h2, h3, hpost _ _ _ _ _ _ ⟨Cond.after_iff.mpr rfl, Cond.after_iff.mpr (eq_i res_at (Term.int_eval (1)) rfl), trivial⟩ ⟨hq.1, hq.2.1, (hq.2.2.sift fun y hy => Or.inr (N y hy)).mono (by decide) (by decide)⟩⟩
theorem main_1_1 : Claimed_1_1 := comes_1 fun _ _ _ _ _ _ h hF => ⟨h.1, hF⟩
theorem main_1_2 : Claimed_1_2 := comes_1 fun _ _ _ _ _ _ h hF => ⟨h.2.1, hF⟩
end Jvm.Pilot.@@N@@
namespace Jvm.Pilot.@@N@@
open Jvm Jvm.ClassFile Sem Op Lib Jvm.Free Jvm.Stand Jvm.Pilot.@@N@@.Jvm.D
/-! MADE BY PROGRAM (witnessworld.py) out of the Statement's table words and the real class files: 13 classes; the members and pool entries that the words name. The judged class is class 1, her method 1. -/
namespace start1
open Jvm.ClassFile
def u (s : String) : CpInfo := .utf8 (stringToUtf16 s)
/-- a pool by its gaps: so many unusable entries, then the entry; so many at the end -/
def gap : Nat → List CpInfo → List CpInfo
  | 0, r => r
  | n + 1, r => .unusable :: gap n r
def poolList (es : List (Nat × CpInfo)) (last : Nat) : List CpInfo := es.foldr (fun e r => gap e.1 (e.2 :: r)) (gap last [])
def pool (es : List (Nat × CpInfo)) (last : Nat) : Array CpInfo := ⟨poolList es last⟩
def fileOf (pool : Array CpInfo) (this : Nat) (attrs : Array Attribute := #[]) (ms : Array MethodInfo := #[]) (fl : Nat := 33) (sup : Nat := 0) (ifs : Array Nat := #[]) (fds : Array FieldInfo := #[]) : ClassFile where
  minorVersion := 0
  majorVersion := 65
  constantPool := pool
  accessFlags := fl
  thisClass := this
  superClass := sup
  interfaces := ifs
  fields := fds
  methods := ms
  attributes := attrs
def plain (name : String) (sup : Option ClassId) : Class where
  name := name
  kind := .ordinary
  loader := none
  accessFlags := 33
  super := sup
  interfaces := #[]
  cf := none
  fields := #[]
  methods := #[]
  instanceTypes := #[]
  staticTypes := #[]
  resolved := #[]
  callSites := []
  init := .initialized
  statics := none
  mirror := none

def pool0 : Array CpInfo := pool [(5, u "<init>"), (0, u "()V"), (1, .class_ 10), (1, u "java/lang/Object")] 113

def k0m0 : Method := { name := "<init>", desc := "()V", sig := { parameters := [], returnType := none }, accessFlags := 1, code := none }
/-- java/lang/Object -/
def k0 : Class := { plain "java/lang/Object" none with
  accessFlags := 33
  interfaces := #[]
  cf := some (fileOf pool0 8 #[] #[{ accessFlags := 1, nameIndex := 5, descriptorIndex := 6, attributes := #[] }] 33 0 #[] #[])
  fields := #[]
  methods := #[k0m0]
  instanceTypes := #[]
  staticTypes := #[]
  resolved := Array.replicate 124 none
  statics := none }

def pool1 : Array CpInfo := pool [(2, .class_ 4), (1, u "java/lang/Object"), (0, u "<init>"), (0, u "()V"), (0, .class_ 8), (0, u "com/example/ballotwise/ballotwise/kv/Command$Kind"), (0, .fieldref 7 10), (0, .nameAndType 11 12), (0, u "NO_OP"), (0, u "Lcom/example/ballotwise/ballotwise/kv/Command$Kind;"), (0, .fieldref 7 14), (0, .nameAndType 15 12), (0, u "PUT"), (0, .fieldref 7 17), (0, .nameAndType 18 12), (0, u "DELETE"), (0, .fieldref 7 20), (0, .nameAndType 21 12), (0, u "GET"), (0, .fieldref 7 23), (0, .nameAndType 24 12), (0, u "REGISTER"), (0, .fieldref 7 26), (0, .nameAndType 27 12), (0, u "CONDITIONAL_PUT"), (0, .fieldref 7 29), (0, .nameAndType 30 12), (0, u "CONDITIONAL_DELETE"), (0, .fieldref 7 32), (0, .nameAndType 33 12), (0, u "GRANT"), (0, .fieldref 7 35), (0, .nameAndType 36 12), (0, u "RENEW"), (0, .fieldref 7 38), (0, .nameAndType 39 12), (0, u "REVOKE"), (0, .fieldref 7 41), (0, .nameAndType 42 12), (0, u "LAPSE"), (0, .fieldref 7 44), (0, .nameAndType 45 12), (0, u "LEASED_PUT"), (0, .fieldref 7 47), (0, .nameAndType 48 12), (0, u "LOCK"), (0, .fieldref 7 50), (0, .nameAndType 51 12), (0, u "UNLOCK"), (0, .fieldref 7 53), (0, .nameAndType 54 12), (0, u "WITHDRAW"), (0, .fieldref 7 56), (0, .nameAndType 57 12), (0, u "HOLDER"), (0, .fieldref 7 59), (0, .nameAndType 60 12), (0, u "LIST"), (0, .fieldref 7 62), (0, .nameAndType 63 12), (0, u "TIMED_LOCK"), (0, .fieldref 7 65), (0, .nameAndType 66 12), (0, u "RENUMBER"), (0, .integer 2147483647), (0, .methodref 7 69), (0, .nameAndType 70 71), (0, u "settlesClaims"), (0, u "()Z"), (0, .class_ 73), (0, u "com/example/ballotwise/ballotwise/kv/KindSettlesClaimsPinLaw"), (2, u "law"), (0, u "(I)Z")] 9

def k1m0 : Method := { name := "<init>", desc := "()V", sig := { parameters := [], returnType := none }, accessFlags := 2, code := none }
def k1c1 : Code := { maxStack := 4, maxLocals := 4, code := code, exceptionTable := #[], attributes := #[] }
def k1m1 : Method := { name := "law", desc := "(I)Z", sig := { parameters := [.int], returnType := some .boolean }, accessFlags := 9, code := some k1c1 }
/-- com/example/ballotwise/ballotwise/kv/KindSettlesClaimsPinLaw -/
def k1 : Class := { plain "com/example/ballotwise/ballotwise/kv/KindSettlesClaimsPinLaw" (some 0) with
  accessFlags := 49
  interfaces := #[]
  cf := some (fileOf pool1 72 #[] #[{ accessFlags := 2, nameIndex := 5, descriptorIndex := 6, attributes := #[] }, { accessFlags := 9, nameIndex := 76, descriptorIndex := 77, attributes := #[] }] 49 2 #[] #[])
  fields := #[]
  methods := #[k1m0, k1m1]
  instanceTypes := #[]
  staticTypes := #[]
  resolved := Array.replicate 87 none
  statics := none }

def pool2 : Array CpInfo := pool [(1, .class_ 2), (0, u "java/lang/constant/Constable"), (0, .class_ 4), (0, u "java/lang/Object")] 6

/-- java/lang/constant/Constable -/
def k2 : Class := { plain "java/lang/constant/Constable" (some 0) with
  accessFlags := 1537
  interfaces := #[]
  cf := some (fileOf pool2 1 #[] #[] 1537 3 #[] #[])
  fields := #[]
  methods := #[]
  instanceTypes := #[]
  staticTypes := #[]
  resolved := Array.replicate 11 none
  statics := none }

def pool3 : Array CpInfo := pool [(1, .class_ 2), (0, u "java/lang/Comparable"), (0, .class_ 4), (0, u "java/lang/Object")] 7

/-- java/lang/Comparable -/
def k3 : Class := { plain "java/lang/Comparable" (some 0) with
  accessFlags := 1537
  interfaces := #[]
  cf := some (fileOf pool3 1 #[] #[] 1537 3 #[] #[])
  fields := #[]
  methods := #[]
  instanceTypes := #[]
  staticTypes := #[]
  resolved := Array.replicate 12 none
  statics := none }

def pool4 : Array CpInfo := pool [(1, .class_ 2), (0, u "java/io/Serializable"), (0, .class_ 4), (0, u "java/lang/Object")] 2

/-- java/io/Serializable -/
def k4 : Class := { plain "java/io/Serializable" (some 0) with
  accessFlags := 1537
  interfaces := #[]
  cf := some (fileOf pool4 1 #[] #[] 1537 3 #[] #[])
  fields := #[]
  methods := #[]
  instanceTypes := #[]
  staticTypes := #[]
  resolved := Array.replicate 7 none
  statics := none }

def pool5 : Array CpInfo := pool [(2, .class_ 4), (1, u "java/lang/Enum"), (0, u "name"), (0, u "Ljava/lang/String;"), (2, u "ordinal"), (0, u "I"), (1, .class_ 14), (1, u "java/lang/Object"), (4, u "hash"), (86, .class_ 108), (1, u "java/lang/Enum$EnumDesc"), (2, .class_ 112), (0, u "java/lang/constant/Constable"), (0, .class_ 114), (0, u "java/lang/Comparable"), (0, .class_ 116), (0, u "java/io/Serializable")] 87

/-- java/lang/Enum -/
def k5 : Class := { plain "java/lang/Enum" (some 0) with
  accessFlags := 1057
  interfaces := #[2, 3, 4]
  cf := some (fileOf pool5 2 #[.nestMembers #[106]] #[] 1057 12 #[111, 113, 115] #[{ accessFlags := 18, nameIndex := 5, descriptorIndex := 6, attributes := #[] }, { accessFlags := 18, nameIndex := 9, descriptorIndex := 10, attributes := #[] }, { accessFlags := 2, nameIndex := 19, descriptorIndex := 10, attributes := #[] }])
  fields := #[{ name := "name", type := (.object "java/lang/String"), accessFlags := 18, slot := 0, constantValue := 0 }, { name := "ordinal", type := .int, accessFlags := 18, slot := 1, constantValue := 0 }, { name := "hash", type := .int, accessFlags := 2, slot := 2, constantValue := 0 }]
  methods := #[]
  instanceTypes := #[(.object "java/lang/String"), .int, .int]
  staticTypes := #[]
  resolved := Array.replicate 204 none
  statics := none }

def pool6 : Array CpInfo := pool [(1, .class_ 2), (0, u "com/example/ballotwise/ballotwise/kv/Command$Kind"), (2, u "NO_OP"), (0, u "Lcom/example/ballotwise/ballotwise/kv/Command$Kind;"), (2, u "PUT"), (2, u "DELETE"), (2, u "GET"), (2, u "REGISTER"), (2, u "CONDITIONAL_PUT"), (2, u "CONDITIONAL_DELETE"), (2, u "GRANT"), (2, u "RENEW"), (0, .fieldref 1 32), (0, .nameAndType 33 6), (0, u "REVOKE"), (0, .fieldref 1 35), (0, .nameAndType 36 6), (0, u "LAPSE"), (2, u "LEASED_PUT"), (2, u "LOCK"), (0, .fieldref 1 44), (0, .nameAndType 45 6), (0, u "UNLOCK"), (0, .fieldref 1 47), (0, .nameAndType 48 6), (0, u "WITHDRAW"), (2, u "HOLDER"), (2, u "LIST"), (2, u "TIMED_LOCK"), (2, u "RENUMBER"), (2, u "$VALUES"), (0, u "[Lcom/example/ballotwise/ballotwise/kv/Command$Kind;"), (6, .class_ 73), (1, u "java/lang/Enum"), (14, u "parts"), (0, u "Ljava/util/List;"), (67, u "settlesClaims"), (0, u "()Z"), (7, .class_ 167), (0, u "com/example/ballotwise/ballotwise/kv/Command")] 3

def k6c0 : Code := { maxStack := 2, maxLocals := 1, code := prog_52_method_4_code, exceptionTable := #[], attributes := #[] }
def k6m0 : Method := { name := "settlesClaims", desc := "()Z", sig := { parameters := [], returnType := some .boolean }, accessFlags := 1, code := some k6c0 }
/-- com/example/ballotwise/ballotwise/kv/Command$Kind -/
def k6 : Class := { plain "com/example/ballotwise/ballotwise/kv/Command$Kind" (some 5) with
  accessFlags := 16433
  interfaces := #[]
  cf := some (fileOf pool6 1 #[.nestHost 166] #[{ accessFlags := 1, nameIndex := 157, descriptorIndex := 158, attributes := #[] }] 16433 71 #[] #[{ accessFlags := 16409, nameIndex := 5, descriptorIndex := 6, attributes := #[] }, { accessFlags := 16409, nameIndex := 9, descriptorIndex := 6, attributes := #[] }, { accessFlags := 16409, nameIndex := 12, descriptorIndex := 6, attributes := #[] }, { accessFlags := 16409, nameIndex := 15, descriptorIndex := 6, attributes := #[] }, { accessFlags := 16409, nameIndex := 18, descriptorIndex := 6, attributes := #[] }, { accessFlags := 16409, nameIndex := 21, descriptorIndex := 6, attributes := #[] }, { accessFlags := 16409, nameIndex := 24, descriptorIndex := 6, attributes := #[] }, { accessFlags := 16409, nameIndex := 27, descriptorIndex := 6, attributes := #[] }, { accessFlags := 16409, nameIndex := 30, descriptorIndex := 6, attributes := #[] }, { accessFlags := 16409, nameIndex := 33, descriptorIndex := 6, attributes := #[] }, { accessFlags := 16409, nameIndex := 36, descriptorIndex := 6, attributes := #[] }, { accessFlags := 16409, nameIndex := 39, descriptorIndex := 6, attributes := #[] }, { accessFlags := 16409, nameIndex := 42, descriptorIndex := 6, attributes := #[] }, { accessFlags := 16409, nameIndex := 45, descriptorIndex := 6, attributes := #[] }, { accessFlags := 16409, nameIndex := 48, descriptorIndex := 6, attributes := #[] }, { accessFlags := 16409, nameIndex := 51, descriptorIndex := 6, attributes := #[] }, { accessFlags := 16409, nameIndex := 54, descriptorIndex := 6, attributes := #[] }, { accessFlags := 16409, nameIndex := 57, descriptorIndex := 6, attributes := #[] }, { accessFlags := 16409, nameIndex := 60, descriptorIndex := 6, attributes := #[] }, { accessFlags := 18, nameIndex := 88, descriptorIndex := 89, attributes := #[] }, { accessFlags := 4122, nameIndex := 63, descriptorIndex := 64, attributes := #[] }])
  fields := #[{ name := "NO_OP", type := (.object "com/example/ballotwise/ballotwise/kv/Command$Kind"), accessFlags := 16409, slot := 0, constantValue := 0 }, { name := "PUT", type := (.object "com/example/ballotwise/ballotwise/kv/Command$Kind"), accessFlags := 16409, slot := 1, constantValue := 0 }, { name := "DELETE", type := (.object "com/example/ballotwise/ballotwise/kv/Command$Kind"), accessFlags := 16409, slot := 2, constantValue := 0 }, { name := "GET", type := (.object "com/example/ballotwise/ballotwise/kv/Command$Kind"), accessFlags := 16409, slot := 3, constantValue := 0 }, { name := "REGISTER", type := (.object "com/example/ballotwise/ballotwise/kv/Command$Kind"), accessFlags := 16409, slot := 4, constantValue := 0 }, { name := "CONDITIONAL_PUT", type := (.object "com/example/ballotwise/ballotwise/kv/Command$Kind"), accessFlags := 16409, slot := 5, constantValue := 0 }, { name := "CONDITIONAL_DELETE", type := (.object "com/example/ballotwise/ballotwise/kv/Command$Kind"), accessFlags := 16409, slot := 6, constantValue := 0 }, { name := "GRANT", type := (.object "com/example/ballotwise/ballotwise/kv/Command$Kind"), accessFlags := 16409, slot := 7, constantValue := 0 }, { name := "RENEW", type := (.object "com/example/ballotwise/ballotwise/kv/Command$Kind"), accessFlags := 16409, slot := 8, constantValue := 0 }, { name := "REVOKE", type := (.object "com/example/ballotwise/ballotwise/kv/Command$Kind"), accessFlags := 16409, slot := 9, constantValue := 0 }, { name := "LAPSE", type := (.object "com/example/ballotwise/ballotwise/kv/Command$Kind"), accessFlags := 16409, slot := 10, constantValue := 0 }, { name := "LEASED_PUT", type := (.object "com/example/ballotwise/ballotwise/kv/Command$Kind"), accessFlags := 16409, slot := 11, constantValue := 0 }, { name := "LOCK", type := (.object "com/example/ballotwise/ballotwise/kv/Command$Kind"), accessFlags := 16409, slot := 12, constantValue := 0 }, { name := "UNLOCK", type := (.object "com/example/ballotwise/ballotwise/kv/Command$Kind"), accessFlags := 16409, slot := 13, constantValue := 0 }, { name := "WITHDRAW", type := (.object "com/example/ballotwise/ballotwise/kv/Command$Kind"), accessFlags := 16409, slot := 14, constantValue := 0 }, { name := "HOLDER", type := (.object "com/example/ballotwise/ballotwise/kv/Command$Kind"), accessFlags := 16409, slot := 15, constantValue := 0 }, { name := "LIST", type := (.object "com/example/ballotwise/ballotwise/kv/Command$Kind"), accessFlags := 16409, slot := 16, constantValue := 0 }, { name := "TIMED_LOCK", type := (.object "com/example/ballotwise/ballotwise/kv/Command$Kind"), accessFlags := 16409, slot := 17, constantValue := 0 }, { name := "RENUMBER", type := (.object "com/example/ballotwise/ballotwise/kv/Command$Kind"), accessFlags := 16409, slot := 18, constantValue := 0 }, { name := "parts", type := (.object "java/util/List"), accessFlags := 18, slot := 3, constantValue := 0 }, { name := "$VALUES", type := (.array (.object "com/example/ballotwise/ballotwise/kv/Command$Kind")), accessFlags := 4122, slot := 19, constantValue := 0 }]
  methods := #[k6m0]
  instanceTypes := #[(.object "java/lang/String"), .int, .int, (.object "java/util/List")]
  staticTypes := #[(.object "com/example/ballotwise/ballotwise/kv/Command$Kind"), (.object "com/example/ballotwise/ballotwise/kv/Command$Kind"), (.object "com/example/ballotwise/ballotwise/kv/Command$Kind"), (.object "com/example/ballotwise/ballotwise/kv/Command$Kind"), (.object "com/example/ballotwise/ballotwise/kv/Command$Kind"), (.object "com/example/ballotwise/ballotwise/kv/Command$Kind"), (.object "com/example/ballotwise/ballotwise/kv/Command$Kind"), (.object "com/example/ballotwise/ballotwise/kv/Command$Kind"), (.object "com/example/ballotwise/ballotwise/kv/Command$Kind"), (.object "com/example/ballotwise/ballotwise/kv/Command$Kind"), (.object "com/example/ballotwise/ballotwise/kv/Command$Kind"), (.object "com/example/ballotwise/ballotwise/kv/Command$Kind"), (.object "com/example/ballotwise/ballotwise/kv/Command$Kind"), (.object "com/example/ballotwise/ballotwise/kv/Command$Kind"), (.object "com/example/ballotwise/ballotwise/kv/Command$Kind"), (.object "com/example/ballotwise/ballotwise/kv/Command$Kind"), (.object "com/example/ballotwise/ballotwise/kv/Command$Kind"), (.object "com/example/ballotwise/ballotwise/kv/Command$Kind"), (.object "com/example/ballotwise/ballotwise/kv/Command$Kind"), (.array (.object "com/example/ballotwise/ballotwise/kv/Command$Kind"))]
  resolved := Array.replicate 171 none
  statics := some 0 }

def pool7 : Array CpInfo := pool [(1, u "java/lang/Cloneable"), (0, .class_ 1), (0, u "java/lang/Object"), (0, .class_ 3)] 3

/-- java/lang/Cloneable -/
def k7 : Class := { plain "java/lang/Cloneable" (some 0) with
  accessFlags := 1537
  interfaces := #[]
  cf := some (fileOf pool7 2 #[] #[] 1537 4 #[] #[])
  fields := #[]
  methods := #[]
  instanceTypes := #[]
  staticTypes := #[]
  resolved := Array.replicate 8 none
  statics := none }

/-- the primitive byte -/
def k8 : Class := { plain "byte" none with kind := .primitive 'B', accessFlags := 0x411 }
/-- [B -/
def k9 : Class := { plain "[B" (some 0) with kind := .array 8 .byte, interfaces := #[7, 4], accessFlags := 1041 }

/-- the primitive int -/
def k10 : Class := { plain "int" none with kind := .primitive 'I', accessFlags := 0x411 }
/-- [I -/
def k11 : Class := { plain "[I" (some 0) with kind := .array 10 .int, interfaces := #[7, 4], accessFlags := 1041 }

/-- [Lcom/example/ballotwise/ballotwise/kv/Command$Kind; -/
def k12 : Class := { plain "[Lcom/example/ballotwise/ballotwise/kv/Command$Kind;" (some 0) with kind := .array 6 (.object "com/example/ballotwise/ballotwise/kv/Command$Kind"), interfaces := #[7, 4], accessFlags := 1041 }

def heap : Heap := #[{ cls := 6, slots := #[.ref 1, .ref 2, .ref 3, .ref 4, .ref 5, .ref 6, .ref 7, .ref 8, .ref 9, .ref 10, .ref 11, .ref 12, .ref 13, .ref 14, .ref 15, .ref 16, .ref 17, .ref 18, .ref 19, .null], vm := .statics 6 },
  { cls := 6, slots := #[.null, .int 0, .int 0, .null], vm := .none },
  { cls := 6, slots := #[.null, .int 1, .int 0, .null], vm := .none },
  { cls := 6, slots := #[.null, .int 2, .int 0, .null], vm := .none },
  { cls := 6, slots := #[.null, .int 3, .int 0, .null], vm := .none },
  { cls := 6, slots := #[.null, .int 4, .int 0, .null], vm := .none },
  { cls := 6, slots := #[.null, .int 5, .int 0, .null], vm := .none },
  { cls := 6, slots := #[.null, .int 6, .int 0, .null], vm := .none },
  { cls := 6, slots := #[.null, .int 7, .int 0, .null], vm := .none },
  { cls := 6, slots := #[.null, .int 8, .int 0, .null], vm := .none },
  { cls := 6, slots := #[.null, .int 9, .int 0, .null], vm := .none },
  { cls := 6, slots := #[.null, .int 10, .int 0, .null], vm := .none },
  { cls := 6, slots := #[.null, .int 11, .int 0, .null], vm := .none },
  { cls := 6, slots := #[.null, .int 12, .int 0, .null], vm := .none },
  { cls := 6, slots := #[.null, .int 13, .int 0, .null], vm := .none },
  { cls := 6, slots := #[.null, .int 14, .int 0, .null], vm := .none },
  { cls := 6, slots := #[.null, .int 15, .int 0, .null], vm := .none },
  { cls := 6, slots := #[.null, .int 16, .int 0, .null], vm := .none },
  { cls := 6, slots := #[.null, .int 17, .int 0, .null], vm := .none },
  { cls := 6, slots := #[.null, .int 18, .int 0, .null], vm := .none }]
def classes : Array Class := #[k0, k1, k2, k3, k4, k5, k6, k7, k8, k9, k10, k11, k12]
def interned : List (Array UInt16 × Addr) := []
def slotsUsed : Nat := 96
def theMethod : MethodId := ⟨1, 1⟩
def args0 : Array Value := #[.int 5]
def aboutOver (below : List Frame) : State where
  vm := { classes := classes, interned := interned.toArray }
  heap := heap
  slotsUsed := slotsUsed
  threads := #[{ frames := .invoking theMethod args0 :: below }]
def below0 : List Frame := [.native { method := ⟨0, 0⟩, args := #[] }]
def about1 : State := aboutOver below0
def p0 : Program := .bare "" "" ""
def e0 : Env := launch0.env 0 0 0
theorem w_frames : about1.frames = Frame.invoking theMethod args0 :: below0 := rfl
set_option maxRecDepth 65536 in
theorem w_args : argsFit about1.vm theMethod args0 = true := by decide +kernel
set_option maxRecDepth 65536 in
theorem w_heap : heapFits about1 = true := by decide +kernel
set_option maxRecDepth 65536 in
theorem w_runnable : about1.curStatus? = some .runnable := by decide +kernel
set_option maxRecDepth 65536 in
theorem w_alone : about1.alone = true := by decide +kernel
set_option maxRecDepth 65536 in
theorem w_named : about1.methodNamed? x = some theMethod := by decide +kernel
set_option maxRecDepth 65536 in
theorem w_hears : about1.hears theMethod below0 = true := by decide +kernel
set_option maxRecDepth 65536 in
theorem w_ripe : about1.ripe theMethod args0 below0 = true := by decide +kernel
theorem w_running : about1.status = .running := rfl
set_option maxRecDepth 65536 in
theorem w_room : about1.hasRoom e0.platform room_1 = true :=
  launch0.hasRoom_least _ room_1 (by decide +kernel) (by decide +kernel) (by decide +kernel) (by decide +kernel) (by decide +kernel) (by decide +kernel)
theorem allAtoms_all (ts : List Jvm.Cond) (a : Array Jvm.Value) (st : Jvm.State) : (allAtoms ts).before a st = ts.all (fun c => c.before a st) := by
  induction ts with
  | nil => rfl
  | cons c t ih =>
    show (Jvm.Cond.and c (allAtoms t)).before a st = _
    rw [Jvm.Cond.before_and, ih, List.all_cons]
def words1 : List Jvm.Cond := Jvm.Cond.code x code maxLocals ret :: tables_1
/-- a 'code' word, met by the world's own term for the bytes: nothing is compared byte by byte -/
theorem code_word {y : MethodName} {bytes : ByteArray} {mx : Nat} {rt : Option FieldType} {a : Array Value} {s : State} {m : MethodId} {meth : Method} {c : Code} (h1 : s.methodNamed? y = some m) (h2 : s.vm.method? m = some meth) (h3 : meth.code = some c) (h4 : c.code = bytes)
    (h5 : (c.maxLocals == mx && c.exceptionTable.isEmpty && decide (c.maxStack ≤ mostOperands) && decide (meth.sig.returnType = rt) && !meth.locks && decide (parseMethodDescriptor y.desc = some meth.sig)) = true) : (Jvm.Cond.code y bytes mx rt).before a s = true := by
  simp only [Bool.and_eq_true, beq_iff_eq, Bool.not_eq_true', decide_eq_true_eq] at h5
  obtain ⟨⟨⟨⟨⟨g1, g2⟩, g3⟩, g4⟩, g5⟩, g6⟩ := h5
  simp [Cond.before, Cond.holds, Cond.value, h1, h2, h3, h4, g1, g2, g3, g4, g5, g6]
def isCode : Jvm.Cond → Bool
  | .code _ _ _ _ => true
  | _ => false
theorem all_split {L : List Jvm.Cond} {P : Jvm.Cond → Bool} (h1 : L.all (fun c => isCode c || P c) = true) (h2 : ∀ c ∈ L.filter isCode, P c = true) : L.all P = true := by
  refine List.all_eq_true.mpr fun c hc => ?_
  have h := List.all_eq_true.mp h1 c hc
  rcases Bool.eq_false_or_eq_true (isCode c) with hi | hi
  · exact h2 c (List.mem_filter.mpr ⟨hc, hi⟩)
  · simpa [hi] using h
set_option maxRecDepth 65536 in
theorem w_c0 : (Jvm.Cond.code x code maxLocals ret).before args0 about1 = true := code_word (m := ⟨1, 1⟩) (meth := k1m1) (c := k1c1) (by decide +kernel) rfl rfl rfl (by decide +kernel)
set_option maxRecDepth 65536 in
theorem w_c1 : (Jvm.Cond.code ({ cls := "com/example/ballotwise/ballotwise/kv/Command$Kind", name := "settlesClaims", desc := "()Z" } : Jvm.MethodName) prog_52_method_4_code (1 : Nat) (Option.some Jvm.ClassFile.FieldType.boolean)).before args0 about1 = true := code_word (m := ⟨6, 0⟩) (meth := k6m0) (c := k6c0) (by decide +kernel) rfl rfl rfl (by decide +kernel)
def codes1 : List Jvm.Cond := [Jvm.Cond.code x code maxLocals ret, Jvm.Cond.code ({ cls := "com/example/ballotwise/ballotwise/kv/Command$Kind", name := "settlesClaims", desc := "()Z" } : Jvm.MethodName) prog_52_method_4_code (1 : Nat) (Option.some Jvm.ClassFile.FieldType.boolean)]
set_option maxRecDepth 65536 in
theorem codes_eq : words1.filter isCode = codes1 := rfl
theorem w_codes : ∀ c ∈ words1.filter isCode, c.before args0 about1 = true := by
  rw [codes_eq]
  intro c hc
  simp only [codes1, List.mem_cons, List.not_mem_nil, or_false] at hc
  rcases hc with rfl | rfl
  · exact w_c0
  · exact w_c1
set_option maxRecDepth 65536 in
theorem w_t1 : (words1.take 24).all (fun c => isCode c || c.before args0 about1) = true := by decide +kernel
set_option maxRecDepth 65536 in
theorem w_t2 : ((words1.drop 24).take 24).all (fun c => isCode c || c.before args0 about1) = true := by decide +kernel
set_option maxRecDepth 65536 in
theorem w_t3 : ((words1.drop 24).drop 24).all (fun c => isCode c || c.before args0 about1) = true := by decide +kernel
theorem w_tables : (allAtoms (Jvm.Cond.code x code maxLocals ret :: tables_1)).before args0 about1 = true := by
  rw [allAtoms_all]
  show words1.all (fun c => c.before args0 about1) = true
  refine all_split ?_ w_codes
  rw [← List.take_append_drop 24 words1, List.all_append, w_t1, ← List.take_append_drop 24 (words1.drop 24), List.all_append, w_t2, w_t3]
  rfl
set_option maxRecDepth 65536 in
theorem w_case : (Jvm.Cond.and given_1 narrow_1).before args0 about1 = true := by decide +kernel
theorem w_applies : (headSpec (Jvm.Cond.code x code maxLocals ret :: tables_1) room_1).applies x e0.platform about1 = true :=
  (Spec.applies_iff w_frames).mpr ⟨w_running, w_runnable, w_alone, w_named, w_hears, w_ripe, w_room, w_tables⟩
theorem atStart : AtStart classFile x code maxLocals ret World_1 tables_1 room_1 Calls_1 rest_1 Pre_1 launch0 p0 e0 about1 theMethod args0 below0 :=
  ⟨lists_1, trivial, launch0.admits_env _ _ _, launch0.least_env, fairChoices_fair.cas, fairChoices_fair.clock, w_frames, w_args, w_heap, w_applies, trivial, trivial, w_case⟩
end start1
theorem witness_1 : WitnessClaimed_1 := ⟨start1.p0, start1.e0, start1.about1, start1.theMethod, start1.args0, start1.below0, start1.atStart⟩
end Jvm.Pilot.@@N@@
