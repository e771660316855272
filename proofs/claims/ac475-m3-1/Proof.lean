import JvmDerived
import JvmDerived.Pilot.@@N@@Statement
import JvmDerived.Pilot.@@N@@Code
set_option linter.unusedVariables false
set_option linter.unusedSimpArgs false
@@BLOCK:NumsL.lean.txt@@
namespace Jvm.Pilot.@@N@@
open Jvm Jvm.ClassFile Sem Op Lib Jvm.Free Jvm.Stand Jvm.LawKit Jvm.RoadKit Bundle Jvm.Pilot.@@N@@.Jvm.D
section own_kit
variable {p : Program} {l : Launch} {e : Env} {R : Room} {s : State} {m : MethodId} {args : Array Value} {below : List Frame} {meth : Method} {c : Code} {T T' : State} {locs : List Loc} {cells slots : Nat}
/-- from the frame g over the state T the run comes to an end of which K speaks -/
def Go (p : Program) (e : Env) (below : List Frame) (T : State) (g : JFrame) (K : Outcome → State → Prop) : Prop :=
  ∃ s₂ o, Steps p.tables e below (T.setTop g) s₂ ∧ s₂.status = .running ∧ Ended s₂ below o ∧ K o s₂
def KQ (s : State) (Q : Option Value → Heap → List Loc → Prop) (k n : Nat) (o : Outcome) (U : State) : Prop :=
  ∃ v L, o = .returned v ∧ Q v U.heap L ∧ FrameEnd s o U L k n
theorem Go.of {g g' : JFrame} {K : Outcome → State → Prop} (h : ∀ t, Steps p.tables e below (T'.setTop g') t → Steps p.tables e below (T.setTop g) t) (k : Go p e below T' g' K) : Go p e below T g K := by
  obtain ⟨s₂, o, h1, h2⟩ := k
  exact ⟨s₂, o, h _ h1, h2⟩
theorem Go.cast {g g' : JFrame} {K : Outcome → State → Prop} (q : g = g') (k : Go p e below T g' K) : Go p e below T g K := q ▸ k
theorem Go.ret0 (X : Stand p l e R s m args below meth c T locs cells slots) (hx : p.tables.exec = Jvm.exec) (hret : meth.sig.returnType = none) (hlk : meth.locks = false) {pc : Nat} {Ls : Array Slot} {Q : Option Value → Heap → List Loc → Prop} {k n : Nat} {h : Heap}
    (hd : decode c.code pc = .ok (.return_, 1)) (eT : T.heap = h) (hk : cells ≤ k) (hn : slots ≤ n) (hq : Q none h locs) : Go p e below T (mkF m pc Ls []) (KQ s Q k n) := by
  obtain ⟨fs, hr, hrun, hended, hW, hsame⟩ := X.leave (v := none) (fun _ => rfl) hlk
  exact ⟨_, _, X.returnOut hx hret hd hr, hrun, hended, _, _, rfl, by show Q none T.heap _; rw [eT]; exact hq, ⟨_, rfl⟩, hW, hsame.mono hk hn⟩
theorem Go.retV (X : Stand p l e R s m args below meth c T locs cells slots) (hx : p.tables.exec = Jvm.exec) {t : FieldType} {w : Value} {i : Instr} {rest : List Value} (hret : meth.sig.returnType = some t) (hlk : meth.locks = false) {pc : Nat} {Ls : Array Slot} {Q : Option Value → Heap → List Loc → Prop} {k n : Nat} {h : Heap} (hn0 : narrow t w = w)
    (hi : (i = .ireturn ∧ (t = .int ∨ t = .boolean ∨ t = .byte ∨ t = .char ∨ t = .short) ∧ ∃ z, w = .int z) ∨ (i = .lreturn ∧ t = .long ∧ ∃ z, w = .long z) ∨ (i = .dreturn ∧ t = .double ∧ ∃ z, w = .double z) ∨ (i = .freturn ∧ t = .float ∧ ∃ z, w = .float z) ∨ (i = .areturn ∧ t.isReference = true ∧ w.isRef = true))
    (hd : decode c.code pc = .ok (i, 1)) (eT : T.heap = h) (hk : cells ≤ k) (hn : slots ≤ n) (hq : Q (some w) h locs) : Go p e below T (mkF m pc Ls (w :: rest)) (KQ s Q k n) := by
  obtain ⟨fs, hr, hrun, hended, hW, hsame⟩ := X.leave (v := some w) (fun h => by rw [hret] at h; cases h) hlk
  exact ⟨_, _, retOut X hx hret hn0 hi hd hr, hrun, hended, _, _, rfl, by show Q (some w) T.heap _; rw [eT]; exact hq, ⟨_, rfl⟩, hW, hsame.mono hk hn⟩
theorem Go.retI (X : Stand p l e R s m args below meth c T locs cells slots) (hx : p.tables.exec = Jvm.exec) {z : Int32} {rest : List Value} (hret : meth.sig.returnType = some .int) (hlk : meth.locks = false) {pc : Nat} {Ls : Array Slot} {Q : Option Value → Heap → List Loc → Prop} {k n : Nat} {h : Heap}
    (hd : decode c.code pc = .ok (.ireturn, 1)) (eT : T.heap = h) (hk : cells ≤ k) (hn : slots ≤ n) (hq : Q (some (.int z)) h locs) : Go p e below T (mkF m pc Ls (.int z :: rest)) (KQ s Q k n) :=
  Go.retV X hx hret hlk rfl (Or.inl ⟨rfl, Or.inl rfl, z, rfl⟩) hd eT hk hn hq
theorem Go.retJ (X : Stand p l e R s m args below meth c T locs cells slots) (hx : p.tables.exec = Jvm.exec) {z : Int64} {rest : List Value} (hret : meth.sig.returnType = some .long) (hlk : meth.locks = false) {pc : Nat} {Ls : Array Slot} {Q : Option Value → Heap → List Loc → Prop} {k n : Nat} {h : Heap}
    (hd : decode c.code pc = .ok (.lreturn, 1)) (eT : T.heap = h) (hk : cells ≤ k) (hn : slots ≤ n) (hq : Q (some (.long z)) h locs) : Go p e below T (mkF m pc Ls (.long z :: rest)) (KQ s Q k n) :=
  Go.retV X hx hret hlk rfl (Or.inr (Or.inl ⟨rfl, rfl, z, rfl⟩)) hd eT hk hn hq
theorem narrow_ref {t : FieldType} {w : Value} (ht : t.isReference = true) (hw : w.isRef = true) : narrow t w = w := by
  rcases ref_cases hw with rfl | ⟨z, rfl⟩ <;> cases t <;> first | rfl | (cases ht; done)
theorem Go.retA (X : Stand p l e R s m args below meth c T locs cells slots) (hx : p.tables.exec = Jvm.exec) {t : FieldType} {w : Value} {rest : List Value} (hret : meth.sig.returnType = some t) (hlk : meth.locks = false) {pc : Nat} {Ls : Array Slot} {Q : Option Value → Heap → List Loc → Prop} {k n : Nat} {h : Heap} (ht : t.isReference = true) (hw : w.isRef = true)
    (hd : decode c.code pc = .ok (.areturn, 1)) (eT : T.heap = h) (hk : cells ≤ k) (hn : slots ≤ n) (hq : Q (some w) h locs) : Go p e below T (mkF m pc Ls (w :: rest)) (KQ s Q k n) :=
  Go.retV X hx hret hlk (narrow_ref ht hw) (Or.inr (Or.inr (Or.inr (Or.inr ⟨rfl, ht, hw⟩)))) hd eT hk hn hq
theorem Go.retN (X : Stand p l e R s m args below meth c T locs cells slots) (hx : p.tables.exec = Jvm.exec) {t : FieldType} {z : Int32} {rest : List Value} (hret : meth.sig.returnType = some t) (hlk : meth.locks = false) {pc : Nat} {Ls : Array Slot} {Q : Option Value → Heap → List Loc → Prop} {k n : Nat} {h : Heap} (ht : t = .boolean ∨ t = .byte ∨ t = .char ∨ t = .short)
    (hd : decode c.code pc = .ok (.ireturn, 1)) (eT : T.heap = h) (hk : cells ≤ k) (hn : slots ≤ n) (hq : Q (some (.int (nar t z))) h locs) : Go p e below T (mkF m pc Ls (.int z :: rest)) (KQ s Q k n) := by
  obtain ⟨fs, hr, hrun, hended, hW, hsame⟩ := X.leave (v := some (.int (nar t z))) (fun h => by rw [hret] at h; cases h) hlk
  exact ⟨_, _, Jvm.RoadKit.retN X hx hret ht hd hr, hrun, hended, _, _, rfl, by show Q _ T.heap _; rw [eT]; exact hq, ⟨_, rfl⟩, hW, hsame.mono hk hn⟩
/-- the contract of one body, at the arguments as and the heap h0 -/
abbrev Ctr (l : Launch) (Z : State) (y : MethodName) (bytes : ByteArray) (mx : Nat) (rt : Option FieldType) (ws : List Jvm.Cond) (R : Room) (as : Array Value) (h0 : Heap) (Q : Option Value → Heap → List Loc → Prop) : Prop :=
  MetFree l y (head1 (Jvm.Cond.code y bytes mx rt :: ws) R) (fun a U => a = as ∧ Z.Warmed39 U.vm ∧ U.heap = h0) (fun _ _ _ _ _ => True) (fun _ U o U' => ∃ v L, o = .returned v ∧ Q v U'.heap L ∧ FrameEnd U o U' L R.cells R.slots)
theorem Ctr.intro {Z : State} {y : MethodName} {bytes : ByteArray} {mx : Nat} {rt : Option FieldType} {ws : List Jvm.Cond} {as : Array Value} {h0 : Heap} {Q : Option Value → Heap → List Loc → Prop} (hpl : plainFor y = true)
    (body : ∀ (p : Program) (e : Env) (s : State) (m : MethodId) (below : List Frame) (meth : Method) (c : Code) (s₁ : State), p.tables.exec = Jvm.exec → c.code = bytes → c.maxLocals = mx → s.vm.findClass y.cls = some m.cls → meth.name = y.name → meth.sig.returnType = rt → meth.locks = false → Z.Warmed39 s.vm →
      Stand p l e R s m as below meth c s₁ [] 0 0 → s₁.heap = h0 → Go p e below s₁ (entryFrame m as mx) (KQ s Q R.cells R.slots)) : Ctr l Z y bytes mx rt ws R as h0 Q := by
  refine MetFree.of_bodySF hpl hisR ?_
  intro p e s m args below meth c s₁ Bd hml0 hP hK
  obtain ⟨rfl, hZ, hh⟩ := hP
  obtain ⟨s₂, o, h1, h2, h3, h4⟩ := body p e s m below meth c s₁ Bd.exec Bd.bytes hml0 (findClass_of_methodNamed Bd.named) (name_of_methodNamed Bd.named Bd.method).1 Bd.returns Bd.notSynchronized hZ (Stand.of_body Bd) (by rw [← hh, Bd.state]; rfl)
  exact ⟨s₂, o, h1, h2, h3, h4⟩
end own_kit
theorem own_mask31 (x : Int32) : 0 ≤ (x &&& 2147483647).toInt ∧ (x &&& 2147483647).toInt < 2 ^ 31 := by
  have e : (x &&& 2147483647).toInt = x.toInt % 2 ^ 31 := Jvm.Kit.i32_mask x 2147483647 (k := 31) (by decide) (by decide)
  omega
theorem own_rem {x y : Int32} (hx : 0 ≤ x.toInt) (hy : 0 < y.toInt) : 0 ≤ (x % y).toInt ∧ (x % y).toInt < y.toInt := by
  have e : (x % y).toInt = x.toInt.tmod y.toInt := Int32.toInt_mod x y
  rw [Int.tmod_eq_emod_of_nonneg hx] at e
  have h1 := Int.emod_nonneg x.toInt (show y.toInt ≠ 0 by omega)
  have h2 := Int.emod_lt_of_pos x.toInt hy
  omega
theorem own_lt {a b : Int32} : a < b ↔ a.toInt < b.toInt := Int32.lt_iff_toInt_lt
theorem own_eq {a b : Int32} : a = b ↔ a.toInt = b.toInt := Int32.toInt_inj.symm
theorem own_or' {args : Array Value} {first s : State} {o : Option Outcome} {idx : List Nat} {G Y : Jvm.Cond} {P : Prop} [Decidable P] (h : (Jvm.Cond.or G Y).value args first o s idx = some true) (hG : G.value args first o s idx = some (decide P)) (hn : ¬ P) : Y.value args first o s idx = some true := by
  simpa [Cond.value, hG, hn] using h
theorem own_len {Z : State} {args : Array Value} {t : Term} {a : Addr} {cl : Cell} {ty : FieldType} {n : Int32} (ea : t.eval args Z none [] Z = some (.ref a)) (A : Arr Z Z.heap a cl ty) (h : (Term.length t).eval args Z none [] Z = some (.int n)) : cl.slots.size = n.toNatClampNeg ∧ ¬ n < 0 := by
  have ha := A.fin (Vm.Alike.refl _)
  by_cases p : cl.slots.size < 2 ^ 31
  · have e := (len_f ea ha p).symm.trans h
    have e2 : cl.slots.size.toInt32 = n := Value.int.inj (Option.some.inj e)
    have e3 := len_toInt p
    rw [e2] at e3
    refine ⟨by simp only [Int32.toNatClampNeg, e3]; rfl, by rw [Int32.lt_iff_toInt_lt, e3]; simp⟩
  · simp [Term.eval, ea, ha, p] at h
theorem own_at {Z : State} {args : Array Value} {t F : Term} {a : Addr} {cl : Cell} {ty : FieldType} {j y : Int32} (et : ∀ idx, t.eval args Z none idx Z = some (.ref a)) (A : Arr Z Z.heap a cl ty) (nn : ¬ j < 0) (hF : F.eval args Z none [j.toNatClampNeg] Z = some (.int y))
    (h : (Jvm.Cond.eq (.elem t (.index 0)) F).value args Z none Z [j.toNatClampNeg] = some true) : cl.slots[j.toNatClampNeg]? = some (.int y) :=
  (elem_f (et _) (idx_at nn) (A.fin (Vm.Alike.refl _)) nn).symm.trans (eqv_i hF h)
theorem own_nlt {a b : Int32} : ¬ a < b ↔ b.toInt ≤ a.toInt := by rw [own_lt]; omega
theorem own_le {a b : Int32} : a ≤ b ↔ a.toInt ≤ b.toInt := Int32.le_iff_toInt_le
theorem own_clamp {j n : Int32} {k : Nat} (h0 : ¬ j < 0) (h1 : j < n) (hk : k = n.toNatClampNeg) : j.toNatClampNeg < k := by
  rw [own_lt] at h0 h1; subst hk
  have : (0 : Int32).toInt = 0 := by decide
  simp only [Int32.toNatClampNeg]; omega

theorem own_eqR {Z : State} {args : Array Value} {X F : Term} {idx : List Nat} {a : Addr} (hF : F.eval args Z none idx Z = some (.ref a)) (h : (Jvm.Cond.eq X F).value args Z none Z idx = some true) : X.eval args Z none idx Z = some (.ref a) := by
  obtain ⟨x, y', e1, e2, k1, k2⟩ := cmp_v (Or.inl h)
  cases hF.symm.trans e2
  have hx : x.isRef = true := k2.2
  have q := gotT (eq_R e1 hF hx rfl) h
  rw [e1, q]
theorem own_15 {j : Int32} (h1 : ¬ j < 0) (h2 : j < 15) : j = 0 ∨ j = 1 ∨ j = 2 ∨ j = 3 ∨ j = 4 ∨ j = 5 ∨ j = 6 ∨ j = 7 ∨ j = 8 ∨ j = 9 ∨ j = 10 ∨ j = 11 ∨ j = 12 ∨ j = 13 ∨ j = 14 := by
  have c0 : (0 : Int32).toInt = 0 := by decide
  have c15 : (15 : Int32).toInt = 15 := by decide
  rw [own_lt, c0] at h1; rw [own_lt, c15] at h2
  have d0 : (0 : Int32).toInt = 0 := by decide
  have d1 : (1 : Int32).toInt = 1 := by decide
  have d2 : (2 : Int32).toInt = 2 := by decide
  have d3 : (3 : Int32).toInt = 3 := by decide
  have d4 : (4 : Int32).toInt = 4 := by decide
  have d5 : (5 : Int32).toInt = 5 := by decide
  have d6 : (6 : Int32).toInt = 6 := by decide
  have d7 : (7 : Int32).toInt = 7 := by decide
  have d8 : (8 : Int32).toInt = 8 := by decide
  have d9 : (9 : Int32).toInt = 9 := by decide
  have d10 : (10 : Int32).toInt = 10 := by decide
  have d11 : (11 : Int32).toInt = 11 := by decide
  have d12 : (12 : Int32).toInt = 12 := by decide
  have d13 : (13 : Int32).toInt = 13 := by decide
  have d14 : (14 : Int32).toInt = 14 := by decide
  simp only [own_eq, d0, d1, d2, d3, d4, d5, d6, d7, d8, d9, d10, d11, d12, d13, d14]
  omega
theorem km1 : (-1 : Int32).toInt = -1 := by decide
theorem k0 : (0 : Int32).toInt = 0 := by decide
theorem k1 : (1 : Int32).toInt = 1 := by decide
theorem k14 : (14 : Int32).toInt = 14 := by decide
theorem k15 : (15 : Int32).toInt = 15 := by decide
theorem k16 : (16 : Int32).toInt = 16 := by decide
theorem k17 : (17 : Int32).toInt = 17 := by decide
theorem d2_0 : decode prog_74_method_5_code 0 = .ok (.iload_n 0, 1) := by decide +kernel
theorem d2_1 : decode prog_74_method_5_code 1 = .ok (.ifCond .lt 19, 3) := by decide +kernel
theorem d2_20 : decode prog_74_method_5_code 20 = .ok (.aconst_null, 1) := by decide +kernel
theorem d2_21 : decode prog_74_method_5_code 21 = .ok (.areturn, 1) := by decide +kernel
theorem d2_4 : decode prog_74_method_5_code 4 = .ok (.iload_n 0, 1) := by decide +kernel
theorem d2_5 : decode prog_74_method_5_code 5 = .ok (.getstatic 72, 3) := by decide +kernel
theorem d2_8 : decode prog_74_method_5_code 8 = .ok (.arraylength, 1) := by decide +kernel
theorem d2_9 : decode prog_74_method_5_code 9 = .ok (.if_icmp .ge 11, 3) := by decide +kernel
theorem d2_12 : decode prog_74_method_5_code 12 = .ok (.getstatic 72, 3) := by decide +kernel
theorem d2_15 : decode prog_74_method_5_code 15 = .ok (.iload_n 0, 1) := by decide +kernel
theorem d2_16 : decode prog_74_method_5_code 16 = .ok (.aaload, 1) := by decide +kernel
theorem d2_17 : decode prog_74_method_5_code 17 = .ok (.goto 4, 3) := by decide +kernel
theorem own_pn0 : plainName "com/example/farcall/farcall/rpc/AuthStatus" = true := by first | (simp [plainName, overriddenIn]; done) | decide +kernel
theorem own_ef_rm2 (m : MethodId) (x0 : Int32) : entryFrame m #[(.int x0)] 1 = mkF m 0 #[.val (.int x0)] [] := by first | (simp [entryFrame, mkF, argsToLocals, Value.category]; done) | rfl
def Q_rm2 (Z : State) (x0 : Int32) (aW : Addr) (cl : Cell) (h0 : Heap) (n0 : Nat) : Option Value → Heap → List Loc → Prop := fun v h L => ((x0 < 0 ∨ ¬ x0 < 15) ∧ v = some .null ∨ ¬ x0 < 0 ∧ x0 < 15 ∧ ∃ a, v = some (.ref a) ∧ Exa Z h0 a "com/example/farcall/farcall/rpc/AuthStatus" ∧ Fld Z h0 a "com/example/farcall/farcall/rpc/AuthStatus" "code" "I" (.int x0)) ∧ Fr n0 L ∧ h = h0
set_option maxRecDepth 65536 in
set_option maxHeartbeats 40000000 in
theorem rm2 (l : Launch) (Z : State) (a0 : Array Value) (hw : ∀ d ∈ tables_1, d.before a0 Z = true) (ws : List Jvm.Cond) (x0 : Int32) (aW : Addr) (cl : Cell) (h0 : Heap) (n0 : Nat) (Z0 : n0 ≤ h0.size) (S : Sta Z h0 "com/example/farcall/farcall/rpc/AuthStatus" "BY_CODE" "[Lcom/example/farcall/farcall/rpc/AuthStatus;" (.ref aW)) (A : Arr Z h0 aW cl (.object "com/example/farcall/farcall/rpc/AuthStatus")) (Sz : cl.slots.size = (15 : Int32).toNatClampNeg) (Hat : ∀ j : Int32, ¬ j < 0 → j < 15 → ∃ a, cl.slots[j.toNatClampNeg]? = some (.ref a) ∧ Exa Z h0 a "com/example/farcall/farcall/rpc/AuthStatus" ∧ Fld Z h0 a "com/example/farcall/farcall/rpc/AuthStatus" "code" "I" (.int j)) :
    Ctr l Z (⟨"com/example/farcall/farcall/rpc/AuthStatus", "of", "(I)Lcom/example/farcall/farcall/rpc/AuthStatus;"⟩ : MethodName) prog_74_method_5_code 1 (some (.object "com/example/farcall/farcall/rpc/AuthStatus")) ws ({ frames := 0, cells := 0, slots := 0, locals := 0 } : Room) #[(.int x0)] h0 (Q_rm2 Z x0 aW cl h0 n0) := by
  refine Ctr.intro (plainFor_of_name own_pn0) ?_
  intro p e s m below meth c s₁ hx hby hml hown hnm hret hlk hZ X0 e0
  have hown : s.vm.findClass "com/example/farcall/farcall/rpc/AuthStatus" = some m.cls := hown
  have hml : c.maxLocals = 1 := hml
  have N0 := Fr.nil n0
  refine Go.cast (own_ef_rm2 m x0) ?_
  show Go p e below s₁ (mkF m 0 #[.val (.int x0)] []) _
  refine Go.of (fun _ k => XS.iloadN X0.here hx rfl (hb hby d2_0) rfl  k) ?_
  show Go p e below s₁ (mkF m 1 #[.val (.int x0)] [(.int x0)]) _
  by_cases hc1_0 : x0 < (0 : Int32)
  · refine Go.of (fun _ k => XS.ifYes X0.here hx rfl (pc0 := 1) (pc' := 20) rfl (hb hby d2_1) rfl ((if0 _ _).trans (tlt hc1_0).1) (by decide) (by decide) k) ?_
    show Go p e below s₁ (mkF m 20 #[.val (.int x0)] []) _
    refine Go.of (fun _ k => XS.aconstNull X0.here hx rfl (hb hby d2_20) k) ?_
    show Go p e below s₁ (mkF m 21 #[.val (.int x0)] [.null]) _
    refine Go.retA X0 hx hret hlk rfl rfl (hb hby d2_21) e0 (by decide) (by decide) ?_
    exact ⟨Or.inl ⟨Or.inl hc1_0, rfl⟩, N0, rfl⟩
  · refine Go.of (fun _ k => XS.ifNo X0.here hx rfl (hb hby d2_1) rfl ((if0 _ _).trans (flt hc1_0).1) k) ?_
    show Go p e below s₁ (mkF m 4 #[.val (.int x0)] []) _
    refine Go.of (fun _ k => XS.iloadN X0.here hx rfl (hb hby d2_4) rfl  k) ?_
    show Go p e below s₁ (mkF m 5 #[.val (.int x0)] [(.int x0)]) _
    obtain ⟨T1, X1, e1, st1⟩ := getS2 X0 hx hZ hown (host := "") (Or.inl (hw _ (List.mem_of_getElem? (i := 9) rfl))) Via.refl e0 S (g := (mkF m 5 #[.val (.int x0)] [(.int x0)])) rfl (hb hby d2_5)
    refine Go.of (fun _ k => st1 _ k) ?_
    show Go p e below T1 (mkF m 8 #[.val (.int x0)] [(.ref aW), (.int x0)]) _
    refine Go.of (fun _ k => X1.arraylength hx (by rw [e1]; exact A.1) (State.isArrayOf_alike hZ.alike A.2.1) (g := (mkF m 8 #[.val (.int x0)] [(.ref aW), (.int x0)])) rfl rfl (hb hby d2_8) _ k) ?_
    rw [len_of Sz (by decide)]
    show Go p e below T1 (mkF m 9 #[.val (.int x0)] [(.int (15 : Int32)), (.int x0)]) _
    by_cases hc9_1 : x0 < (15 : Int32)
    · refine Go.of (fun _ k => XS.icmpNo X1.here hx rfl (hb hby d2_9) rfl (tlt hc9_1).2.1 k) ?_
      show Go p e below T1 (mkF m 12 #[.val (.int x0)] []) _
      obtain ⟨ax, hat, Ex, Fx⟩ := Hat x0 hc1_0 hc9_1
      obtain ⟨T2, X2, e2, st2⟩ := getS2 X1 hx hZ hown (host := "") (Or.inl (hw _ (List.mem_of_getElem? (i := 9) rfl))) Via.refl e1 S (g := (mkF m 12 #[.val (.int x0)] [])) rfl (hb hby d2_12)
      refine Go.of (fun _ k => st2 _ k) ?_
      show Go p e below T2 (mkF m 15 #[.val (.int x0)] [(.ref aW)]) _
      refine Go.of (fun _ k => XS.iloadN X2.here hx rfl (hb hby d2_15) rfl  k) ?_
      show Go p e below T2 (mkF m 16 #[.val (.int x0)] [(.int x0), (.ref aW)]) _
      refine Go.of (fun _ k => X2.aaload hx (j := x0) (v := (.ref ax)) (by rw [e2]; exact A.1) (State.isArrayOf_alike hZ.alike A.2.1) rfl A.2.2 (inb_of (z := 15) Sz ⟨hc1_0, hc9_1⟩) hat (g := (mkF m 16 #[.val (.int x0)] [(.int x0), (.ref aW)])) rfl rfl (hb hby d2_16) _ k) ?_
      show Go p e below T2 (mkF m 17 #[.val (.int x0)] [(.ref ax)]) _
      refine Go.of (fun _ k => XS.goto X2.here hx rfl (pc0 := 17) (pc' := 21) rfl (hb hby d2_17) (by decide) (by decide) k) ?_
      show Go p e below T2 (mkF m 21 #[.val (.int x0)] [(.ref ax)]) _
      refine Go.retA X2 hx hret hlk rfl rfl (hb hby d2_21) e2 (by decide) (by decide) ?_
      exact ⟨Or.inr ⟨hc1_0, hc9_1, ax, rfl, Ex, Fx⟩, N0, rfl⟩
    · refine Go.of (fun _ k => XS.icmpYes X1.here hx rfl (pc0 := 9) (pc' := 20) rfl (hb hby d2_9) rfl (flt hc9_1).2.1 (by decide) (by decide) k) ?_
      show Go p e below T1 (mkF m 20 #[.val (.int x0)] []) _
      refine Go.of (fun _ k => XS.aconstNull X1.here hx rfl (hb hby d2_20) k) ?_
      show Go p e below T1 (mkF m 21 #[.val (.int x0)] [.null]) _
      refine Go.retA X1 hx hret hlk rfl rfl (hb hby d2_21) e1 (by decide) (by decide) ?_
      exact ⟨Or.inl ⟨Or.inr hc9_1, rfl⟩, N0, rfl⟩
theorem d3_0 : decode prog_74_method_4_code 0 = .ok (.aload_n 0, 1) := by decide +kernel
theorem d3_1 : decode prog_74_method_4_code 1 = .ok (.getfield 68, 3) := by decide +kernel
theorem d3_4 : decode prog_74_method_4_code 4 = .ok (.ireturn, 1) := by decide +kernel
theorem own_ef_rm3 (m : MethodId) (x0 : Addr) : entryFrame m #[(.ref x0)] 1 = mkF m 0 #[.val (.ref x0)] [] := by first | (simp [entryFrame, mkF, argsToLocals, Value.category]; done) | rfl
def Q_rm3 (Z : State) (x0 : Addr) (k : Int32) (h0 : Heap) (n0 : Nat) : Option Value → Heap → List Loc → Prop := fun v h L => v = some (.int k) ∧ Fr n0 L ∧ h = h0
set_option maxRecDepth 65536 in
set_option maxHeartbeats 40000000 in
theorem rm3 (l : Launch) (Z : State) (a0 : Array Value) (hw : ∀ d ∈ tables_1, d.before a0 Z = true) (ws : List Jvm.Cond) (x0 : Addr) (k : Int32) (h0 : Heap) (n0 : Nat) (Z0 : n0 ≤ h0.size) (F : Fld Z h0 x0 "com/example/farcall/farcall/rpc/AuthStatus" "code" "I" (.int k)) :
    Ctr l Z (⟨"com/example/farcall/farcall/rpc/AuthStatus", "code", "()I"⟩ : MethodName) prog_74_method_4_code 1 (some .int) ws ({ frames := 0, cells := 0, slots := 0, locals := 0 } : Room) #[(.ref x0)] h0 (Q_rm3 Z x0 k h0 n0) := by
  refine Ctr.intro (plainFor_of_name own_pn0) ?_
  intro p e s m below meth c s₁ hx hby hml hown hnm hret hlk hZ X0 e0
  have hown : s.vm.findClass "com/example/farcall/farcall/rpc/AuthStatus" = some m.cls := hown
  have hml : c.maxLocals = 1 := hml
  have N0 := Fr.nil n0
  refine Go.cast (own_ef_rm3 m x0) ?_
  show Go p e below s₁ (mkF m 0 #[.val (.ref x0)] []) _
  refine Go.of (fun _ k => XS.aloadN X0.here hx rfl (hb hby d3_0) rfl rfl  k) ?_
  show Go p e below s₁ (mkF m 1 #[.val (.ref x0)] [(.ref x0)]) _
  obtain ⟨T1, X1, e1, st1⟩ := getF X0 hx hZ hown (host := "") (Or.inl (hw _ (List.mem_of_getElem? (i := 17) rfl))) Via.refl e0 F (g := (mkF m 1 #[.val (.ref x0)] [(.ref x0)])) rfl rfl (hb hby d3_1)
  refine Go.of (fun _ k => st1 _ k) ?_
  show Go p e below T1 (mkF m 4 #[.val (.ref x0)] [(.int k)]) _
  refine Go.retI X1 hx hret hlk (hb hby d3_4) e1 (by decide) (by decide) ?_
  exact ⟨rfl, N0, rfl⟩
theorem d1_0 : decode method_3_code 0 = .ok (.iload_n 0, 1) := by decide +kernel
theorem d1_1 : decode method_3_code 1 = .ok (.invokestatic 14, 3) := by decide +kernel
theorem own_pd0 : parseMethodDescriptor "(I)Lcom/example/farcall/farcall/rpc/AuthStatus;" = some ⟨[.int], some (.object "com/example/farcall/farcall/rpc/AuthStatus")⟩ := by decide +kernel
theorem d1_4 : decode method_3_code 4 = .ok (.astore_n 1, 1) := by decide +kernel
theorem d1_5 : decode method_3_code 5 = .ok (.iload_n 0, 1) := by decide +kernel
theorem d1_6 : decode method_3_code 6 = .ok (.ifCond .lt 13, 3) := by decide +kernel
theorem d1_19 : decode method_3_code 19 = .ok (.iconst 0, 1) := by decide +kernel
theorem d1_20 : decode method_3_code 20 = .ok (.istore_n 2, 1) := by decide +kernel
theorem d1_21 : decode method_3_code 21 = .ok (.iload_n 2, 1) := by decide +kernel
theorem d1_22 : decode method_3_code 22 = .ok (.ifCond .ne 13, 3) := by decide +kernel
theorem d1_25 : decode method_3_code 25 = .ok (.aload_n 1, 1) := by decide +kernel
theorem d1_26 : decode method_3_code 26 = .ok (.ifnonnull 7, 3) := by decide +kernel
theorem d1_29 : decode method_3_code 29 = .ok (.iconst 1, 1) := by decide +kernel
theorem d1_30 : decode method_3_code 30 = .ok (.goto 4, 3) := by decide +kernel
theorem d1_34 : decode method_3_code 34 = .ok (.ireturn, 1) := by decide +kernel
theorem d1_9 : decode method_3_code 9 = .ok (.iload_n 0, 1) := by decide +kernel
theorem d1_10 : decode method_3_code 10 = .ok (.bipush 14, 2) := by decide +kernel
theorem d1_12 : decode method_3_code 12 = .ok (.if_icmp .gt 7, 3) := by decide +kernel
theorem d1_15 : decode method_3_code 15 = .ok (.iconst 1, 1) := by decide +kernel
theorem d1_16 : decode method_3_code 16 = .ok (.goto 4, 3) := by decide +kernel
theorem d1_35 : decode method_3_code 35 = .ok (.aload_n 1, 1) := by decide +kernel
theorem d1_36 : decode method_3_code 36 = .ok (.ifnull 15, 3) := by decide +kernel
theorem d1_51 : decode method_3_code 51 = .ok (.iconst 0, 1) := by decide +kernel
theorem d1_52 : decode method_3_code 52 = .ok (.ireturn, 1) := by decide +kernel
theorem d1_33 : decode method_3_code 33 = .ok (.iconst 0, 1) := by decide +kernel
theorem d1_39 : decode method_3_code 39 = .ok (.aload_n 1, 1) := by decide +kernel
theorem d1_40 : decode method_3_code 40 = .ok (.invokevirtual 20, 3) := by decide +kernel
theorem own_pd1 : parseMethodDescriptor "()I" = some ⟨[], some .int⟩ := by decide +kernel
theorem d1_43 : decode method_3_code 43 = .ok (.iload_n 0, 1) := by decide +kernel
theorem d1_44 : decode method_3_code 44 = .ok (.if_icmp .ne 7, 3) := by decide +kernel
theorem d1_47 : decode method_3_code 47 = .ok (.iconst 1, 1) := by decide +kernel
theorem d1_48 : decode method_3_code 48 = .ok (.goto 4, 3) := by decide +kernel
theorem own_pn1 : plainName "com/example/farcall/farcall/rpc/AuthStatusOfPinLaw" = true := by first | (simp [plainName, overriddenIn]; done) | decide +kernel
theorem own_ef_rm1 (m : MethodId) (x0 : Int32) : entryFrame m #[(.int x0)] 3 = mkF m 0 #[.val (.int x0), .unset, .unset] [] := by first | (simp [entryFrame, mkF, argsToLocals, Value.category]; done) | rfl
def Q_rm1 (Z : State) (x0 : Int32) (aW : Addr) (cl : Cell) (h0 : Heap) (n0 : Nat) : Option Value → Heap → List Loc → Prop := fun v h L => v = some (.int 1) ∧ Fr n0 L ∧ h = h0
set_option maxRecDepth 65536 in
set_option maxHeartbeats 40000000 in
theorem rm1 (l : Launch) (Z : State) (a0 : Array Value) (hw : ∀ d ∈ tables_1, d.before a0 Z = true) (ws : List Jvm.Cond) (x0 : Int32) (aW : Addr) (cl : Cell) (h0 : Heap) (n0 : Nat) (Z0 : n0 ≤ h0.size) (S : Sta Z h0 "com/example/farcall/farcall/rpc/AuthStatus" "BY_CODE" "[Lcom/example/farcall/farcall/rpc/AuthStatus;" (.ref aW)) (A : Arr Z h0 aW cl (.object "com/example/farcall/farcall/rpc/AuthStatus")) (Sz : cl.slots.size = (15 : Int32).toNatClampNeg) (Hat : ∀ j : Int32, ¬ j < 0 → j < 15 → ∃ a, cl.slots[j.toNatClampNeg]? = some (.ref a) ∧ Exa Z h0 a "com/example/farcall/farcall/rpc/AuthStatus" ∧ Fld Z h0 a "com/example/farcall/farcall/rpc/AuthStatus" "code" "I" (.int j)) :
    Ctr l Z (⟨"com/example/farcall/farcall/rpc/AuthStatusOfPinLaw", "ok", "(I)Z"⟩ : MethodName) method_3_code 3 (some .boolean) ws ({ frames := 1, cells := 0, slots := 0, locals := 12 } : Room) #[(.int x0)] h0 (Q_rm1 Z x0 aW cl h0 n0) := by
  refine Ctr.intro (plainFor_of_name own_pn1) ?_
  intro p e s m below meth c s₁ hx hby hml hown hnm hret hlk hZ X0 e0
  have hown : s.vm.findClass "com/example/farcall/farcall/rpc/AuthStatusOfPinLaw" = some m.cls := hown
  have hml : c.maxLocals = 3 := hml
  have N0 := Fr.nil n0
  refine Go.cast (own_ef_rm1 m x0) ?_
  show Go p e below s₁ (mkF m 0 #[.val (.int x0), .unset, .unset] []) _
  refine Go.of (fun _ k => XS.iloadN X0.here hx rfl (hb hby d1_0) rfl  k) ?_
  show Go p e below s₁ (mkF m 1 #[.val (.int x0), .unset, .unset] [(.int x0)]) _
  obtain ⟨_, _, ⟨T1, L1, kq1, nq1⟩, -, X1, ⟨Lc1, hQ1, l1, y1, z1⟩, st1⟩ := Jvm.LawKit.callS X0 hx (y := (⟨"com/example/farcall/farcall/rpc/AuthStatus", "of", "(I)Lcom/example/farcall/farcall/rpc/AuthStatus;"⟩ : MethodName)) hown (mvT hZ (hw _ (List.mem_of_getElem? (i := 5) rfl))) (mvT hZ (hw _ (List.mem_of_getElem? (i := 6) rfl))) (mvT hZ (hw _ (List.mem_of_getElem? (i := 7) rfl))) (mvT hZ (hw _ (List.mem_of_getElem? (i := 8) rfl))) (by decide) (backOf (W := 0) (rm2 l Z a0 hw [] x0 aW cl h0 n0 Z0 S A Sz Hat) hZ (hw _ (List.mem_of_getElem? (i := 8) rfl)) (hw _ (List.mem_of_getElem? (i := 7) rfl)) (by decide) (by decide)) (g := (mkF m 1 #[.val (.int x0), .unset, .unset] [(.int x0)])) rfl (by rw [hml]; rfl) (argsL := [(.int x0)]) (rest := []) (lenOf own_pd0 rfl) rfl (by show 2 * 0 + _ ≤ _; exact Nat.le_of_eq rfl) (hb hby d1_1) (fun _ _ => ⟨rfl, e0, (by decide : 0 + 0 ≤ _), (by decide : 0 + 0 ≤ _)⟩)
  dsimp only [Pt.U, Pt.locs, Pt.cells, Pt.slots] at X1 l1 y1 z1 st1 hQ1
  subst l1 y1 z1
  obtain ⟨hQ1, Nq1, e1⟩ := hQ1
  have N1 := Fr.app N0 Nq1
  rcases hQ1 with ⟨ho, rfl⟩ | ⟨ho1, ho2, ax, rfl, Ex, Fx⟩
  · refine Go.of (fun _ k => st1 _ k) ?_
    show Go p e below T1 (mkF m 4 #[.val (.int x0), .unset, .unset] [.null]) _
    refine Go.of (fun _ k => XS.astoreN X1.here hx rfl (hb hby d1_4) rfl rfl (l' := #[.val (.int x0), .val .null, .unset]) rfl k) ?_
    show Go p e below T1 (mkF m 5 #[.val (.int x0), .val .null, .unset] []) _
    refine Go.of (fun _ k => XS.iloadN X1.here hx rfl (hb hby d1_5) rfl  k) ?_
    show Go p e below T1 (mkF m 6 #[.val (.int x0), .val .null, .unset] [(.int x0)]) _
    by_cases hc6_0 : x0 < (0 : Int32)
    · refine Go.of (fun _ k => XS.ifYes X1.here hx rfl (pc0 := 6) (pc' := 19) rfl (hb hby d1_6) rfl ((if0 _ _).trans (tlt hc6_0).1) (by decide) (by decide) k) ?_
      show Go p e below T1 (mkF m 19 #[.val (.int x0), .val .null, .unset] []) _
      refine Go.of (fun _ k => XS.iconst X1.here hx rfl (hb hby d1_19) k) ?_
      show Go p e below T1 (mkF m 20 #[.val (.int x0), .val .null, .unset] [(.int (0 : Int32))]) _
      refine Go.of (fun _ k => XS.istoreN X1.here hx rfl (hb hby d1_20) rfl (l' := #[.val (.int x0), .val .null, .val (.int (0 : Int32))]) rfl k) ?_
      show Go p e below T1 (mkF m 21 #[.val (.int x0), .val .null, .val (.int (0 : Int32))] []) _
      refine Go.of (fun _ k => XS.iloadN X1.here hx rfl (hb hby d1_21) rfl  k) ?_
      show Go p e below T1 (mkF m 22 #[.val (.int x0), .val .null, .val (.int (0 : Int32))] [(.int (0 : Int32))]) _
      refine Go.of (fun _ k => XS.ifNo X1.here hx rfl (hb hby d1_22) rfl ((if0 _ _).trans (teq (show (0 : Int32) = (0 : Int32) from (by decide))).2) k) ?_
      show Go p e below T1 (mkF m 25 #[.val (.int x0), .val .null, .val (.int (0 : Int32))] []) _
      refine Go.of (fun _ k => XS.aloadN X1.here hx rfl (hb hby d1_25) rfl rfl  k) ?_
      show Go p e below T1 (mkF m 26 #[.val (.int x0), .val .null, .val (.int (0 : Int32))] [.null]) _
      refine Go.of (fun _ k => XS.ifnonnullNo X1.here hx rfl (hb hby d1_26) rfl k) ?_
      show Go p e below T1 (mkF m 29 #[.val (.int x0), .val .null, .val (.int (0 : Int32))] []) _
      refine Go.of (fun _ k => XS.iconst X1.here hx rfl (hb hby d1_29) k) ?_
      show Go p e below T1 (mkF m 30 #[.val (.int x0), .val .null, .val (.int (0 : Int32))] [(.int (1 : Int32))]) _
      refine Go.of (fun _ k => XS.goto X1.here hx rfl (pc0 := 30) (pc' := 34) rfl (hb hby d1_30) (by decide) (by decide) k) ?_
      show Go p e below T1 (mkF m 34 #[.val (.int x0), .val .null, .val (.int (0 : Int32))] [(.int (1 : Int32))]) _
      refine Go.retN X1 hx (t := .boolean) hret hlk (by simp) (hb hby d1_34) e1 (by decide) (by decide) ?_
      exact ⟨rfl, N1, rfl⟩
    · refine Go.of (fun _ k => XS.ifNo X1.here hx rfl (hb hby d1_6) rfl ((if0 _ _).trans (flt hc6_0).1) k) ?_
      show Go p e below T1 (mkF m 9 #[.val (.int x0), .val .null, .unset] []) _
      refine Go.of (fun _ k => XS.iloadN X1.here hx rfl (hb hby d1_9) rfl  k) ?_
      show Go p e below T1 (mkF m 10 #[.val (.int x0), .val .null, .unset] [(.int x0)]) _
      refine Go.of (fun _ k => XS.bipush X1.here hx rfl (hb hby d1_10) k) ?_
      show Go p e below T1 (mkF m 12 #[.val (.int x0), .val .null, .unset] [(.int (14 : Int32)), (.int x0)]) _
      by_cases hc12_1 : (14 : Int32) < x0
      · refine Go.of (fun _ k => XS.icmpYes X1.here hx rfl (pc0 := 12) (pc' := 19) rfl (hb hby d1_12) rfl (tlt hc12_1).2.2.1 (by decide) (by decide) k) ?_
        show Go p e below T1 (mkF m 19 #[.val (.int x0), .val .null, .unset] []) _
        refine Go.of (fun _ k => XS.iconst X1.here hx rfl (hb hby d1_19) k) ?_
        show Go p e below T1 (mkF m 20 #[.val (.int x0), .val .null, .unset] [(.int (0 : Int32))]) _
        refine Go.of (fun _ k => XS.istoreN X1.here hx rfl (hb hby d1_20) rfl (l' := #[.val (.int x0), .val .null, .val (.int (0 : Int32))]) rfl k) ?_
        show Go p e below T1 (mkF m 21 #[.val (.int x0), .val .null, .val (.int (0 : Int32))] []) _
        refine Go.of (fun _ k => XS.iloadN X1.here hx rfl (hb hby d1_21) rfl  k) ?_
        show Go p e below T1 (mkF m 22 #[.val (.int x0), .val .null, .val (.int (0 : Int32))] [(.int (0 : Int32))]) _
        refine Go.of (fun _ k => XS.ifNo X1.here hx rfl (hb hby d1_22) rfl ((if0 _ _).trans (teq (show (0 : Int32) = (0 : Int32) from (by decide))).2) k) ?_
        show Go p e below T1 (mkF m 25 #[.val (.int x0), .val .null, .val (.int (0 : Int32))] []) _
        refine Go.of (fun _ k => XS.aloadN X1.here hx rfl (hb hby d1_25) rfl rfl  k) ?_
        show Go p e below T1 (mkF m 26 #[.val (.int x0), .val .null, .val (.int (0 : Int32))] [.null]) _
        refine Go.of (fun _ k => XS.ifnonnullNo X1.here hx rfl (hb hby d1_26) rfl k) ?_
        show Go p e below T1 (mkF m 29 #[.val (.int x0), .val .null, .val (.int (0 : Int32))] []) _
        refine Go.of (fun _ k => XS.iconst X1.here hx rfl (hb hby d1_29) k) ?_
        show Go p e below T1 (mkF m 30 #[.val (.int x0), .val .null, .val (.int (0 : Int32))] [(.int (1 : Int32))]) _
        refine Go.of (fun _ k => XS.goto X1.here hx rfl (pc0 := 30) (pc' := 34) rfl (hb hby d1_30) (by decide) (by decide) k) ?_
        show Go p e below T1 (mkF m 34 #[.val (.int x0), .val .null, .val (.int (0 : Int32))] [(.int (1 : Int32))]) _
        refine Go.retN X1 hx (t := .boolean) hret hlk (by simp) (hb hby d1_34) e1 (by decide) (by decide) ?_
        exact ⟨rfl, N1, rfl⟩
      · refine Go.of (fun _ k => XS.icmpNo X1.here hx rfl (hb hby d1_12) rfl (flt hc12_1).2.2.1 k) ?_
        show Go p e below T1 (mkF m 15 #[.val (.int x0), .val .null, .unset] []) _
        refine Go.of (fun _ k => XS.iconst X1.here hx rfl (hb hby d1_15) k) ?_
        show Go p e below T1 (mkF m 16 #[.val (.int x0), .val .null, .unset] [(.int (1 : Int32))]) _
        refine Go.of (fun _ k => XS.goto X1.here hx rfl (pc0 := 16) (pc' := 20) rfl (hb hby d1_16) (by decide) (by decide) k) ?_
        show Go p e below T1 (mkF m 20 #[.val (.int x0), .val .null, .unset] [(.int (1 : Int32))]) _
        refine Go.of (fun _ k => XS.istoreN X1.here hx rfl (hb hby d1_20) rfl (l' := #[.val (.int x0), .val .null, .val (.int (1 : Int32))]) rfl k) ?_
        show Go p e below T1 (mkF m 21 #[.val (.int x0), .val .null, .val (.int (1 : Int32))] []) _
        refine Go.of (fun _ k => XS.iloadN X1.here hx rfl (hb hby d1_21) rfl  k) ?_
        show Go p e below T1 (mkF m 22 #[.val (.int x0), .val .null, .val (.int (1 : Int32))] [(.int (1 : Int32))]) _
        refine Go.of (fun _ k => XS.ifYes X1.here hx rfl (pc0 := 22) (pc' := 35) rfl (hb hby d1_22) rfl ((if0 _ _).trans (feq (show ¬ ((1 : Int32) = (0 : Int32)) from (by decide))).2) (by decide) (by decide) k) ?_
        show Go p e below T1 (mkF m 35 #[.val (.int x0), .val .null, .val (.int (1 : Int32))] []) _
        refine Go.of (fun _ k => XS.aloadN X1.here hx rfl (hb hby d1_35) rfl rfl  k) ?_
        show Go p e below T1 (mkF m 36 #[.val (.int x0), .val .null, .val (.int (1 : Int32))] [.null]) _
        refine Go.of (fun _ k => XS.ifnullYes X1.here hx rfl (pc0 := 36) (pc' := 51) rfl (hb hby d1_36) rfl (by decide) (by decide) k) ?_
        show Go p e below T1 (mkF m 51 #[.val (.int x0), .val .null, .val (.int (1 : Int32))] []) _
        refine Go.of (fun _ k => XS.iconst X1.here hx rfl (hb hby d1_51) k) ?_
        show Go p e below T1 (mkF m 52 #[.val (.int x0), .val .null, .val (.int (1 : Int32))] [(.int (0 : Int32))]) _
        refine Go.retN X1 hx (t := .boolean) hret hlk (by simp) (hb hby d1_52) e1 (by decide) (by decide) ?_
        exfalso
        simp only [own_lt, km1, k0, k1, k14, k15, k16, k17] at ho hc6_0 hc12_1
        omega
  · refine Go.of (fun _ k => st1 _ k) ?_
    show Go p e below T1 (mkF m 4 #[.val (.int x0), .unset, .unset] [(.ref ax)]) _
    refine Go.of (fun _ k => XS.astoreN X1.here hx rfl (hb hby d1_4) rfl rfl (l' := #[.val (.int x0), .val (.ref ax), .unset]) rfl k) ?_
    show Go p e below T1 (mkF m 5 #[.val (.int x0), .val (.ref ax), .unset] []) _
    refine Go.of (fun _ k => XS.iloadN X1.here hx rfl (hb hby d1_5) rfl  k) ?_
    show Go p e below T1 (mkF m 6 #[.val (.int x0), .val (.ref ax), .unset] [(.int x0)]) _
    by_cases hc6_0 : x0 < (0 : Int32)
    · refine Go.of (fun _ k => XS.ifYes X1.here hx rfl (pc0 := 6) (pc' := 19) rfl (hb hby d1_6) rfl ((if0 _ _).trans (tlt hc6_0).1) (by decide) (by decide) k) ?_
      show Go p e below T1 (mkF m 19 #[.val (.int x0), .val (.ref ax), .unset] []) _
      refine Go.of (fun _ k => XS.iconst X1.here hx rfl (hb hby d1_19) k) ?_
      show Go p e below T1 (mkF m 20 #[.val (.int x0), .val (.ref ax), .unset] [(.int (0 : Int32))]) _
      refine Go.of (fun _ k => XS.istoreN X1.here hx rfl (hb hby d1_20) rfl (l' := #[.val (.int x0), .val (.ref ax), .val (.int (0 : Int32))]) rfl k) ?_
      show Go p e below T1 (mkF m 21 #[.val (.int x0), .val (.ref ax), .val (.int (0 : Int32))] []) _
      refine Go.of (fun _ k => XS.iloadN X1.here hx rfl (hb hby d1_21) rfl  k) ?_
      show Go p e below T1 (mkF m 22 #[.val (.int x0), .val (.ref ax), .val (.int (0 : Int32))] [(.int (0 : Int32))]) _
      refine Go.of (fun _ k => XS.ifNo X1.here hx rfl (hb hby d1_22) rfl ((if0 _ _).trans (teq (show (0 : Int32) = (0 : Int32) from (by decide))).2) k) ?_
      show Go p e below T1 (mkF m 25 #[.val (.int x0), .val (.ref ax), .val (.int (0 : Int32))] []) _
      refine Go.of (fun _ k => XS.aloadN X1.here hx rfl (hb hby d1_25) rfl rfl  k) ?_
      show Go p e below T1 (mkF m 26 #[.val (.int x0), .val (.ref ax), .val (.int (0 : Int32))] [(.ref ax)]) _
      refine Go.of (fun _ k => XS.ifnonnullYes X1.here hx rfl (pc0 := 26) (pc' := 33) rfl (hb hby d1_26) rfl (by decide) (by decide) k) ?_
      show Go p e below T1 (mkF m 33 #[.val (.int x0), .val (.ref ax), .val (.int (0 : Int32))] []) _
      refine Go.of (fun _ k => XS.iconst X1.here hx rfl (hb hby d1_33) k) ?_
      show Go p e below T1 (mkF m 34 #[.val (.int x0), .val (.ref ax), .val (.int (0 : Int32))] [(.int (0 : Int32))]) _
      refine Go.retN X1 hx (t := .boolean) hret hlk (by simp) (hb hby d1_34) e1 (by decide) (by decide) ?_
      exfalso
      simp only [own_lt, km1, k0, k1, k14, k15, k16, k17] at ho1 ho2 hc6_0
      omega
    · refine Go.of (fun _ k => XS.ifNo X1.here hx rfl (hb hby d1_6) rfl ((if0 _ _).trans (flt hc6_0).1) k) ?_
      show Go p e below T1 (mkF m 9 #[.val (.int x0), .val (.ref ax), .unset] []) _
      refine Go.of (fun _ k => XS.iloadN X1.here hx rfl (hb hby d1_9) rfl  k) ?_
      show Go p e below T1 (mkF m 10 #[.val (.int x0), .val (.ref ax), .unset] [(.int x0)]) _
      refine Go.of (fun _ k => XS.bipush X1.here hx rfl (hb hby d1_10) k) ?_
      show Go p e below T1 (mkF m 12 #[.val (.int x0), .val (.ref ax), .unset] [(.int (14 : Int32)), (.int x0)]) _
      by_cases hc12_1 : (14 : Int32) < x0
      · refine Go.of (fun _ k => XS.icmpYes X1.here hx rfl (pc0 := 12) (pc' := 19) rfl (hb hby d1_12) rfl (tlt hc12_1).2.2.1 (by decide) (by decide) k) ?_
        show Go p e below T1 (mkF m 19 #[.val (.int x0), .val (.ref ax), .unset] []) _
        refine Go.of (fun _ k => XS.iconst X1.here hx rfl (hb hby d1_19) k) ?_
        show Go p e below T1 (mkF m 20 #[.val (.int x0), .val (.ref ax), .unset] [(.int (0 : Int32))]) _
        refine Go.of (fun _ k => XS.istoreN X1.here hx rfl (hb hby d1_20) rfl (l' := #[.val (.int x0), .val (.ref ax), .val (.int (0 : Int32))]) rfl k) ?_
        show Go p e below T1 (mkF m 21 #[.val (.int x0), .val (.ref ax), .val (.int (0 : Int32))] []) _
        refine Go.of (fun _ k => XS.iloadN X1.here hx rfl (hb hby d1_21) rfl  k) ?_
        show Go p e below T1 (mkF m 22 #[.val (.int x0), .val (.ref ax), .val (.int (0 : Int32))] [(.int (0 : Int32))]) _
        refine Go.of (fun _ k => XS.ifNo X1.here hx rfl (hb hby d1_22) rfl ((if0 _ _).trans (teq (show (0 : Int32) = (0 : Int32) from (by decide))).2) k) ?_
        show Go p e below T1 (mkF m 25 #[.val (.int x0), .val (.ref ax), .val (.int (0 : Int32))] []) _
        refine Go.of (fun _ k => XS.aloadN X1.here hx rfl (hb hby d1_25) rfl rfl  k) ?_
        show Go p e below T1 (mkF m 26 #[.val (.int x0), .val (.ref ax), .val (.int (0 : Int32))] [(.ref ax)]) _
        refine Go.of (fun _ k => XS.ifnonnullYes X1.here hx rfl (pc0 := 26) (pc' := 33) rfl (hb hby d1_26) rfl (by decide) (by decide) k) ?_
        show Go p e below T1 (mkF m 33 #[.val (.int x0), .val (.ref ax), .val (.int (0 : Int32))] []) _
        refine Go.of (fun _ k => XS.iconst X1.here hx rfl (hb hby d1_33) k) ?_
        show Go p e below T1 (mkF m 34 #[.val (.int x0), .val (.ref ax), .val (.int (0 : Int32))] [(.int (0 : Int32))]) _
        refine Go.retN X1 hx (t := .boolean) hret hlk (by simp) (hb hby d1_34) e1 (by decide) (by decide) ?_
        exfalso
        simp only [own_lt, km1, k0, k1, k14, k15, k16, k17] at ho1 ho2 hc6_0 hc12_1
        omega
      · refine Go.of (fun _ k => XS.icmpNo X1.here hx rfl (hb hby d1_12) rfl (flt hc12_1).2.2.1 k) ?_
        show Go p e below T1 (mkF m 15 #[.val (.int x0), .val (.ref ax), .unset] []) _
        refine Go.of (fun _ k => XS.iconst X1.here hx rfl (hb hby d1_15) k) ?_
        show Go p e below T1 (mkF m 16 #[.val (.int x0), .val (.ref ax), .unset] [(.int (1 : Int32))]) _
        refine Go.of (fun _ k => XS.goto X1.here hx rfl (pc0 := 16) (pc' := 20) rfl (hb hby d1_16) (by decide) (by decide) k) ?_
        show Go p e below T1 (mkF m 20 #[.val (.int x0), .val (.ref ax), .unset] [(.int (1 : Int32))]) _
        refine Go.of (fun _ k => XS.istoreN X1.here hx rfl (hb hby d1_20) rfl (l' := #[.val (.int x0), .val (.ref ax), .val (.int (1 : Int32))]) rfl k) ?_
        show Go p e below T1 (mkF m 21 #[.val (.int x0), .val (.ref ax), .val (.int (1 : Int32))] []) _
        refine Go.of (fun _ k => XS.iloadN X1.here hx rfl (hb hby d1_21) rfl  k) ?_
        show Go p e below T1 (mkF m 22 #[.val (.int x0), .val (.ref ax), .val (.int (1 : Int32))] [(.int (1 : Int32))]) _
        refine Go.of (fun _ k => XS.ifYes X1.here hx rfl (pc0 := 22) (pc' := 35) rfl (hb hby d1_22) rfl ((if0 _ _).trans (feq (show ¬ ((1 : Int32) = (0 : Int32)) from (by decide))).2) (by decide) (by decide) k) ?_
        show Go p e below T1 (mkF m 35 #[.val (.int x0), .val (.ref ax), .val (.int (1 : Int32))] []) _
        refine Go.of (fun _ k => XS.aloadN X1.here hx rfl (hb hby d1_35) rfl rfl  k) ?_
        show Go p e below T1 (mkF m 36 #[.val (.int x0), .val (.ref ax), .val (.int (1 : Int32))] [(.ref ax)]) _
        refine Go.of (fun _ k => XS.ifnullNo X1.here hx rfl (hb hby d1_36) rfl k) ?_
        show Go p e below T1 (mkF m 39 #[.val (.int x0), .val (.ref ax), .val (.int (1 : Int32))] []) _
        refine Go.of (fun _ k => XS.aloadN X1.here hx rfl (hb hby d1_39) rfl rfl  k) ?_
        show Go p e below T1 (mkF m 40 #[.val (.int x0), .val (.ref ax), .val (.int (1 : Int32))] [(.ref ax)]) _
        obtain ⟨cq2, kq2, q2a, q2b, q2c⟩ := isOf hZ e1 Ex
        obtain ⟨_, _, ⟨T2, L2, kq2, nq2⟩, -, X2, ⟨Lc2, hQ2, l2, y2, z2⟩, st2⟩ := X1.virtualBack hx (y := (⟨"com/example/farcall/farcall/rpc/AuthStatus", "code", "()I"⟩ : MethodName)) (z := (⟨"com/example/farcall/farcall/rpc/AuthStatus", "code", "()I"⟩ : MethodName)) hown (mvT hZ (hw _ (List.mem_of_getElem? (i := 12) rfl))) (mvT hZ (hw _ (List.mem_of_getElem? (i := 13) rfl))) (notFace_of_selects (args := #[]) (mvT hZ (hw _ (List.mem_of_getElem? (i := 15) rfl)))) (mvT hZ (hw _ (List.mem_of_getElem? (i := 15) rfl))) (mvT hZ (hw _ (List.mem_of_getElem? (i := 14) rfl))) (by decide) (backOf (W := 0) (rm3 l Z a0 hw [] ax x0 h0 n0 Z0 Fx) hZ (hw _ (List.mem_of_getElem? (i := 16) rfl)) (hw _ (List.mem_of_getElem? (i := 7) rfl)) (by decide) (by decide)) q2a q2c (g := (mkF m 40 #[.val (.int x0), .val (.ref ax), .val (.int (1 : Int32))] [(.ref ax)])) rfl (by rw [hml]; rfl) (Steps.refl _) (argsL := []) (rest := []) (lenOf own_pd1 rfl) rfl (by show 2 * 0 + _ ≤ _; exact Nat.le_of_eq rfl) (hb hby d1_40) (fun _ _ => ⟨rfl, e1, (by decide : 0 + 0 ≤ _), (by decide : 0 + 0 ≤ _)⟩)
        dsimp only [Pt.U, Pt.locs, Pt.cells, Pt.slots] at X2 l2 y2 z2 st2 hQ2
        subst l2 y2 z2
        obtain ⟨rfl, Nq2, e2⟩ := hQ2
        have e2 := e2.trans rfl
        have N2 := Fr.app N1 Nq2
        refine Go.of (fun _ k => st2.trans k) ?_
        show Go p e below T2 (mkF m 43 #[.val (.int x0), .val (.ref ax), .val (.int (1 : Int32))] [(.int x0)]) _
        refine Go.of (fun _ k => XS.iloadN X2.here hx rfl (hb hby d1_43) rfl  k) ?_
        show Go p e below T2 (mkF m 44 #[.val (.int x0), .val (.ref ax), .val (.int (1 : Int32))] [(.int x0), (.int x0)]) _
        refine Go.of (fun _ k => XS.icmpNo X2.here hx rfl (hb hby d1_44) rfl (teq (show x0 = x0 from rfl)).2 k) ?_
        show Go p e below T2 (mkF m 47 #[.val (.int x0), .val (.ref ax), .val (.int (1 : Int32))] []) _
        refine Go.of (fun _ k => XS.iconst X2.here hx rfl (hb hby d1_47) k) ?_
        show Go p e below T2 (mkF m 48 #[.val (.int x0), .val (.ref ax), .val (.int (1 : Int32))] [(.int (1 : Int32))]) _
        refine Go.of (fun _ k => XS.goto X2.here hx rfl (pc0 := 48) (pc' := 52) rfl (hb hby d1_48) (by decide) (by decide) k) ?_
        show Go p e below T2 (mkF m 52 #[.val (.int x0), .val (.ref ax), .val (.int (1 : Int32))] [(.int (1 : Int32))]) _
        refine Go.retN X2 hx (t := .boolean) hret hlk (by simp) (hb hby d1_52) e2 (by decide) (by decide) ?_
        exact ⟨rfl, N2, rfl⟩
theorem own_pd2 : parseMethodDescriptor "(I)Z" = some ⟨[.int], some .boolean⟩ := by decide +kernel
theorem own_ef_rm0 (m : MethodId) (x0 : Int32) (x1 : Int32) : entryFrame m #[(.int x0), (.int x1)] maxLocals = mkF m 0 #[.val (.int x0), .val (.int x1), .unset] [] := by first | (simp [entryFrame, mkF, argsToLocals, Value.category, maxLocals]; done) | rfl
def Q_rm0 (Z : State) (x0 x1 : Int32) (aW : Addr) (cl : Cell) (h0 : Heap) (n0 : Nat) : Option Value → Heap → List Loc → Prop := fun v h L => v = some (.int 1) ∧ Fr n0 L
set_option maxRecDepth 65536 in
set_option maxHeartbeats 40000000 in
theorem rm0 (l : Launch) (Z : State) (a0 : Array Value) (hw : ∀ d ∈ tables_1, d.before a0 Z = true) (ws : List Jvm.Cond) (x0 x1 : Int32) (aW : Addr) (cl : Cell) (h0 : Heap) (n0 : Nat) (Z0 : n0 ≤ h0.size) (S : Sta Z h0 "com/example/farcall/farcall/rpc/AuthStatus" "BY_CODE" "[Lcom/example/farcall/farcall/rpc/AuthStatus;" (.ref aW)) (A : Arr Z h0 aW cl (.object "com/example/farcall/farcall/rpc/AuthStatus")) (Sz : cl.slots.size = (15 : Int32).toNatClampNeg) (Hat : ∀ j : Int32, ¬ j < 0 → j < 15 → ∃ a, cl.slots[j.toNatClampNeg]? = some (.ref a) ∧ Exa Z h0 a "com/example/farcall/farcall/rpc/AuthStatus" ∧ Fld Z h0 a "com/example/farcall/farcall/rpc/AuthStatus" "code" "I" (.int j)) :
    Ctr l Z x code maxLocals ret ws room_1 #[(.int x0), (.int x1)] h0 (Q_rm0 Z x0 x1 aW cl h0 n0) := by
  refine Ctr.intro (plainFor_of_name own_pn1) ?_
  intro p e s m below meth c s₁ hx hby hml hown hnm hret hlk hZ X0 e0
  have hown : s.vm.findClass "com/example/farcall/farcall/rpc/AuthStatusOfPinLaw" = some m.cls := hown
  have hml : c.maxLocals = 3 := hml
  have N0 := Fr.nil n0
  refine Go.cast (own_ef_rm0 m x0 x1) ?_
  show Go p e below s₁ (mkF m 0 #[.val (.int x0), .val (.int x1), .unset] []) _
  refine Go.of (fun _ k => XS.iloadN X0.here hx rfl (hb hby at_0) rfl  k) ?_
  show Go p e below s₁ (mkF m 1 #[.val (.int x0), .val (.int x1), .unset] [(.int x1)]) _
  refine Go.of (fun _ k => X0.ldcInt hx hown (mvT hZ (hw _ (List.mem_of_getElem? (i := 0) rfl))) (g := (mkF m 1 #[.val (.int x0), .val (.int x1), .unset] [(.int x1)])) rfl (hb hby at_1) _ k) ?_
  show Go p e below s₁ (mkF m 3 #[.val (.int x0), .val (.int x1), .unset] [(.int (2147483647 : Int32)), (.int x1)]) _
  refine Go.of (fun _ k => XS.iand X0.here hx rfl (hb hby at_3) rfl k) ?_
  show Go p e below s₁ (mkF m 4 #[.val (.int x0), .val (.int x1), .unset] [(.int (x1 &&& (2147483647 : Int32)))]) _
  refine Go.of (fun _ k => XS.bipush X0.here hx rfl (hb hby at_4) k) ?_
  show Go p e below s₁ (mkF m 6 #[.val (.int x0), .val (.int x1), .unset] [(.int (17 : Int32)), (.int (x1 &&& (2147483647 : Int32)))]) _
  refine Go.of (fun _ k => iremM X0 hx rfl (hb hby at_6) rfl (by decide) k) ?_
  show Go p e below s₁ (mkF m 7 #[.val (.int x0), .val (.int x1), .unset] [(.int ((x1 &&& (2147483647 : Int32)) % (17 : Int32)))]) _
  refine Go.of (fun _ k => XS.iconst X0.here hx rfl (hb hby at_7) k) ?_
  show Go p e below s₁ (mkF m 8 #[.val (.int x0), .val (.int x1), .unset] [(.int (1 : Int32)), (.int ((x1 &&& (2147483647 : Int32)) % (17 : Int32)))]) _
  refine Go.of (fun _ k => XS.isub X0.here hx rfl (hb hby at_8) rfl k) ?_
  show Go p e below s₁ (mkF m 9 #[.val (.int x0), .val (.int x1), .unset] [(.int (((x1 &&& (2147483647 : Int32)) % (17 : Int32)) - (1 : Int32)))]) _
  refine Go.of (fun _ k => XS.istoreN X0.here hx rfl (hb hby at_9) rfl (l' := #[.val (.int x0), .val (.int x1), .val (.int (((x1 &&& (2147483647 : Int32)) % (17 : Int32)) - (1 : Int32)))]) rfl k) ?_
  show Go p e below s₁ (mkF m 10 #[.val (.int x0), .val (.int x1), .val (.int (((x1 &&& (2147483647 : Int32)) % (17 : Int32)) - (1 : Int32)))] []) _
  refine Go.of (fun _ k => XS.iloadN X0.here hx rfl (hb hby at_10) rfl  k) ?_
  show Go p e below s₁ (mkF m 11 #[.val (.int x0), .val (.int x1), .val (.int (((x1 &&& (2147483647 : Int32)) % (17 : Int32)) - (1 : Int32)))] [(.int x0)]) _
  obtain ⟨_, _, ⟨T1, L1, kq1, nq1⟩, -, X1, ⟨Lc1, hQ1, l1, y1, z1⟩, st1⟩ := Jvm.LawKit.callS X0 hx (y := (⟨"com/example/farcall/farcall/rpc/AuthStatusOfPinLaw", "ok", "(I)Z"⟩ : MethodName)) hown (mvT hZ (hw _ (List.mem_of_getElem? (i := 1) rfl))) (mvT hZ (hw _ (List.mem_of_getElem? (i := 2) rfl))) (mvT hZ (hw _ (List.mem_of_getElem? (i := 3) rfl))) (mvT hZ (hw _ (List.mem_of_getElem? (i := 4) rfl))) (by decide) (backOf (W := 0) (rm1 l Z a0 hw [] x0 aW cl h0 n0 Z0 S A Sz Hat) hZ (hw _ (List.mem_of_getElem? (i := 4) rfl)) (hw _ (List.mem_of_getElem? (i := 3) rfl)) (by decide) (by decide)) (g := (mkF m 11 #[.val (.int x0), .val (.int x1), .val (.int (((x1 &&& (2147483647 : Int32)) % (17 : Int32)) - (1 : Int32)))] [(.int x0)])) rfl (by rw [hml]; rfl) (argsL := [(.int x0)]) (rest := []) (lenOf own_pd2 rfl) rfl (by show 2 * 0 + _ ≤ _; exact Nat.le_of_eq rfl) (hb hby at_11) (fun _ _ => ⟨rfl, e0, (by decide : 0 + 0 ≤ _), (by decide : 0 + 0 ≤ _)⟩)
  dsimp only [Pt.U, Pt.locs, Pt.cells, Pt.slots] at X1 l1 y1 z1 st1 hQ1
  subst l1 y1 z1
  obtain ⟨rfl, Nq1, e1⟩ := hQ1
  have e1 := e1.trans rfl
  have N1 := Fr.app N0 Nq1
  refine Go.of (fun _ k => st1 _ k) ?_
  show Go p e below T1 (mkF m 14 #[.val (.int x0), .val (.int x1), .val (.int (((x1 &&& (2147483647 : Int32)) % (17 : Int32)) - (1 : Int32)))] [(.int (1 : Int32))]) _
  refine Go.of (fun _ k => XS.ifNo X1.here hx rfl (hb hby at_14) rfl ((if0 _ _).trans (feq (show ¬ ((1 : Int32) = (0 : Int32)) from (by decide))).1) k) ?_
  show Go p e below T1 (mkF m 17 #[.val (.int x0), .val (.int x1), .val (.int (((x1 &&& (2147483647 : Int32)) % (17 : Int32)) - (1 : Int32)))] []) _
  refine Go.of (fun _ k => XS.iloadN X1.here hx rfl (hb hby at_17) rfl  k) ?_
  show Go p e below T1 (mkF m 18 #[.val (.int x0), .val (.int x1), .val (.int (((x1 &&& (2147483647 : Int32)) % (17 : Int32)) - (1 : Int32)))] [(.int (((x1 &&& (2147483647 : Int32)) % (17 : Int32)) - (1 : Int32)))]) _
  obtain ⟨_, _, ⟨T2, L2, kq2, nq2⟩, -, X2, ⟨Lc2, hQ2, l2, y2, z2⟩, st2⟩ := Jvm.LawKit.callS X1 hx (y := (⟨"com/example/farcall/farcall/rpc/AuthStatusOfPinLaw", "ok", "(I)Z"⟩ : MethodName)) hown (mvT hZ (hw _ (List.mem_of_getElem? (i := 1) rfl))) (mvT hZ (hw _ (List.mem_of_getElem? (i := 2) rfl))) (mvT hZ (hw _ (List.mem_of_getElem? (i := 3) rfl))) (mvT hZ (hw _ (List.mem_of_getElem? (i := 4) rfl))) (by decide) (backOf (W := 0) (rm1 l Z a0 hw [] (((x1 &&& (2147483647 : Int32)) % (17 : Int32)) - (1 : Int32)) aW cl h0 n0 Z0 S A Sz Hat) hZ (hw _ (List.mem_of_getElem? (i := 4) rfl)) (hw _ (List.mem_of_getElem? (i := 3) rfl)) (by decide) (by decide)) (g := (mkF m 18 #[.val (.int x0), .val (.int x1), .val (.int (((x1 &&& (2147483647 : Int32)) % (17 : Int32)) - (1 : Int32)))] [(.int (((x1 &&& (2147483647 : Int32)) % (17 : Int32)) - (1 : Int32)))])) rfl (by rw [hml]; rfl) (argsL := [(.int (((x1 &&& (2147483647 : Int32)) % (17 : Int32)) - (1 : Int32)))]) (rest := []) (lenOf own_pd2 rfl) rfl (by show 2 * 0 + _ ≤ _; exact Nat.le_of_eq rfl) (hb hby at_18) (fun _ _ => ⟨rfl, e1, (by decide : 0 + 0 ≤ _), (by decide : 0 + 0 ≤ _)⟩)
  dsimp only [Pt.U, Pt.locs, Pt.cells, Pt.slots] at X2 l2 y2 z2 st2 hQ2
  subst l2 y2 z2
  obtain ⟨rfl, Nq2, e2⟩ := hQ2
  have e2 := e2.trans rfl
  have N2 := Fr.app N1 Nq2
  refine Go.of (fun _ k => st2 _ k) ?_
  show Go p e below T2 (mkF m 21 #[.val (.int x0), .val (.int x1), .val (.int (((x1 &&& (2147483647 : Int32)) % (17 : Int32)) - (1 : Int32)))] [(.int (1 : Int32))]) _
  refine Go.of (fun _ k => XS.ifNo X2.here hx rfl (hb hby at_21) rfl ((if0 _ _).trans (feq (show ¬ ((1 : Int32) = (0 : Int32)) from (by decide))).1) k) ?_
  show Go p e below T2 (mkF m 24 #[.val (.int x0), .val (.int x1), .val (.int (((x1 &&& (2147483647 : Int32)) % (17 : Int32)) - (1 : Int32)))] []) _
  refine Go.of (fun _ k => XS.iconst X2.here hx rfl (hb hby at_24) k) ?_
  show Go p e below T2 (mkF m 25 #[.val (.int x0), .val (.int x1), .val (.int (((x1 &&& (2147483647 : Int32)) % (17 : Int32)) - (1 : Int32)))] [(.int (1 : Int32))]) _
  refine Go.of (fun _ k => XS.goto X2.here hx rfl (pc0 := 25) (pc' := 29) rfl (hb hby at_25) (by decide) (by decide) k) ?_
  show Go p e below T2 (mkF m 29 #[.val (.int x0), .val (.int x1), .val (.int (((x1 &&& (2147483647 : Int32)) % (17 : Int32)) - (1 : Int32)))] [(.int (1 : Int32))]) _
  refine Go.retN X2 hx (t := .boolean) hret hlk (by simp) (hb hby at_29) e2 (by decide) (by decide) ?_
  exact ⟨rfl, N2⟩
set_option maxRecDepth 65536 in
set_option maxHeartbeats 40000000 in
theorem comes_1 {Post : Tables → Env → Array Value → State → Outcome → State → Prop} (hpost : ∀ tb e args s v u, (limb_1_1.after args s (.returned v) u = true ∧ limb_1_2.after args s (.returned v) u = true ∧ True) → FrameEnd s (.returned v) u (Jvm.fieldLocs frame_1_writes args s ++ Jvm.arrayLocs frame_1_arrays args s ++ Jvm.staticLocs frame_1_statics s) 0 0 → Post tb e args s (.returned v) u) :
    ArmFor flags0 classFile x code maxLocals ret World_1 tables_1 room_1 Calls_1 rest_1 Pre_1 Post := by
  intro l hfl _ _ p e ha hc hk s m args below hf hA hF happ hP
  obtain ⟨hcalls, hrest, hpre⟩ := hP
  obtain ⟨-, -, -, hnamed, -, -, -, hat⟩ := (Spec.applies_iff hf).mp happ
  obtain ⟨hg, hn⟩ := and_e (Cond.before_iff.mp (show (Jvm.Cond.and given_1 narrow_1).before args s = true from hpre))
  obtain ⟨g1, g2⟩ := and_e hg
  obtain ⟨g3, g4⟩ := and_e g2
  obtain ⟨w0, w1, rfl⟩ : ∃ w0 w1 : Value, args = #[w0, w1] := by
    have hs : args.size = 2 := by simpa [Cond.value, given_1] using g1
    obtain ⟨L⟩ := args
    match L, hs with
    | [w0, w1], _ => exact ⟨w0, w1, rfl⟩
  have hw := fun d (hd : d ∈ tables_1) => atoms_spec (ws := Jvm.Cond.code x code maxLocals ret :: tables_1) hat d (List.mem_cons_of_mem _ hd)
  have hfit : Fit s := fun {y c} hc i hi => by
    obtain ⟨ha, rfl⟩ := Array.getElem?_eq_some_iff.mp hc
    have q := List.all_eq_true.mp ((Array.all_eq_true_iff_forall_mem.mp hF) _ (Array.getElem_mem ha)) i (List.mem_range.mpr hi)
    simpa [Array.getElem?_eq_getElem hi] using q
  obtain ⟨i0, ei0⟩ := is_v g3
  obtain rfl : w0 = (.int i0) := Option.some.inj ei0
  obtain ⟨i1, ei1⟩ := is_v g4
  obtain rfl : w1 = (.int i1) := Option.some.inj ei1
  obtain ⟨n0, m0⟩ := and_e hn
  obtain ⟨n1, m1⟩ := and_e m0
  obtain ⟨n2, m2⟩ := and_e m1
  obtain ⟨n3, m3⟩ := and_e m2
  obtain ⟨n4, m4⟩ := and_e m3
  obtain ⟨n5, m5⟩ := and_e m4
  obtain ⟨n6, m6⟩ := and_e m5
  obtain ⟨n7, m7⟩ := and_e m6
  obtain ⟨n8, m8⟩ := and_e m7
  obtain ⟨n9, m9⟩ := and_e m8
  obtain ⟨n10, m10⟩ := and_e m9
  obtain ⟨n11, m11⟩ := and_e m10
  obtain ⟨n12, m12⟩ := and_e m11
  obtain ⟨n13, m13⟩ := and_e m12
  obtain ⟨n14, m14⟩ := and_e m13
  obtain ⟨n15, m15⟩ := and_e m14
  obtain ⟨n16, m16⟩ := and_e m15
  obtain ⟨n17, m17⟩ := and_e m16
  obtain ⟨n18, m18⟩ := and_e m17
  obtain ⟨n19, m19⟩ := and_e m18
  obtain ⟨n20, m20⟩ := and_e m19
  obtain ⟨n21, m21⟩ := and_e m20
  obtain ⟨n22, m22⟩ := and_e m21
  obtain ⟨n23, m23⟩ := and_e m22
  obtain ⟨n24, m24⟩ := and_e m23
  obtain ⟨n25, m25⟩ := and_e m24
  obtain ⟨n26, m26⟩ := and_e m25
  obtain ⟨n27, m27⟩ := and_e m26
  obtain ⟨n28, m28⟩ := and_e m27
  obtain ⟨n29, m29⟩ := and_e m28
  obtain ⟨n30, m30⟩ := and_e m29
  obtain ⟨n31, m31⟩ := and_e m30
  obtain ⟨n32, m32⟩ := and_e m31
  obtain ⟨n33, m33⟩ := and_e m32
  obtain ⟨n34, m34⟩ := and_e m33
  obtain ⟨n35, m35⟩ := and_e m34
  obtain ⟨n36, m36⟩ := and_e m35
  obtain ⟨n37, m37⟩ := and_e m36
  obtain ⟨n38, m38⟩ := and_e m37
  obtain ⟨n39, m39⟩ := and_e m38
  obtain ⟨n40, m40⟩ := and_e m39
  obtain ⟨n41, m41⟩ := and_e m40
  obtain ⟨n42, m42⟩ := and_e m41
  obtain ⟨n43, m43⟩ := and_e m42
  obtain ⟨n44, m44⟩ := and_e m43
  obtain ⟨n45, m45⟩ := and_e m44
  obtain ⟨aW, ea⟩ := arr_v n0
  obtain ⟨cl, A⟩ := Arr.start ea n0
  have S := Sta.start ea (Or.inr ⟨(hw _ (List.mem_of_getElem? (i := 7) rfl)), (hw _ (List.mem_of_getElem? (i := 10) rfl))⟩)
  obtain ⟨Sz, -⟩ := own_len ea A (eqv_i (Term.int_eval 15) n1)
  obtain ⟨a_0, ea_0⟩ := exa_v n2
  have E_0 := Exa.start ea_0 n2
  have F_0 := Fld.start ((fld_at ea_0).symm.trans (eqv_i (Term.int_eval 0) n4))
  have V_0 : cl.slots[(0 : Int32).toNatClampNeg]? = some (.ref a_0) := (elem_f ea (Term.int_eval 0) (A.fin (Vm.Alike.refl _)) (by decide)).symm.trans (own_eqR ea_0 n3)
  obtain ⟨a_2, ea_2⟩ := exa_v n5
  have E_2 := Exa.start ea_2 n5
  have F_2 := Fld.start ((fld_at ea_2).symm.trans (eqv_i (Term.int_eval 2) n7))
  have V_2 : cl.slots[(2 : Int32).toNatClampNeg]? = some (.ref a_2) := (elem_f ea (Term.int_eval 2) (A.fin (Vm.Alike.refl _)) (by decide)).symm.trans (own_eqR ea_2 n6)
  obtain ⟨a_14, ea_14⟩ := exa_v n8
  have E_14 := Exa.start ea_14 n8
  have F_14 := Fld.start ((fld_at ea_14).symm.trans (eqv_i (Term.int_eval 14) n10))
  have V_14 : cl.slots[(14 : Int32).toNatClampNeg]? = some (.ref a_14) := (elem_f ea (Term.int_eval 14) (A.fin (Vm.Alike.refl _)) (by decide)).symm.trans (own_eqR ea_14 n9)
  obtain ⟨a_11, ea_11⟩ := exa_v n11
  have E_11 := Exa.start ea_11 n11
  have F_11 := Fld.start ((fld_at ea_11).symm.trans (eqv_i (Term.int_eval 11) n13))
  have V_11 : cl.slots[(11 : Int32).toNatClampNeg]? = some (.ref a_11) := (elem_f ea (Term.int_eval 11) (A.fin (Vm.Alike.refl _)) (by decide)).symm.trans (own_eqR ea_11 n12)
  obtain ⟨a_8, ea_8⟩ := exa_v n14
  have E_8 := Exa.start ea_8 n14
  have F_8 := Fld.start ((fld_at ea_8).symm.trans (eqv_i (Term.int_eval 8) n16))
  have V_8 : cl.slots[(8 : Int32).toNatClampNeg]? = some (.ref a_8) := (elem_f ea (Term.int_eval 8) (A.fin (Vm.Alike.refl _)) (by decide)).symm.trans (own_eqR ea_8 n15)
  obtain ⟨a_12, ea_12⟩ := exa_v n17
  have E_12 := Exa.start ea_12 n17
  have F_12 := Fld.start ((fld_at ea_12).symm.trans (eqv_i (Term.int_eval 12) n19))
  have V_12 : cl.slots[(12 : Int32).toNatClampNeg]? = some (.ref a_12) := (elem_f ea (Term.int_eval 12) (A.fin (Vm.Alike.refl _)) (by decide)).symm.trans (own_eqR ea_12 n18)
  obtain ⟨a_6, ea_6⟩ := exa_v n20
  have E_6 := Exa.start ea_6 n20
  have F_6 := Fld.start ((fld_at ea_6).symm.trans (eqv_i (Term.int_eval 6) n22))
  have V_6 : cl.slots[(6 : Int32).toNatClampNeg]? = some (.ref a_6) := (elem_f ea (Term.int_eval 6) (A.fin (Vm.Alike.refl _)) (by decide)).symm.trans (own_eqR ea_6 n21)
  obtain ⟨a_7, ea_7⟩ := exa_v n23
  have E_7 := Exa.start ea_7 n23
  have F_7 := Fld.start ((fld_at ea_7).symm.trans (eqv_i (Term.int_eval 7) n25))
  have V_7 : cl.slots[(7 : Int32).toNatClampNeg]? = some (.ref a_7) := (elem_f ea (Term.int_eval 7) (A.fin (Vm.Alike.refl _)) (by decide)).symm.trans (own_eqR ea_7 n24)
  obtain ⟨a_4, ea_4⟩ := exa_v n26
  have E_4 := Exa.start ea_4 n26
  have F_4 := Fld.start ((fld_at ea_4).symm.trans (eqv_i (Term.int_eval 4) n28))
  have V_4 : cl.slots[(4 : Int32).toNatClampNeg]? = some (.ref a_4) := (elem_f ea (Term.int_eval 4) (A.fin (Vm.Alike.refl _)) (by decide)).symm.trans (own_eqR ea_4 n27)
  obtain ⟨a_3, ea_3⟩ := exa_v n29
  have E_3 := Exa.start ea_3 n29
  have F_3 := Fld.start ((fld_at ea_3).symm.trans (eqv_i (Term.int_eval 3) n31))
  have V_3 : cl.slots[(3 : Int32).toNatClampNeg]? = some (.ref a_3) := (elem_f ea (Term.int_eval 3) (A.fin (Vm.Alike.refl _)) (by decide)).symm.trans (own_eqR ea_3 n30)
  obtain ⟨a_1, ea_1⟩ := exa_v n32
  have E_1 := Exa.start ea_1 n32
  have F_1 := Fld.start ((fld_at ea_1).symm.trans (eqv_i (Term.int_eval 1) n34))
  have V_1 : cl.slots[(1 : Int32).toNatClampNeg]? = some (.ref a_1) := (elem_f ea (Term.int_eval 1) (A.fin (Vm.Alike.refl _)) (by decide)).symm.trans (own_eqR ea_1 n33)
  obtain ⟨a_13, ea_13⟩ := exa_v n35
  have E_13 := Exa.start ea_13 n35
  have F_13 := Fld.start ((fld_at ea_13).symm.trans (eqv_i (Term.int_eval 13) n37))
  have V_13 : cl.slots[(13 : Int32).toNatClampNeg]? = some (.ref a_13) := (elem_f ea (Term.int_eval 13) (A.fin (Vm.Alike.refl _)) (by decide)).symm.trans (own_eqR ea_13 n36)
  obtain ⟨a_10, ea_10⟩ := exa_v n38
  have E_10 := Exa.start ea_10 n38
  have F_10 := Fld.start ((fld_at ea_10).symm.trans (eqv_i (Term.int_eval 10) n40))
  have V_10 : cl.slots[(10 : Int32).toNatClampNeg]? = some (.ref a_10) := (elem_f ea (Term.int_eval 10) (A.fin (Vm.Alike.refl _)) (by decide)).symm.trans (own_eqR ea_10 n39)
  obtain ⟨a_9, ea_9⟩ := exa_v n41
  have E_9 := Exa.start ea_9 n41
  have F_9 := Fld.start ((fld_at ea_9).symm.trans (eqv_i (Term.int_eval 9) n43))
  have V_9 : cl.slots[(9 : Int32).toNatClampNeg]? = some (.ref a_9) := (elem_f ea (Term.int_eval 9) (A.fin (Vm.Alike.refl _)) (by decide)).symm.trans (own_eqR ea_9 n42)
  obtain ⟨a_5, ea_5⟩ := exa_v n44
  have E_5 := Exa.start ea_5 n44
  have F_5 := Fld.start ((fld_at ea_5).symm.trans (eqv_i (Term.int_eval 5) m45))
  have V_5 : cl.slots[(5 : Int32).toNatClampNeg]? = some (.ref a_5) := (elem_f ea (Term.int_eval 5) (A.fin (Vm.Alike.refl _)) (by decide)).symm.trans (own_eqR ea_5 n45)
  have Hat : ∀ j : Int32, ¬ j < 0 → j < 15 → ∃ a, cl.slots[j.toNatClampNeg]? = some (.ref a) ∧ Exa s s.heap a "com/example/farcall/farcall/rpc/AuthStatus" ∧ Fld s s.heap a "com/example/farcall/farcall/rpc/AuthStatus" "code" "I" (.int j) := by
    intro j h1 h2
    rcases own_15 h1 h2 with rfl | rfl | rfl | rfl | rfl | rfl | rfl | rfl | rfl | rfl | rfl | rfl | rfl | rfl | rfl
    · exact ⟨a_0, V_0, E_0, F_0⟩
    · exact ⟨a_1, V_1, E_1, F_1⟩
    · exact ⟨a_2, V_2, E_2, F_2⟩
    · exact ⟨a_3, V_3, E_3, F_3⟩
    · exact ⟨a_4, V_4, E_4, F_4⟩
    · exact ⟨a_5, V_5, E_5, F_5⟩
    · exact ⟨a_6, V_6, E_6, F_6⟩
    · exact ⟨a_7, V_7, E_7, F_7⟩
    · exact ⟨a_8, V_8, E_8, F_8⟩
    · exact ⟨a_9, V_9, E_9, F_9⟩
    · exact ⟨a_10, V_10, E_10, F_10⟩
    · exact ⟨a_11, V_11, E_11, F_11⟩
    · exact ⟨a_12, V_12, E_12, F_12⟩
    · exact ⟨a_13, V_13, E_13, F_13⟩
    · exact ⟨a_14, V_14, E_14, F_14⟩
  obtain ⟨n, o, h1, h2, h3, _, L, rfl, ⟨rfl, N⟩, hq⟩ := rm0 l s _ hw tables_1 i0 i1 aW cl s.heap s.heap.size (Nat.le_refl _) S A Sz Hat p e ha hc hk s m _ below hf ((Spec.applies_iff_loose hf).mp happ).1 ⟨rfl, State.Warmed39.refl s, rfl⟩ trivial
  refine ⟨n, _, h1, h2, h3, hpost _ _ _ _ _ _ ⟨Cond.after_iff.mpr rfl, Cond.after_iff.mpr (eq_i res_at (Term.int_eval (1)) rfl), trivial⟩ ⟨hq.1, hq.2.1, (hq.2.2.sift fun y hy => Or.inr (N y hy)).mono (by decide) (by decide)⟩⟩
theorem main_1_1 : Claimed_1_1 := comes_1 fun _ _ _ _ _ _ h hF => ⟨h.1, hF⟩
theorem main_1_2 : Claimed_1_2 := comes_1 fun _ _ _ _ _ _ h hF => ⟨h.2.1, hF⟩
end Jvm.Pilot.@@N@@
namespace Jvm.Pilot.@@N@@
open Jvm Jvm.ClassFile Sem Op Lib Jvm.Free Jvm.Stand Jvm.Pilot.@@N@@.Jvm.D
/-! MADE BY PROGRAM (witnessworld.py) out of the Statement's table words and the real class files: 13 classes; the members and pool entries that the words name. The judged class is class 1, her method 1. -/
namespace start1
open Jvm.ClassFile
def u (s : String) : CpInfo := .utf8 (stringToUtf16 s)
/-- a pool by its gaps: so many unusable entries, then the entry; so many at the end -/
def gap : Nat → List CpInfo → List CpInfo
  | 0, r => r
  | n + 1, r => .unusable :: gap n r
def poolList (es : List (Nat × CpInfo)) (last : Nat) : List CpInfo := es.foldr (fun e r => gap e.1 (e.2 :: r)) (gap last [])
def pool (es : List (Nat × CpInfo)) (last : Nat) : Array CpInfo := ⟨poolList es last⟩
def fileOf (pool : Array CpInfo) (this : Nat) (attrs : Array Attribute := #[]) (ms : Array MethodInfo := #[]) (fl : Nat := 33) (sup : Nat := 0) (ifs : Array Nat := #[]) (fds : Array FieldInfo := #[]) : ClassFile where
  minorVersion := 0
  majorVersion := 65
  constantPool := pool
  accessFlags := fl
  thisClass := this
  superClass := sup
  interfaces := ifs
  fields := fds
  methods := ms
  attributes := attrs
def plain (name : String) (sup : Option ClassId) : Class where
  name := name
  kind := .ordinary
  loader := none
  accessFlags := 33
  super := sup
  interfaces := #[]
  cf := none
  fields := #[]
  methods := #[]
  instanceTypes := #[]
  staticTypes := #[]
  resolved := #[]
  callSites := []
  init := .initialized
  statics := none
  mirror := none

def pool0 : Array CpInfo := pool [(5, u "<init>"), (0, u "()V"), (1, .class_ 10), (1, u "java/lang/Object")] 113

def k0m0 : Method := { name := "<init>", desc := "()V", sig := { parameters := [], returnType := none }, accessFlags := 1, code := none }
/-- java/lang/Object -/
def k0 : Class := { plain "java/lang/Object" none with
  accessFlags := 33
  interfaces := #[]
  cf := some (fileOf pool0 8 #[] #[{ accessFlags := 1, nameIndex := 5, descriptorIndex := 6, attributes := #[] }] 33 0 #[] #[])
  fields := #[]
  methods := #[k0m0]
  instanceTypes := #[]
  staticTypes := #[]
  resolved := Array.replicate 124 none
  statics := none }

def pool1 : Array CpInfo := pool [(2, .class_ 4), (1, u "java/lang/Object"), (0, u "<init>"), (0, u "()V"), (0, .integer 2147483647), (0, .methodref 9 10), (0, .class_ 11), (0, .nameAndType 12 13), (0, u "com/example/farcall/farcall/rpc/AuthStatusOfPinLaw"), (0, u "ok"), (0, u "(I)Z"), (0, .methodref 15 16), (0, .class_ 17), (0, .nameAndType 18 19), (0, u "com/example/farcall/farcall/rpc/AuthStatus"), (0, u "of"), (0, u "(I)Lcom/example/farcall/farcall/rpc/AuthStatus;"), (0, .methodref 15 21), (0, .nameAndType 22 23), (0, u "code"), (0, u "()I"), (2, u "law"), (0, u "(II)Z")] 3

def k1m0 : Method := { name := "<init>", desc := "()V", sig := { parameters := [], returnType := none }, accessFlags := 1, code := none }
def k1c1 : Code := { maxStack := 2, maxLocals := 3, code := code, exceptionTable := #[], attributes := #[] }
def k1m1 : Method := { name := "law", desc := "(II)Z", sig := { parameters := [.int, .int], returnType := some .boolean }, accessFlags := 9, code := some k1c1 }
def k1c2 : Code := { maxStack := 2, maxLocals := 3, code := method_3_code, exceptionTable := #[], attributes := #[] }
def k1m2 : Method := { name := "ok", desc := "(I)Z", sig := { parameters := [.int], returnType := some .boolean }, accessFlags := 10, code := some k1c2 }
/-- com/example/farcall/farcall/rpc/AuthStatusOfPinLaw -/
def k1 : Class := { plain "com/example/farcall/farcall/rpc/AuthStatusOfPinLaw" (some 0) with
  accessFlags := 49
  interfaces := #[]
  cf := some (fileOf pool1 9 #[] #[{ accessFlags := 1, nameIndex := 5, descriptorIndex := 6, attributes := #[] }, { accessFlags := 9, nameIndex := 26, descriptorIndex := 27, attributes := #[] }, { accessFlags := 10, nameIndex := 12, descriptorIndex := 13, attributes := #[] }] 49 2 #[] #[])
  fields := #[]
  methods := #[k1m0, k1m1, k1m2]
  instanceTypes := #[]
  staticTypes := #[]
  resolved := Array.replicate 31 none
  statics := none }

def pool2 : Array CpInfo := pool [(1, .class_ 2), (0, u "java/lang/constant/Constable"), (0, .class_ 4), (0, u "java/lang/Object")] 6

/-- java/lang/constant/Constable -/
def k2 : Class := { plain "java/lang/constant/Constable" (some 0) with
  accessFlags := 1537
  interfaces := #[]
  cf := some (fileOf pool2 1 #[] #[] 1537 3 #[] #[])
  fields := #[]
  methods := #[]
  instanceTypes := #[]
  staticTypes := #[]
  resolved := Array.replicate 11 none
  statics := none }

def pool3 : Array CpInfo := pool [(1, .class_ 2), (0, u "java/lang/Comparable"), (0, .class_ 4), (0, u "java/lang/Object")] 7

/-- java/lang/Comparable -/
def k3 : Class := { plain "java/lang/Comparable" (some 0) with
  accessFlags := 1537
  interfaces := #[]
  cf := some (fileOf pool3 1 #[] #[] 1537 3 #[] #[])
  fields := #[]
  methods := #[]
  instanceTypes := #[]
  staticTypes := #[]
  resolved := Array.replicate 12 none
  statics := none }

def pool4 : Array CpInfo := pool [(1, .class_ 2), (0, u "java/io/Serializable"), (0, .class_ 4), (0, u "java/lang/Object")] 2

/-- java/io/Serializable -/
def k4 : Class := { plain "java/io/Serializable" (some 0) with
  accessFlags := 1537
  interfaces := #[]
  cf := some (fileOf pool4 1 #[] #[] 1537 3 #[] #[])
  fields := #[]
  methods := #[]
  instanceTypes := #[]
  staticTypes := #[]
  resolved := Array.replicate 7 none
  statics := none }

def pool5 : Array CpInfo := pool [(2, .class_ 4), (1, u "java/lang/Enum"), (0, u "name"), (0, u "Ljava/lang/String;"), (2, u "ordinal"), (0, u "I"), (1, .class_ 14), (1, u "java/lang/Object"), (4, u "hash"), (86, .class_ 108), (1, u "java/lang/Enum$EnumDesc"), (2, .class_ 112), (0, u "java/lang/constant/Constable"), (0, .class_ 114), (0, u "java/lang/Comparable"), (0, .class_ 116), (0, u "java/io/Serializable")] 87

/-- java/lang/Enum -/
def k5 : Class := { plain "java/lang/Enum" (some 0) with
  accessFlags := 1057
  interfaces := #[2, 3, 4]
  cf := some (fileOf pool5 2 #[.nestMembers #[106]] #[] 1057 12 #[111, 113, 115] #[{ accessFlags := 18, nameIndex := 5, descriptorIndex := 6, attributes := #[] }, { accessFlags := 18, nameIndex := 9, descriptorIndex := 10, attributes := #[] }, { accessFlags := 2, nameIndex := 19, descriptorIndex := 10, attributes := #[] }])
  fields := #[{ name := "name", type := (.object "java/lang/String"), accessFlags := 18, slot := 0, constantValue := 0 }, { name := "ordinal", type := .int, accessFlags := 18, slot := 1, constantValue := 0 }, { name := "hash", type := .int, accessFlags := 2, slot := 2, constantValue := 0 }]
  methods := #[]
  instanceTypes := #[(.object "java/lang/String"), .int, .int]
  staticTypes := #[]
  resolved := Array.replicate 204 none
  statics := none }

def pool6 : Array CpInfo := pool [(1, .class_ 2), (0, u "com/example/farcall/farcall/rpc/AuthStatus"), (2, u "AUTH_OK"), (0, u "Lcom/example/farcall/farcall/rpc/AuthStatus;"), (2, u "AUTH_BADCRED"), (2, u "AUTH_REJECTEDCRED"), (2, u "AUTH_BADVERF"), (2, u "AUTH_REJECTEDVERF"), (2, u "AUTH_TOOWEAK"), (2, u "AUTH_INVALIDRESP"), (2, u "AUTH_FAILED"), (2, u "AUTH_KERB_GENERIC"), (2, u "AUTH_TIMEEXPIRE"), (2, u "AUTH_TKT_FILE"), (2, u "AUTH_DECODE"), (2, u "AUTH_NET_ADDR"), (2, u "RPCSEC_GSS_CREDPROBLEM"), (2, u "RPCSEC_GSS_CTXPROBLEM"), (2, u "$VALUES"), (0, u "[Lcom/example/farcall/farcall/rpc/AuthStatus;"), (6, .class_ 61), (1, u "java/lang/Enum"), (6, .fieldref 1 69), (0, .nameAndType 70 71), (0, u "code"), (0, u "I"), (0, .fieldref 1 73), (0, .nameAndType 74 52), (0, u "BY_CODE"), (31, u "()I"), (0, u "of"), (0, u "(I)Lcom/example/farcall/farcall/rpc/AuthStatus;")] 6

def k6c0 : Code := { maxStack := 1, maxLocals := 1, code := prog_74_method_4_code, exceptionTable := #[], attributes := #[] }
def k6m0 : Method := { name := "code", desc := "()I", sig := { parameters := [], returnType := some .int }, accessFlags := 0, code := some k6c0 }
def k6c1 : Code := { maxStack := 2, maxLocals := 1, code := prog_74_method_5_code, exceptionTable := #[], attributes := #[] }
def k6m1 : Method := { name := "of", desc := "(I)Lcom/example/farcall/farcall/rpc/AuthStatus;", sig := { parameters := [.int], returnType := some (.object "com/example/farcall/farcall/rpc/AuthStatus") }, accessFlags := 8, code := some k6c1 }
/-- com/example/farcall/farcall/rpc/AuthStatus -/
def k6 : Class := { plain "com/example/farcall/farcall/rpc/AuthStatus" (some 5) with
  accessFlags := 16433
  interfaces := #[]
  cf := some (fileOf pool6 1 #[] #[{ accessFlags := 0, nameIndex := 70, descriptorIndex := 106, attributes := #[] }, { accessFlags := 8, nameIndex := 107, descriptorIndex := 108, attributes := #[] }] 16433 59 #[] #[{ accessFlags := 16409, nameIndex := 5, descriptorIndex := 6, attributes := #[] }, { accessFlags := 16409, nameIndex := 9, descriptorIndex := 6, attributes := #[] }, { accessFlags := 16409, nameIndex := 12, descriptorIndex := 6, attributes := #[] }, { accessFlags := 16409, nameIndex := 15, descriptorIndex := 6, attributes := #[] }, { accessFlags := 16409, nameIndex := 18, descriptorIndex := 6, attributes := #[] }, { accessFlags := 16409, nameIndex := 21, descriptorIndex := 6, attributes := #[] }, { accessFlags := 16409, nameIndex := 24, descriptorIndex := 6, attributes := #[] }, { accessFlags := 16409, nameIndex := 27, descriptorIndex := 6, attributes := #[] }, { accessFlags := 16409, nameIndex := 30, descriptorIndex := 6, attributes := #[] }, { accessFlags := 16409, nameIndex := 33, descriptorIndex := 6, attributes := #[] }, { accessFlags := 16409, nameIndex := 36, descriptorIndex := 6, attributes := #[] }, { accessFlags := 16409, nameIndex := 39, descriptorIndex := 6, attributes := #[] }, { accessFlags := 16409, nameIndex := 42, descriptorIndex := 6, attributes := #[] }, { accessFlags := 16409, nameIndex := 45, descriptorIndex := 6, attributes := #[] }, { accessFlags := 16409, nameIndex := 48, descriptorIndex := 6, attributes := #[] }, { accessFlags := 26, nameIndex := 74, descriptorIndex := 52, attributes := #[] }, { accessFlags := 18, nameIndex := 70, descriptorIndex := 71, attributes := #[] }, { accessFlags := 4122, nameIndex := 51, descriptorIndex := 52, attributes := #[] }])
  fields := #[{ name := "AUTH_OK", type := (.object "com/example/farcall/farcall/rpc/AuthStatus"), accessFlags := 16409, slot := 0, constantValue := 0 }, { name := "AUTH_BADCRED", type := (.object "com/example/farcall/farcall/rpc/AuthStatus"), accessFlags := 16409, slot := 1, constantValue := 0 }, { name := "AUTH_REJECTEDCRED", type := (.object "com/example/farcall/farcall/rpc/AuthStatus"), accessFlags := 16409, slot := 2, constantValue := 0 }, { name := "AUTH_BADVERF", type := (.object "com/example/farcall/farcall/rpc/AuthStatus"), accessFlags := 16409, slot := 3, constantValue := 0 }, { name := "AUTH_REJECTEDVERF", type := (.object "com/example/farcall/farcall/rpc/AuthStatus"), accessFlags := 16409, slot := 4, constantValue := 0 }, { name := "AUTH_TOOWEAK", type := (.object "com/example/farcall/farcall/rpc/AuthStatus"), accessFlags := 16409, slot := 5, constantValue := 0 }, { name := "AUTH_INVALIDRESP", type := (.object "com/example/farcall/farcall/rpc/AuthStatus"), accessFlags := 16409, slot := 6, constantValue := 0 }, { name := "AUTH_FAILED", type := (.object "com/example/farcall/farcall/rpc/AuthStatus"), accessFlags := 16409, slot := 7, constantValue := 0 }, { name := "AUTH_KERB_GENERIC", type := (.object "com/example/farcall/farcall/rpc/AuthStatus"), accessFlags := 16409, slot := 8, constantValue := 0 }, { name := "AUTH_TIMEEXPIRE", type := (.object "com/example/farcall/farcall/rpc/AuthStatus"), accessFlags := 16409, slot := 9, constantValue := 0 }, { name := "AUTH_TKT_FILE", type := (.object "com/example/farcall/farcall/rpc/AuthStatus"), accessFlags := 16409, slot := 10, constantValue := 0 }, { name := "AUTH_DECODE", type := (.object "com/example/farcall/farcall/rpc/AuthStatus"), accessFlags := 16409, slot := 11, constantValue := 0 }, { name := "AUTH_NET_ADDR", type := (.object "com/example/farcall/farcall/rpc/AuthStatus"), accessFlags := 16409, slot := 12, constantValue := 0 }, { name := "RPCSEC_GSS_CREDPROBLEM", type := (.object "com/example/farcall/farcall/rpc/AuthStatus"), accessFlags := 16409, slot := 13, constantValue := 0 }, { name := "RPCSEC_GSS_CTXPROBLEM", type := (.object "com/example/farcall/farcall/rpc/AuthStatus"), accessFlags := 16409, slot := 14, constantValue := 0 }, { name := "BY_CODE", type := (.array (.object "com/example/farcall/farcall/rpc/AuthStatus")), accessFlags := 26, slot := 15, constantValue := 0 }, { name := "code", type := .int, accessFlags := 18, slot := 3, constantValue := 0 }, { name := "$VALUES", type := (.array (.object "com/example/farcall/farcall/rpc/AuthStatus")), accessFlags := 4122, slot := 16, constantValue := 0 }]
  methods := #[k6m0, k6m1]
  instanceTypes := #[(.object "java/lang/String"), .int, .int, .int]
  staticTypes := #[(.object "com/example/farcall/farcall/rpc/AuthStatus"), (.object "com/example/farcall/farcall/rpc/AuthStatus"), (.object "com/example/farcall/farcall/rpc/AuthStatus"), (.object "com/example/farcall/farcall/rpc/AuthStatus"), (.object "com/example/farcall/farcall/rpc/AuthStatus"), (.object "com/example/farcall/farcall/rpc/AuthStatus"), (.object "com/example/farcall/farcall/rpc/AuthStatus"), (.object "com/example/farcall/farcall/rpc/AuthStatus"), (.object "com/example/farcall/farcall/rpc/AuthStatus"), (.object "com/example/farcall/farcall/rpc/AuthStatus"), (.object "com/example/farcall/farcall/rpc/AuthStatus"), (.object "com/example/farcall/farcall/rpc/AuthStatus"), (.object "com/example/farcall/farcall/rpc/AuthStatus"), (.object "com/example/farcall/farcall/rpc/AuthStatus"), (.object "com/example/farcall/farcall/rpc/AuthStatus"), (.array (.object "com/example/farcall/farcall/rpc/AuthStatus")), (.array (.object "com/example/farcall/farcall/rpc/AuthStatus"))]
  resolved := Array.replicate 115 none
  statics := some 0 }

def pool7 : Array CpInfo := pool [(1, u "java/lang/Cloneable"), (0, .class_ 1), (0, u "java/lang/Object"), (0, .class_ 3)] 3

/-- java/lang/Cloneable -/
def k7 : Class := { plain "java/lang/Cloneable" (some 0) with
  accessFlags := 1537
  interfaces := #[]
  cf := some (fileOf pool7 2 #[] #[] 1537 4 #[] #[])
  fields := #[]
  methods := #[]
  instanceTypes := #[]
  staticTypes := #[]
  resolved := Array.replicate 8 none
  statics := none }

/-- the primitive byte -/
def k8 : Class := { plain "byte" none with kind := .primitive 'B', accessFlags := 0x411 }
/-- [B -/
def k9 : Class := { plain "[B" (some 0) with kind := .array 8 .byte, interfaces := #[7, 4], accessFlags := 1041 }

/-- the primitive int -/
def k10 : Class := { plain "int" none with kind := .primitive 'I', accessFlags := 0x411 }
/-- [I -/
def k11 : Class := { plain "[I" (some 0) with kind := .array 10 .int, interfaces := #[7, 4], accessFlags := 1041 }

/-- [Lcom/example/farcall/farcall/rpc/AuthStatus; -/
def k12 : Class := { plain "[Lcom/example/farcall/farcall/rpc/AuthStatus;" (some 0) with kind := .array 6 (.object "com/example/farcall/farcall/rpc/AuthStatus"), interfaces := #[7, 4], accessFlags := 1041 }

def heap : Heap := #[{ cls := 6, slots := #[.ref 2, .ref 3, .ref 4, .ref 5, .ref 6, .ref 7, .ref 8, .ref 9, .ref 10, .ref 11, .ref 12, .ref 13, .ref 14, .ref 15, .ref 16, .ref 1, .null], vm := .statics 6 },
  { cls := 12, slots := #[.ref 2, .ref 3, .ref 4, .ref 5, .ref 6, .ref 7, .ref 8, .ref 9, .ref 10, .ref 11, .ref 12, .ref 13, .ref 14, .ref 15, .ref 16], vm := .none },
  { cls := 6, slots := #[.null, .int 0, .int 0, .int 0], vm := .none },
  { cls := 6, slots := #[.null, .int 1, .int 0, .int 1], vm := .none },
  { cls := 6, slots := #[.null, .int 2, .int 0, .int 2], vm := .none },
  { cls := 6, slots := #[.null, .int 3, .int 0, .int 3], vm := .none },
  { cls := 6, slots := #[.null, .int 4, .int 0, .int 4], vm := .none },
  { cls := 6, slots := #[.null, .int 5, .int 0, .int 5], vm := .none },
  { cls := 6, slots := #[.null, .int 6, .int 0, .int 6], vm := .none },
  { cls := 6, slots := #[.null, .int 7, .int 0, .int 7], vm := .none },
  { cls := 6, slots := #[.null, .int 8, .int 0, .int 8], vm := .none },
  { cls := 6, slots := #[.null, .int 9, .int 0, .int 9], vm := .none },
  { cls := 6, slots := #[.null, .int 10, .int 0, .int 10], vm := .none },
  { cls := 6, slots := #[.null, .int 11, .int 0, .int 11], vm := .none },
  { cls := 6, slots := #[.null, .int 12, .int 0, .int 12], vm := .none },
  { cls := 6, slots := #[.null, .int 13, .int 0, .int 13], vm := .none },
  { cls := 6, slots := #[.null, .int 14, .int 0, .int 14], vm := .none }]
def classes : Array Class := #[k0, k1, k2, k3, k4, k5, k6, k7, k8, k9, k10, k11, k12]
def interned : List (Array UInt16 × Addr) := []
def slotsUsed : Nat := 92
def theMethod : MethodId := ⟨1, 1⟩
def args0 : Array Value := #[.int 5, .int 7]
def aboutOver (below : List Frame) : State where
  vm := { classes := classes, interned := interned.toArray }
  heap := heap
  slotsUsed := slotsUsed
  threads := #[{ frames := .invoking theMethod args0 :: below }]
def below0 : List Frame := [.native { method := ⟨0, 0⟩, args := #[] }]
def about1 : State := aboutOver below0
def p0 : Program := .bare "" "" ""
def e0 : Env := launch0.env 0 0 0
theorem w_frames : about1.frames = Frame.invoking theMethod args0 :: below0 := rfl
set_option maxRecDepth 65536 in
theorem w_args : argsFit about1.vm theMethod args0 = true := by decide +kernel
set_option maxRecDepth 65536 in
theorem w_heap : heapFits about1 = true := by decide +kernel
set_option maxRecDepth 65536 in
theorem w_runnable : about1.curStatus? = some .runnable := by decide +kernel
set_option maxRecDepth 65536 in
theorem w_alone : about1.alone = true := by decide +kernel
set_option maxRecDepth 65536 in
theorem w_named : about1.methodNamed? x = some theMethod := by decide +kernel
set_option maxRecDepth 65536 in
theorem w_hears : about1.hears theMethod below0 = true := by decide +kernel
set_option maxRecDepth 65536 in
theorem w_ripe : about1.ripe theMethod args0 below0 = true := by decide +kernel
theorem w_running : about1.status = .running := rfl
set_option maxRecDepth 65536 in
theorem w_room : about1.hasRoom e0.platform room_1 = true :=
  launch0.hasRoom_least _ room_1 (by decide +kernel) (by decide +kernel) (by decide +kernel) (by decide +kernel) (by decide +kernel) (by decide +kernel)
theorem allAtoms_all (ts : List Jvm.Cond) (a : Array Jvm.Value) (st : Jvm.State) : (allAtoms ts).before a st = ts.all (fun c => c.before a st) := by
  induction ts with
  | nil => rfl
  | cons c t ih =>
    show (Jvm.Cond.and c (allAtoms t)).before a st = _
    rw [Jvm.Cond.before_and, ih, List.all_cons]
def words1 : List Jvm.Cond := Jvm.Cond.code x code maxLocals ret :: tables_1
/-- a 'code' word, met by the world's own term for the bytes: nothing is compared byte by byte -/
theorem code_word {y : MethodName} {bytes : ByteArray} {mx : Nat} {rt : Option FieldType} {a : Array Value} {s : State} {m : MethodId} {meth : Method} {c : Code} (h1 : s.methodNamed? y = some m) (h2 : s.vm.method? m = some meth) (h3 : meth.code = some c) (h4 : c.code = bytes)
    (h5 : (c.maxLocals == mx && c.exceptionTable.isEmpty && decide (c.maxStack ≤ mostOperands) && decide (meth.sig.returnType = rt) && !meth.locks && decide (parseMethodDescriptor y.desc = some meth.sig)) = true) : (Jvm.Cond.code y bytes mx rt).before a s = true := by
  simp only [Bool.and_eq_true, beq_iff_eq, Bool.not_eq_true', decide_eq_true_eq] at h5
  obtain ⟨⟨⟨⟨⟨g1, g2⟩, g3⟩, g4⟩, g5⟩, g6⟩ := h5
  simp [Cond.before, Cond.holds, Cond.value, h1, h2, h3, h4, g1, g2, g3, g4, g5, g6]
def isCode : Jvm.Cond → Bool
  | .code _ _ _ _ => true
  | _ => false
theorem all_split {L : List Jvm.Cond} {P : Jvm.Cond → Bool} (h1 : L.all (fun c => isCode c || P c) = true) (h2 : ∀ c ∈ L.filter isCode, P c = true) : L.all P = true := by
  refine List.all_eq_true.mpr fun c hc => ?_
  have h := List.all_eq_true.mp h1 c hc
  rcases Bool.eq_false_or_eq_true (isCode c) with hi | hi
  · exact h2 c (List.mem_filter.mpr ⟨hc, hi⟩)
  · simpa [hi] using h
set_option maxRecDepth 65536 in
theorem w_c0 : (Jvm.Cond.code x code maxLocals ret).before args0 about1 = true := code_word (m := ⟨1, 1⟩) (meth := k1m1) (c := k1c1) (by decide +kernel) rfl rfl rfl (by decide +kernel)
set_option maxRecDepth 65536 in
theorem w_c1 : (Jvm.Cond.code ({ cls := "com/example/farcall/farcall/rpc/AuthStatusOfPinLaw", name := "ok", desc := "(I)Z" } : Jvm.MethodName) method_3_code (3 : Nat) (Option.some Jvm.ClassFile.FieldType.boolean)).before args0 about1 = true := code_word (m := ⟨1, 2⟩) (meth := k1m2) (c := k1c2) (by decide +kernel) rfl rfl rfl (by decide +kernel)
set_option maxRecDepth 65536 in
theorem w_c2 : (Jvm.Cond.code ({ cls := "com/example/farcall/farcall/rpc/AuthStatus", name := "of", desc := "(I)Lcom/example/farcall/farcall/rpc/AuthStatus;" } : Jvm.MethodName) prog_74_method_5_code (1 : Nat) (Option.some (Jvm.ClassFile.FieldType.object "com/example/farcall/farcall/rpc/AuthStatus"))).before args0 about1 = true := code_word (m := ⟨6, 1⟩) (meth := k6m1) (c := k6c1) (by decide +kernel) rfl rfl rfl (by decide +kernel)
set_option maxRecDepth 65536 in
theorem w_c3 : (Jvm.Cond.code ({ cls := "com/example/farcall/farcall/rpc/AuthStatus", name := "code", desc := "()I" } : Jvm.MethodName) prog_74_method_4_code (1 : Nat) (Option.some Jvm.ClassFile.FieldType.int)).before args0 about1 = true := code_word (m := ⟨6, 0⟩) (meth := k6m0) (c := k6c0) (by decide +kernel) rfl rfl rfl (by decide +kernel)
def codes1 : List Jvm.Cond := [Jvm.Cond.code x code maxLocals ret, Jvm.Cond.code ({ cls := "com/example/farcall/farcall/rpc/AuthStatusOfPinLaw", name := "ok", desc := "(I)Z" } : Jvm.MethodName) method_3_code (3 : Nat) (Option.some Jvm.ClassFile.FieldType.boolean), Jvm.Cond.code ({ cls := "com/example/farcall/farcall/rpc/AuthStatus", name := "of", desc := "(I)Lcom/example/farcall/farcall/rpc/AuthStatus;" } : Jvm.MethodName) prog_74_method_5_code (1 : Nat) (Option.some (Jvm.ClassFile.FieldType.object "com/example/farcall/farcall/rpc/AuthStatus")), Jvm.Cond.code ({ cls := "com/example/farcall/farcall/rpc/AuthStatus", name := "code", desc := "()I" } : Jvm.MethodName) prog_74_method_4_code (1 : Nat) (Option.some Jvm.ClassFile.FieldType.int)]
set_option maxRecDepth 65536 in
theorem codes_eq : words1.filter isCode = codes1 := rfl
theorem w_codes : ∀ c ∈ words1.filter isCode, c.before args0 about1 = true := by
  rw [codes_eq]
  intro c hc
  simp only [codes1, List.mem_cons, List.not_mem_nil, or_false] at hc
  rcases hc with rfl | rfl | rfl | rfl
  · exact w_c0
  · exact w_c1
  · exact w_c2
  · exact w_c3
set_option maxRecDepth 65536 in
theorem w_t1 : (words1.take 24).all (fun c => isCode c || c.before args0 about1) = true := by decide +kernel
set_option maxRecDepth 65536 in
theorem w_t2 : (words1.drop 24).all (fun c => isCode c || c.before args0 about1) = true := by decide +kernel
theorem w_tables : (allAtoms (Jvm.Cond.code x code maxLocals ret :: tables_1)).before args0 about1 = true := by
  rw [allAtoms_all]
  show words1.all (fun c => c.before args0 about1) = true
  refine all_split ?_ w_codes
  rw [← List.take_append_drop 24 words1, List.all_append, w_t1, w_t2]
  rfl
set_option maxRecDepth 65536 in
theorem w_case : (Jvm.Cond.and given_1 narrow_1).before args0 about1 = true := by decide +kernel
theorem w_applies : (headSpec (Jvm.Cond.code x code maxLocals ret :: tables_1) room_1).applies x e0.platform about1 = true :=
  (Spec.applies_iff w_frames).mpr ⟨w_running, w_runnable, w_alone, w_named, w_hears, w_ripe, w_room, w_tables⟩
theorem atStart : AtStart classFile x code maxLocals ret World_1 tables_1 room_1 Calls_1 rest_1 Pre_1 launch0 p0 e0 about1 theMethod args0 below0 :=
  ⟨lists_1, trivial, launch0.admits_env _ _ _, launch0.least_env, fairChoices_fair.cas, fairChoices_fair.clock, w_frames, w_args, w_heap, w_applies, trivial, trivial, w_case⟩
end start1
theorem witness_1 : WitnessClaimed_1 := ⟨start1.p0, start1.e0, start1.about1, start1.theMethod, start1.args0, start1.below0, start1.atStart⟩
end Jvm.Pilot.@@N@@
