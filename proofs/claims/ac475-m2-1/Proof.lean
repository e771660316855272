import JvmDerived
import JvmDerived.Pilot.@@N@@Statement
import JvmDerived.Pilot.@@N@@Code
set_option linter.unusedVariables false
set_option linter.unusedSimpArgs false
@@BLOCK:NumsL.lean.txt@@
namespace Jvm.Pilot.@@N@@
open Jvm Jvm.ClassFile Sem Op Lib Jvm.Free Jvm.Stand Jvm.LawKit Jvm.RoadKit Bundle Jvm.Pilot.@@N@@.Jvm.D
section own_kit
variable {p : Program} {l : Launch} {e : Env} {R : Room} {s : State} {m : MethodId} {args : Array Value} {below : List Frame} {meth : Method} {c : Code} {T T' : State} {locs : List Loc} {cells slots : Nat}
/-- from the frame g over the state T the run comes to an end of which K speaks -/
def Go (p : Program) (e : Env) (below : List Frame) (T : State) (g : JFrame) (K : Outcome → State → Prop) : Prop :=
  ∃ s₂ o, Steps p.tables e below (T.setTop g) s₂ ∧ s₂.status = .running ∧ Ended s₂ below o ∧ K o s₂
def KQ (s : State) (Q : Option Value → Heap → List Loc → Prop) (k n : Nat) (o : Outcome) (U : State) : Prop :=
  ∃ v L, o = .returned v ∧ Q v U.heap L ∧ FrameEnd s o U L k n
theorem Go.of {g g' : JFrame} {K : Outcome → State → Prop} (h : ∀ t, Steps p.tables e below (T'.setTop g') t → Steps p.tables e below (T.setTop g) t) (k : Go p e below T' g' K) : Go p e below T g K := by
  obtain ⟨s₂, o, h1, h2⟩ := k
  exact ⟨s₂, o, h _ h1, h2⟩
theorem Go.cast {g g' : JFrame} {K : Outcome → State → Prop} (q : g = g') (k : Go p e below T g' K) : Go p e below T g K := q ▸ k
theorem Go.ret0 (X : Stand p l e R s m args below meth c T locs cells slots) (hx : p.tables.exec = Jvm.exec) (hret : meth.sig.returnType = none) (hlk : meth.locks = false) {pc : Nat} {Ls : Array Slot} {Q : Option Value → Heap → List Loc → Prop} {k n : Nat} {h : Heap}
    (hd : decode c.code pc = .ok (.return_, 1)) (eT : T.heap = h) (hk : cells ≤ k) (hn : slots ≤ n) (hq : Q none h locs) : Go p e below T (mkF m pc Ls []) (KQ s Q k n) := by
  obtain ⟨fs, hr, hrun, hended, hW, hsame⟩ := X.leave (v := none) (fun _ => rfl) hlk
  exact ⟨_, _, X.returnOut hx hret hd hr, hrun, hended, _, _, rfl, by show Q none T.heap _; rw [eT]; exact hq, ⟨_, rfl⟩, hW, hsame.mono hk hn⟩
theorem Go.retV (X : Stand p l e R s m args below meth c T locs cells slots) (hx : p.tables.exec = Jvm.exec) {t : FieldType} {w : Value} {i : Instr} {rest : List Value} (hret : meth.sig.returnType = some t) (hlk : meth.locks = false) {pc : Nat} {Ls : Array Slot} {Q : Option Value → Heap → List Loc → Prop} {k n : Nat} {h : Heap} (hn0 : narrow t w = w)
    (hi : (i = .ireturn ∧ (t = .int ∨ t = .boolean ∨ t = .byte ∨ t = .char ∨ t = .short) ∧ ∃ z, w = .int z) ∨ (i = .lreturn ∧ t = .long ∧ ∃ z, w = .long z) ∨ (i = .dreturn ∧ t = .double ∧ ∃ z, w = .double z) ∨ (i = .freturn ∧ t = .float ∧ ∃ z, w = .float z) ∨ (i = .areturn ∧ t.isReference = true ∧ w.isRef = true))
    (hd : decode c.code pc = .ok (i, 1)) (eT : T.heap = h) (hk : cells ≤ k) (hn : slots ≤ n) (hq : Q (some w) h locs) : Go p e below T (mkF m pc Ls (w :: rest)) (KQ s Q k n) := by
  obtain ⟨fs, hr, hrun, hended, hW, hsame⟩ := X.leave (v := some w) (fun h => by rw [hret] at h; cases h) hlk
  exact ⟨_, _, retOut X hx hret hn0 hi hd hr, hrun, hended, _, _, rfl, by show Q (some w) T.heap _; rw [eT]; exact hq, ⟨_, rfl⟩, hW, hsame.mono hk hn⟩
theorem Go.retI (X : Stand p l e R s m args below meth c T locs cells slots) (hx : p.tables.exec = Jvm.exec) {z : Int32} {rest : List Value} (hret : meth.sig.returnType = some .int) (hlk : meth.locks = false) {pc : Nat} {Ls : Array Slot} {Q : Option Value → Heap → List Loc → Prop} {k n : Nat} {h : Heap}
    (hd : decode c.code pc = .ok (.ireturn, 1)) (eT : T.heap = h) (hk : cells ≤ k) (hn : slots ≤ n) (hq : Q (some (.int z)) h locs) : Go p e below T (mkF m pc Ls (.int z :: rest)) (KQ s Q k n) :=
  Go.retV X hx hret hlk rfl (Or.inl ⟨rfl, Or.inl rfl, z, rfl⟩) hd eT hk hn hq
theorem Go.retJ (X : Stand p l e R s m args below meth c T locs cells slots) (hx : p.tables.exec = Jvm.exec) {z : Int64} {rest : List Value} (hret : meth.sig.returnType = some .long) (hlk : meth.locks = false) {pc : Nat} {Ls : Array Slot} {Q : Option Value → Heap → List Loc → Prop} {k n : Nat} {h : Heap}
    (hd : decode c.code pc = .ok (.lreturn, 1)) (eT : T.heap = h) (hk : cells ≤ k) (hn : slots ≤ n) (hq : Q (some (.long z)) h locs) : Go p e below T (mkF m pc Ls (.long z :: rest)) (KQ s Q k n) :=
  Go.retV X hx hret hlk rfl (Or.inr (Or.inl ⟨rfl, rfl, z, rfl⟩)) hd eT hk hn hq
theorem narrow_ref {t : FieldType} {w : Value} (ht : t.isReference = true) (hw : w.isRef = true) : narrow t w = w := by
  rcases ref_cases hw with rfl | ⟨z, rfl⟩ <;> cases t <;> first | rfl | (cases ht; done)
theorem Go.retA (X : Stand p l e R s m args below meth c T locs cells slots) (hx : p.tables.exec = Jvm.exec) {t : FieldType} {w : Value} {rest : List Value} (hret : meth.sig.returnType = some t) (hlk : meth.locks = false) {pc : Nat} {Ls : Array Slot} {Q : Option Value → Heap → List Loc → Prop} {k n : Nat} {h : Heap} (ht : t.isReference = true) (hw : w.isRef = true)
    (hd : decode c.code pc = .ok (.areturn, 1)) (eT : T.heap = h) (hk : cells ≤ k) (hn : slots ≤ n) (hq : Q (some w) h locs) : Go p e below T (mkF m pc Ls (w :: rest)) (KQ s Q k n) :=
  Go.retV X hx hret hlk (narrow_ref ht hw) (Or.inr (Or.inr (Or.inr (Or.inr ⟨rfl, ht, hw⟩)))) hd eT hk hn hq
theorem Go.retN (X : Stand p l e R s m args below meth c T locs cells slots) (hx : p.tables.exec = Jvm.exec) {t : FieldType} {z : Int32} {rest : List Value} (hret : meth.sig.returnType = some t) (hlk : meth.locks = false) {pc : Nat} {Ls : Array Slot} {Q : Option Value → Heap → List Loc → Prop} {k n : Nat} {h : Heap} (ht : t = .boolean ∨ t = .byte ∨ t = .char ∨ t = .short)
    (hd : decode c.code pc = .ok (.ireturn, 1)) (eT : T.heap = h) (hk : cells ≤ k) (hn : slots ≤ n) (hq : Q (some (.int (nar t z))) h locs) : Go p e below T (mkF m pc Ls (.int z :: rest)) (KQ s Q k n) := by
  obtain ⟨fs, hr, hrun, hended, hW, hsame⟩ := X.leave (v := some (.int (nar t z))) (fun h => by rw [hret] at h; cases h) hlk
  exact ⟨_, _, Jvm.RoadKit.retN X hx hret ht hd hr, hrun, hended, _, _, rfl, by show Q _ T.heap _; rw [eT]; exact hq, ⟨_, rfl⟩, hW, hsame.mono hk hn⟩
/-- the contract of one body, at the arguments as and the heap h0 -/
abbrev Ctr (l : Launch) (Z : State) (y : MethodName) (bytes : ByteArray) (mx : Nat) (rt : Option FieldType) (ws : List Jvm.Cond) (R : Room) (as : Array Value) (h0 : Heap) (Q : Option Value → Heap → List Loc → Prop) : Prop :=
  MetFree l y (head1 (Jvm.Cond.code y bytes mx rt :: ws) R) (fun a U => a = as ∧ Z.Warmed39 U.vm ∧ U.heap = h0) (fun _ _ _ _ _ => True) (fun _ U o U' => ∃ v L, o = .returned v ∧ Q v U'.heap L ∧ FrameEnd U o U' L R.cells R.slots)
theorem Ctr.intro {Z : State} {y : MethodName} {bytes : ByteArray} {mx : Nat} {rt : Option FieldType} {ws : List Jvm.Cond} {as : Array Value} {h0 : Heap} {Q : Option Value → Heap → List Loc → Prop} (hpl : plainFor y = true)
    (body : ∀ (p : Program) (e : Env) (s : State) (m : MethodId) (below : List Frame) (meth : Method) (c : Code) (s₁ : State), p.tables.exec = Jvm.exec → c.code = bytes → c.maxLocals = mx → s.vm.findClass y.cls = some m.cls → meth.name = y.name → meth.sig.returnType = rt → meth.locks = false → Z.Warmed39 s.vm →
      Stand p l e R s m as below meth c s₁ [] 0 0 → s₁.heap = h0 → Go p e below s₁ (entryFrame m as mx) (KQ s Q R.cells R.slots)) : Ctr l Z y bytes mx rt ws R as h0 Q := by
  refine MetFree.of_bodySF hpl hisR ?_
  intro p e s m args below meth c s₁ Bd hml0 hP hK
  obtain ⟨rfl, hZ, hh⟩ := hP
  obtain ⟨s₂, o, h1, h2, h3, h4⟩ := body p e s m below meth c s₁ Bd.exec Bd.bytes hml0 (findClass_of_methodNamed Bd.named) (name_of_methodNamed Bd.named Bd.method).1 Bd.returns Bd.notSynchronized hZ (Stand.of_body Bd) (by rw [← hh, Bd.state]; rfl)
  exact ⟨s₂, o, h1, h2, h3, h4⟩
end own_kit
theorem own_mask31 (x : Int32) : 0 ≤ (x &&& 2147483647).toInt ∧ (x &&& 2147483647).toInt < 2 ^ 31 := by
  have e : (x &&& 2147483647).toInt = x.toInt % 2 ^ 31 := Jvm.Kit.i32_mask x 2147483647 (k := 31) (by decide) (by decide)
  omega
theorem own_rem {x y : Int32} (hx : 0 ≤ x.toInt) (hy : 0 < y.toInt) : 0 ≤ (x % y).toInt ∧ (x % y).toInt < y.toInt := by
  have e : (x % y).toInt = x.toInt.tmod y.toInt := Int32.toInt_mod x y
  rw [Int.tmod_eq_emod_of_nonneg hx] at e
  have h1 := Int.emod_nonneg x.toInt (show y.toInt ≠ 0 by omega)
  have h2 := Int.emod_lt_of_pos x.toInt hy
  omega
theorem own_lt {a b : Int32} : a < b ↔ a.toInt < b.toInt := Int32.lt_iff_toInt_lt
theorem own_eq {a b : Int32} : a = b ↔ a.toInt = b.toInt := Int32.toInt_inj.symm
theorem own_or' {args : Array Value} {first s : State} {o : Option Outcome} {idx : List Nat} {G Y : Jvm.Cond} {P : Prop} [Decidable P] (h : (Jvm.Cond.or G Y).value args first o s idx = some true) (hG : G.value args first o s idx = some (decide P)) (hn : ¬ P) : Y.value args first o s idx = some true := by
  simpa [Cond.value, hG, hn] using h
theorem own_len {Z : State} {args : Array Value} {t : Term} {a : Addr} {cl : Cell} {ty : FieldType} {n : Int32} (ea : t.eval args Z none [] Z = some (.ref a)) (A : Arr Z Z.heap a cl ty) (h : (Term.length t).eval args Z none [] Z = some (.int n)) : cl.slots.size = n.toNatClampNeg ∧ ¬ n < 0 := by
  have ha := A.fin (Vm.Alike.refl _)
  by_cases p : cl.slots.size < 2 ^ 31
  · have e := (len_f ea ha p).symm.trans h
    have e2 : cl.slots.size.toInt32 = n := Value.int.inj (Option.some.inj e)
    have e3 := len_toInt p
    rw [e2] at e3
    refine ⟨by simp only [Int32.toNatClampNeg, e3]; rfl, by rw [Int32.lt_iff_toInt_lt, e3]; simp⟩
  · simp [Term.eval, ea, ha, p] at h
theorem own_at {Z : State} {args : Array Value} {t F : Term} {a : Addr} {cl : Cell} {ty : FieldType} {j y : Int32} (et : ∀ idx, t.eval args Z none idx Z = some (.ref a)) (A : Arr Z Z.heap a cl ty) (nn : ¬ j < 0) (hF : F.eval args Z none [j.toNatClampNeg] Z = some (.int y))
    (h : (Jvm.Cond.eq (.elem t (.index 0)) F).value args Z none Z [j.toNatClampNeg] = some true) : cl.slots[j.toNatClampNeg]? = some (.int y) :=
  (elem_f (et _) (idx_at nn) (A.fin (Vm.Alike.refl _)) nn).symm.trans (eqv_i hF h)
theorem own_nlt {a b : Int32} : ¬ a < b ↔ b.toInt ≤ a.toInt := by rw [own_lt]; omega
theorem own_le {a b : Int32} : a ≤ b ↔ a.toInt ≤ b.toInt := Int32.le_iff_toInt_le
theorem own_clamp {j n : Int32} {k : Nat} (h0 : ¬ j < 0) (h1 : j < n) (hk : k = n.toNatClampNeg) : j.toNatClampNeg < k := by
  rw [own_lt] at h0 h1; subst hk
  have : (0 : Int32).toInt = 0 := by decide
  simp only [Int32.toNatClampNeg]; omega

theorem km1 : (-1 : Int32).toInt = -1 := by decide
theorem k0 : (0 : Int32).toInt = 0 := by decide
theorem k1 : (1 : Int32).toInt = 1 := by decide
theorem k2 : (2 : Int32).toInt = 2 := by decide
theorem k3 : (3 : Int32).toInt = 3 := by decide
theorem k4 : (4 : Int32).toInt = 4 := by decide
theorem k5 : (5 : Int32).toInt = 5 := by decide
theorem k6 : (6 : Int32).toInt = 6 := by decide
theorem own_eqR {Z : State} {args : Array Value} {X F : Term} {idx : List Nat} {a : Addr} (hF : F.eval args Z none idx Z = some (.ref a)) (h : (Jvm.Cond.eq X F).value args Z none Z idx = some true) : X.eval args Z none idx Z = some (.ref a) := by
  obtain ⟨x, y', e1, e2, k1, k2⟩ := cmp_v (Or.inl h)
  cases hF.symm.trans e2
  have hx : x.isRef = true := k2.2
  have q := gotT (eq_R e1 hF hx rfl) h
  rw [e1, q]
theorem own_6 {j : Int32} (h1 : ¬ j < 0) (h2 : j < 6) : j = 0 ∨ j = 1 ∨ j = 2 ∨ j = 3 ∨ j = 4 ∨ j = 5 := by
  simp only [own_lt, own_eq, km1, k0, k1, k2, k3, k4, k5, k6] at *
  omega
theorem d1_0 : decode prog_71_method_5_code 0 = .ok (.iload_n 0, 1) := by decide +kernel
theorem d1_1 : decode prog_71_method_5_code 1 = .ok (.ifCond .lt 19, 3) := by decide +kernel
theorem d1_20 : decode prog_71_method_5_code 20 = .ok (.aconst_null, 1) := by decide +kernel
theorem d1_21 : decode prog_71_method_5_code 21 = .ok (.areturn, 1) := by decide +kernel
theorem d1_4 : decode prog_71_method_5_code 4 = .ok (.iload_n 0, 1) := by decide +kernel
theorem d1_5 : decode prog_71_method_5_code 5 = .ok (.getstatic 45, 3) := by decide +kernel
theorem d1_8 : decode prog_71_method_5_code 8 = .ok (.arraylength, 1) := by decide +kernel
theorem d1_9 : decode prog_71_method_5_code 9 = .ok (.if_icmp .ge 11, 3) := by decide +kernel
theorem d1_12 : decode prog_71_method_5_code 12 = .ok (.getstatic 45, 3) := by decide +kernel
theorem d1_15 : decode prog_71_method_5_code 15 = .ok (.iload_n 0, 1) := by decide +kernel
theorem d1_16 : decode prog_71_method_5_code 16 = .ok (.aaload, 1) := by decide +kernel
theorem d1_17 : decode prog_71_method_5_code 17 = .ok (.goto 4, 3) := by decide +kernel
theorem own_pn0 : plainName "com/example/farcall/farcall/rpc/AcceptStatus" = true := by first | (simp [plainName, overriddenIn]; done) | decide +kernel
theorem own_ef_rm1 (m : MethodId) (x0 : Int32) : entryFrame m #[(.int x0)] 1 = mkF m 0 #[.val (.int x0)] [] := by first | (simp [entryFrame, mkF, argsToLocals, Value.category]; done) | rfl
def Q_rm1 (Z : State) (x0 : Int32) (aW : Addr) (cl : Cell) (aF : Int32 → Addr) (h0 : Heap) (n0 : Nat) : Option Value → Heap → List Loc → Prop := fun v h L => ((x0 < 0 ∨ ¬ x0 < 6) ∧ v = some .null ∨ ¬ x0 < 0 ∧ x0 < 6 ∧ v = some (.ref (aF x0))) ∧ Fr n0 L ∧ h = h0
set_option maxRecDepth 65536 in
set_option maxHeartbeats 40000000 in
theorem rm1 (l : Launch) (Z : State) (a0 : Array Value) (hw : ∀ d ∈ tables_1, d.before a0 Z = true) (ws : List Jvm.Cond) (x0 : Int32) (aW : Addr) (cl : Cell) (aF : Int32 → Addr) (h0 : Heap) (n0 : Nat) (Z0 : n0 ≤ h0.size) (S : Sta Z h0 "com/example/farcall/farcall/rpc/AcceptStatus" "BY_CODE" "[Lcom/example/farcall/farcall/rpc/AcceptStatus;" (.ref aW)) (A : Arr Z h0 aW cl (.object "com/example/farcall/farcall/rpc/AcceptStatus")) (Sz : cl.slots.size = (6 : Int32).toNatClampNeg) (Hat : ∀ j : Int32, ¬ j < 0 → j < 6 → cl.slots[j.toNatClampNeg]? = some (.ref (aF j))) :
    Ctr l Z (⟨"com/example/farcall/farcall/rpc/AcceptStatus", "of", "(I)Lcom/example/farcall/farcall/rpc/AcceptStatus;"⟩ : MethodName) prog_71_method_5_code 1 (some (.object "com/example/farcall/farcall/rpc/AcceptStatus")) ws ({ frames := 0, cells := 0, slots := 0, locals := 0 } : Room) #[(.int x0)] h0 (Q_rm1 Z x0 aW cl aF h0 n0) := by
  refine Ctr.intro (plainFor_of_name own_pn0) ?_
  intro p e s m below meth c s₁ hx hby hml hown hnm hret hlk hZ X0 e0
  have hown : s.vm.findClass "com/example/farcall/farcall/rpc/AcceptStatus" = some m.cls := hown
  have hml : c.maxLocals = 1 := hml
  have N0 := Fr.nil n0
  refine Go.cast (own_ef_rm1 m x0) ?_
  show Go p e below s₁ (mkF m 0 #[.val (.int x0)] []) _
  refine Go.of (fun _ k => XS.iloadN X0.here hx rfl (hb hby d1_0) rfl  k) ?_
  show Go p e below s₁ (mkF m 1 #[.val (.int x0)] [(.int x0)]) _
  by_cases hc1_0 : x0 < (0 : Int32)
  · refine Go.of (fun _ k => XS.ifYes X0.here hx rfl (pc0 := 1) (pc' := 20) rfl (hb hby d1_1) rfl ((if0 _ _).trans (tlt hc1_0).1) (by decide) (by decide) k) ?_
    show Go p e below s₁ (mkF m 20 #[.val (.int x0)] []) _
    refine Go.of (fun _ k => XS.aconstNull X0.here hx rfl (hb hby d1_20) k) ?_
    show Go p e below s₁ (mkF m 21 #[.val (.int x0)] [.null]) _
    refine Go.retA X0 hx hret hlk rfl rfl (hb hby d1_21) e0 (by decide) (by decide) ?_
    exact ⟨Or.inl ⟨Or.inl hc1_0, rfl⟩, N0, rfl⟩
  · refine Go.of (fun _ k => XS.ifNo X0.here hx rfl (hb hby d1_1) rfl ((if0 _ _).trans (flt hc1_0).1) k) ?_
    show Go p e below s₁ (mkF m 4 #[.val (.int x0)] []) _
    refine Go.of (fun _ k => XS.iloadN X0.here hx rfl (hb hby d1_4) rfl  k) ?_
    show Go p e below s₁ (mkF m 5 #[.val (.int x0)] [(.int x0)]) _
    obtain ⟨T1, X1, e1, st1⟩ := getS2 X0 hx hZ hown (host := "") (Or.inl (hw _ (List.mem_of_getElem? (i := 8) rfl))) Via.refl e0 S (g := (mkF m 5 #[.val (.int x0)] [(.int x0)])) rfl (hb hby d1_5)
    refine Go.of (fun _ k => st1 _ k) ?_
    show Go p e below T1 (mkF m 8 #[.val (.int x0)] [(.ref aW), (.int x0)]) _
    refine Go.of (fun _ k => X1.arraylength hx (by rw [e1]; exact A.1) (State.isArrayOf_alike hZ.alike A.2.1) (g := (mkF m 8 #[.val (.int x0)] [(.ref aW), (.int x0)])) rfl rfl (hb hby d1_8) _ k) ?_
    rw [len_of Sz (by decide)]
    show Go p e below T1 (mkF m 9 #[.val (.int x0)] [(.int (6 : Int32)), (.int x0)]) _
    by_cases hc9_1 : x0 < (6 : Int32)
    · refine Go.of (fun _ k => XS.icmpNo X1.here hx rfl (hb hby d1_9) rfl (tlt hc9_1).2.1 k) ?_
      show Go p e below T1 (mkF m 12 #[.val (.int x0)] []) _
      obtain ⟨T2, X2, e2, st2⟩ := getS2 X1 hx hZ hown (host := "") (Or.inl (hw _ (List.mem_of_getElem? (i := 8) rfl))) Via.refl e1 S (g := (mkF m 12 #[.val (.int x0)] [])) rfl (hb hby d1_12)
      refine Go.of (fun _ k => st2 _ k) ?_
      show Go p e below T2 (mkF m 15 #[.val (.int x0)] [(.ref aW)]) _
      refine Go.of (fun _ k => XS.iloadN X2.here hx rfl (hb hby d1_15) rfl  k) ?_
      show Go p e below T2 (mkF m 16 #[.val (.int x0)] [(.int x0), (.ref aW)]) _
      refine Go.of (fun _ k => X2.aaload hx (j := x0) (v := (.ref (aF x0))) (by rw [e2]; exact A.1) (State.isArrayOf_alike hZ.alike A.2.1) rfl A.2.2 (inb_of (z := 6) Sz ⟨hc1_0, hc9_1⟩) (Hat _ hc1_0 hc9_1) (g := (mkF m 16 #[.val (.int x0)] [(.int x0), (.ref aW)])) rfl rfl (hb hby d1_16) _ k) ?_
      show Go p e below T2 (mkF m 17 #[.val (.int x0)] [(.ref (aF x0))]) _
      refine Go.of (fun _ k => XS.goto X2.here hx rfl (pc0 := 17) (pc' := 21) rfl (hb hby d1_17) (by decide) (by decide) k) ?_
      show Go p e below T2 (mkF m 21 #[.val (.int x0)] [(.ref (aF x0))]) _
      refine Go.retA X2 hx hret hlk rfl rfl (hb hby d1_21) e2 (by decide) (by decide) ?_
      exact ⟨Or.inr ⟨hc1_0, hc9_1, rfl⟩, N0, rfl⟩
    · refine Go.of (fun _ k => XS.icmpYes X1.here hx rfl (pc0 := 9) (pc' := 20) rfl (hb hby d1_9) rfl (flt hc9_1).2.1 (by decide) (by decide) k) ?_
      show Go p e below T1 (mkF m 20 #[.val (.int x0)] []) _
      refine Go.of (fun _ k => XS.aconstNull X1.here hx rfl (hb hby d1_20) k) ?_
      show Go p e below T1 (mkF m 21 #[.val (.int x0)] [.null]) _
      refine Go.retA X1 hx hret hlk rfl rfl (hb hby d1_21) e1 (by decide) (by decide) ?_
      exact ⟨Or.inl ⟨Or.inr hc9_1, rfl⟩, N0, rfl⟩
theorem d2_0 : decode method_2_code 0 = .ok (.iload_n 0, 1) := by decide +kernel
theorem d2_1 : decode method_2_code 1 = .ok (.ifCond .ne 7, 3) := by decide +kernel
theorem d2_4 : decode method_2_code 4 = .ok (.getstatic 7, 3) := by decide +kernel
theorem d2_7 : decode method_2_code 7 = .ok (.areturn, 1) := by decide +kernel
theorem d2_8 : decode method_2_code 8 = .ok (.iload_n 0, 1) := by decide +kernel
theorem d2_9 : decode method_2_code 9 = .ok (.iconst 1, 1) := by decide +kernel
theorem d2_10 : decode method_2_code 10 = .ok (.if_icmp .ne 7, 3) := by decide +kernel
theorem d2_13 : decode method_2_code 13 = .ok (.getstatic 13, 3) := by decide +kernel
theorem d2_16 : decode method_2_code 16 = .ok (.areturn, 1) := by decide +kernel
theorem d2_17 : decode method_2_code 17 = .ok (.iload_n 0, 1) := by decide +kernel
theorem d2_18 : decode method_2_code 18 = .ok (.iconst 2, 1) := by decide +kernel
theorem d2_19 : decode method_2_code 19 = .ok (.if_icmp .ne 7, 3) := by decide +kernel
theorem d2_22 : decode method_2_code 22 = .ok (.getstatic 16, 3) := by decide +kernel
theorem d2_25 : decode method_2_code 25 = .ok (.areturn, 1) := by decide +kernel
theorem d2_26 : decode method_2_code 26 = .ok (.iload_n 0, 1) := by decide +kernel
theorem d2_27 : decode method_2_code 27 = .ok (.iconst 3, 1) := by decide +kernel
theorem d2_28 : decode method_2_code 28 = .ok (.if_icmp .ne 7, 3) := by decide +kernel
theorem d2_31 : decode method_2_code 31 = .ok (.getstatic 19, 3) := by decide +kernel
theorem d2_34 : decode method_2_code 34 = .ok (.areturn, 1) := by decide +kernel
theorem d2_35 : decode method_2_code 35 = .ok (.iload_n 0, 1) := by decide +kernel
theorem d2_36 : decode method_2_code 36 = .ok (.iconst 4, 1) := by decide +kernel
theorem d2_37 : decode method_2_code 37 = .ok (.if_icmp .ne 7, 3) := by decide +kernel
theorem d2_40 : decode method_2_code 40 = .ok (.getstatic 22, 3) := by decide +kernel
theorem d2_43 : decode method_2_code 43 = .ok (.areturn, 1) := by decide +kernel
theorem d2_44 : decode method_2_code 44 = .ok (.iload_n 0, 1) := by decide +kernel
theorem d2_45 : decode method_2_code 45 = .ok (.iconst 5, 1) := by decide +kernel
theorem d2_46 : decode method_2_code 46 = .ok (.if_icmp .ne 7, 3) := by decide +kernel
theorem d2_49 : decode method_2_code 49 = .ok (.getstatic 25, 3) := by decide +kernel
theorem d2_52 : decode method_2_code 52 = .ok (.areturn, 1) := by decide +kernel
theorem d2_53 : decode method_2_code 53 = .ok (.aconst_null, 1) := by decide +kernel
theorem d2_54 : decode method_2_code 54 = .ok (.areturn, 1) := by decide +kernel
theorem own_pn1 : plainName "com/example/farcall/farcall/rpc/AcceptStatusOfPinLaw" = true := by first | (simp [plainName, overriddenIn]; done) | decide +kernel
theorem own_ef_rm2 (m : MethodId) (x0 : Int32) : entryFrame m #[(.int x0)] 1 = mkF m 0 #[.val (.int x0)] [] := by first | (simp [entryFrame, mkF, argsToLocals, Value.category]; done) | rfl
def Q_rm2 (Z : State) (x0 : Int32) (aF : Int32 → Addr) (h0 : Heap) (n0 : Nat) : Option Value → Heap → List Loc → Prop := fun v h L => ((x0 < 0 ∨ ¬ x0 < 6) ∧ v = some .null ∨ ¬ x0 < 0 ∧ x0 < 6 ∧ v = some (.ref (aF x0))) ∧ Fr n0 L ∧ h = h0
set_option maxRecDepth 65536 in
set_option maxHeartbeats 40000000 in
theorem rm2 (l : Launch) (Z : State) (a0 : Array Value) (hw : ∀ d ∈ tables_1, d.before a0 Z = true) (ws : List Jvm.Cond) (x0 : Int32) (aF : Int32 → Addr) (h0 : Heap) (n0 : Nat) (Z0 : n0 ≤ h0.size) (S0 : Sta Z h0 "com/example/farcall/farcall/rpc/AcceptStatus" "SUCCESS" "Lcom/example/farcall/farcall/rpc/AcceptStatus;" (.ref (aF 0))) (S1 : Sta Z h0 "com/example/farcall/farcall/rpc/AcceptStatus" "PROG_UNAVAIL" "Lcom/example/farcall/farcall/rpc/AcceptStatus;" (.ref (aF 1))) (S2 : Sta Z h0 "com/example/farcall/farcall/rpc/AcceptStatus" "PROG_MISMATCH" "Lcom/example/farcall/farcall/rpc/AcceptStatus;" (.ref (aF 2))) (S3 : Sta Z h0 "com/example/farcall/farcall/rpc/AcceptStatus" "PROC_UNAVAIL" "Lcom/example/farcall/farcall/rpc/AcceptStatus;" (.ref (aF 3))) (S4 : Sta Z h0 "com/example/farcall/farcall/rpc/AcceptStatus" "GARBAGE_ARGS" "Lcom/example/farcall/farcall/rpc/AcceptStatus;" (.ref (aF 4))) (S5 : Sta Z h0 "com/example/farcall/farcall/rpc/AcceptStatus" "SYSTEM_ERR" "Lcom/example/farcall/farcall/rpc/AcceptStatus;" (.ref (aF 5))) :
    Ctr l Z (⟨"com/example/farcall/farcall/rpc/AcceptStatusOfPinLaw", "expected", "(I)Lcom/example/farcall/farcall/rpc/AcceptStatus;"⟩ : MethodName) method_2_code 1 (some (.object "com/example/farcall/farcall/rpc/AcceptStatus")) ws ({ frames := 0, cells := 0, slots := 0, locals := 0 } : Room) #[(.int x0)] h0 (Q_rm2 Z x0 aF h0 n0) := by
  refine Ctr.intro (plainFor_of_name own_pn1) ?_
  intro p e s m below meth c s₁ hx hby hml hown hnm hret hlk hZ X0 e0
  have hown : s.vm.findClass "com/example/farcall/farcall/rpc/AcceptStatusOfPinLaw" = some m.cls := hown
  have hml : c.maxLocals = 1 := hml
  have N0 := Fr.nil n0
  refine Go.cast (own_ef_rm2 m x0) ?_
  show Go p e below s₁ (mkF m 0 #[.val (.int x0)] []) _
  refine Go.of (fun _ k => XS.iloadN X0.here hx rfl (hb hby d2_0) rfl  k) ?_
  show Go p e below s₁ (mkF m 1 #[.val (.int x0)] [(.int x0)]) _
  by_cases hc1_0 : x0 = (0 : Int32)
  · refine Go.of (fun _ k => XS.ifNo X0.here hx rfl (hb hby d2_1) rfl ((if0 _ _).trans (teq hc1_0).2) k) ?_
    show Go p e below s₁ (mkF m 4 #[.val (.int x0)] []) _
    obtain ⟨T1, X1, e1, st1⟩ := getS2 X0 hx hZ hown (host := "") (Or.inl (hw _ (List.mem_of_getElem? (i := 26) rfl))) Via.refl e0 S0 (g := (mkF m 4 #[.val (.int x0)] [])) rfl (hb hby d2_4)
    refine Go.of (fun _ k => st1 _ k) ?_
    show Go p e below T1 (mkF m 7 #[.val (.int x0)] [(.ref (aF 0))]) _
    refine Go.retA X1 hx hret hlk rfl rfl (hb hby d2_7) e1 (by decide) (by decide) ?_
    exact ⟨Or.inr ⟨by rw [hc1_0]; decide, by rw [hc1_0]; decide, by rw [hc1_0]⟩, N0, rfl⟩
  · refine Go.of (fun _ k => XS.ifYes X0.here hx rfl (pc0 := 1) (pc' := 8) rfl (hb hby d2_1) rfl ((if0 _ _).trans (feq hc1_0).2) (by decide) (by decide) k) ?_
    show Go p e below s₁ (mkF m 8 #[.val (.int x0)] []) _
    refine Go.of (fun _ k => XS.iloadN X0.here hx rfl (hb hby d2_8) rfl  k) ?_
    show Go p e below s₁ (mkF m 9 #[.val (.int x0)] [(.int x0)]) _
    refine Go.of (fun _ k => XS.iconst X0.here hx rfl (hb hby d2_9) k) ?_
    show Go p e below s₁ (mkF m 10 #[.val (.int x0)] [(.int (1 : Int32)), (.int x0)]) _
    by_cases hc10_1 : x0 = (1 : Int32)
    · refine Go.of (fun _ k => XS.icmpNo X0.here hx rfl (hb hby d2_10) rfl (teq hc10_1).2 k) ?_
      show Go p e below s₁ (mkF m 13 #[.val (.int x0)] []) _
      obtain ⟨T2, X2, e2, st2⟩ := getS2 X0 hx hZ hown (host := "") (Or.inl (hw _ (List.mem_of_getElem? (i := 28) rfl))) Via.refl e0 S1 (g := (mkF m 13 #[.val (.int x0)] [])) rfl (hb hby d2_13)
      refine Go.of (fun _ k => st2 _ k) ?_
      show Go p e below T2 (mkF m 16 #[.val (.int x0)] [(.ref (aF 1))]) _
      refine Go.retA X2 hx hret hlk rfl rfl (hb hby d2_16) e2 (by decide) (by decide) ?_
      exact ⟨Or.inr ⟨by rw [hc10_1]; decide, by rw [hc10_1]; decide, by rw [hc10_1]⟩, N0, rfl⟩
    · refine Go.of (fun _ k => XS.icmpYes X0.here hx rfl (pc0 := 10) (pc' := 17) rfl (hb hby d2_10) rfl (feq hc10_1).2 (by decide) (by decide) k) ?_
      show Go p e below s₁ (mkF m 17 #[.val (.int x0)] []) _
      refine Go.of (fun _ k => XS.iloadN X0.here hx rfl (hb hby d2_17) rfl  k) ?_
      show Go p e below s₁ (mkF m 18 #[.val (.int x0)] [(.int x0)]) _
      refine Go.of (fun _ k => XS.iconst X0.here hx rfl (hb hby d2_18) k) ?_
      show Go p e below s₁ (mkF m 19 #[.val (.int x0)] [(.int (2 : Int32)), (.int x0)]) _
      by_cases hc19_2 : x0 = (2 : Int32)
      · refine Go.of (fun _ k => XS.icmpNo X0.here hx rfl (hb hby d2_19) rfl (teq hc19_2).2 k) ?_
        show Go p e below s₁ (mkF m 22 #[.val (.int x0)] []) _
        obtain ⟨T3, X3, e3, st3⟩ := getS2 X0 hx hZ hown (host := "") (Or.inl (hw _ (List.mem_of_getElem? (i := 24) rfl))) Via.refl e0 S2 (g := (mkF m 22 #[.val (.int x0)] [])) rfl (hb hby d2_22)
        refine Go.of (fun _ k => st3 _ k) ?_
        show Go p e below T3 (mkF m 25 #[.val (.int x0)] [(.ref (aF 2))]) _
        refine Go.retA X3 hx hret hlk rfl rfl (hb hby d2_25) e3 (by decide) (by decide) ?_
        exact ⟨Or.inr ⟨by rw [hc19_2]; decide, by rw [hc19_2]; decide, by rw [hc19_2]⟩, N0, rfl⟩
      · refine Go.of (fun _ k => XS.icmpYes X0.here hx rfl (pc0 := 19) (pc' := 26) rfl (hb hby d2_19) rfl (feq hc19_2).2 (by decide) (by decide) k) ?_
        show Go p e below s₁ (mkF m 26 #[.val (.int x0)] []) _
        refine Go.of (fun _ k => XS.iloadN X0.here hx rfl (hb hby d2_26) rfl  k) ?_
        show Go p e below s₁ (mkF m 27 #[.val (.int x0)] [(.int x0)]) _
        refine Go.of (fun _ k => XS.iconst X0.here hx rfl (hb hby d2_27) k) ?_
        show Go p e below s₁ (mkF m 28 #[.val (.int x0)] [(.int (3 : Int32)), (.int x0)]) _
        by_cases hc28_3 : x0 = (3 : Int32)
        · refine Go.of (fun _ k => XS.icmpNo X0.here hx rfl (hb hby d2_28) rfl (teq hc28_3).2 k) ?_
          show Go p e below s₁ (mkF m 31 #[.val (.int x0)] []) _
          obtain ⟨T4, X4, e4, st4⟩ := getS2 X0 hx hZ hown (host := "") (Or.inl (hw _ (List.mem_of_getElem? (i := 20) rfl))) Via.refl e0 S3 (g := (mkF m 31 #[.val (.int x0)] [])) rfl (hb hby d2_31)
          refine Go.of (fun _ k => st4 _ k) ?_
          show Go p e below T4 (mkF m 34 #[.val (.int x0)] [(.ref (aF 3))]) _
          refine Go.retA X4 hx hret hlk rfl rfl (hb hby d2_34) e4 (by decide) (by decide) ?_
          exact ⟨Or.inr ⟨by rw [hc28_3]; decide, by rw [hc28_3]; decide, by rw [hc28_3]⟩, N0, rfl⟩
        · refine Go.of (fun _ k => XS.icmpYes X0.here hx rfl (pc0 := 28) (pc' := 35) rfl (hb hby d2_28) rfl (feq hc28_3).2 (by decide) (by decide) k) ?_
          show Go p e below s₁ (mkF m 35 #[.val (.int x0)] []) _
          refine Go.of (fun _ k => XS.iloadN X0.here hx rfl (hb hby d2_35) rfl  k) ?_
          show Go p e below s₁ (mkF m 36 #[.val (.int x0)] [(.int x0)]) _
          refine Go.of (fun _ k => XS.iconst X0.here hx rfl (hb hby d2_36) k) ?_
          show Go p e below s₁ (mkF m 37 #[.val (.int x0)] [(.int (4 : Int32)), (.int x0)]) _
          by_cases hc37_4 : x0 = (4 : Int32)
          · refine Go.of (fun _ k => XS.icmpNo X0.here hx rfl (hb hby d2_37) rfl (teq hc37_4).2 k) ?_
            show Go p e below s₁ (mkF m 40 #[.val (.int x0)] []) _
            obtain ⟨T5, X5, e5, st5⟩ := getS2 X0 hx hZ hown (host := "") (Or.inl (hw _ (List.mem_of_getElem? (i := 22) rfl))) Via.refl e0 S4 (g := (mkF m 40 #[.val (.int x0)] [])) rfl (hb hby d2_40)
            refine Go.of (fun _ k => st5 _ k) ?_
            show Go p e below T5 (mkF m 43 #[.val (.int x0)] [(.ref (aF 4))]) _
            refine Go.retA X5 hx hret hlk rfl rfl (hb hby d2_43) e5 (by decide) (by decide) ?_
            exact ⟨Or.inr ⟨by rw [hc37_4]; decide, by rw [hc37_4]; decide, by rw [hc37_4]⟩, N0, rfl⟩
          · refine Go.of (fun _ k => XS.icmpYes X0.here hx rfl (pc0 := 37) (pc' := 44) rfl (hb hby d2_37) rfl (feq hc37_4).2 (by decide) (by decide) k) ?_
            show Go p e below s₁ (mkF m 44 #[.val (.int x0)] []) _
            refine Go.of (fun _ k => XS.iloadN X0.here hx rfl (hb hby d2_44) rfl  k) ?_
            show Go p e below s₁ (mkF m 45 #[.val (.int x0)] [(.int x0)]) _
            refine Go.of (fun _ k => XS.iconst X0.here hx rfl (hb hby d2_45) k) ?_
            show Go p e below s₁ (mkF m 46 #[.val (.int x0)] [(.int (5 : Int32)), (.int x0)]) _
            by_cases hc46_5 : x0 = (5 : Int32)
            · refine Go.of (fun _ k => XS.icmpNo X0.here hx rfl (hb hby d2_46) rfl (teq hc46_5).2 k) ?_
              show Go p e below s₁ (mkF m 49 #[.val (.int x0)] []) _
              obtain ⟨T6, X6, e6, st6⟩ := getS2 X0 hx hZ hown (host := "") (Or.inl (hw _ (List.mem_of_getElem? (i := 11) rfl))) Via.refl e0 S5 (g := (mkF m 49 #[.val (.int x0)] [])) rfl (hb hby d2_49)
              refine Go.of (fun _ k => st6 _ k) ?_
              show Go p e below T6 (mkF m 52 #[.val (.int x0)] [(.ref (aF 5))]) _
              refine Go.retA X6 hx hret hlk rfl rfl (hb hby d2_52) e6 (by decide) (by decide) ?_
              exact ⟨Or.inr ⟨by rw [hc46_5]; decide, by rw [hc46_5]; decide, by rw [hc46_5]⟩, N0, rfl⟩
            · refine Go.of (fun _ k => XS.icmpYes X0.here hx rfl (pc0 := 46) (pc' := 53) rfl (hb hby d2_46) rfl (feq hc46_5).2 (by decide) (by decide) k) ?_
              show Go p e below s₁ (mkF m 53 #[.val (.int x0)] []) _
              refine Go.of (fun _ k => XS.aconstNull X0.here hx rfl (hb hby d2_53) k) ?_
              show Go p e below s₁ (mkF m 54 #[.val (.int x0)] [.null]) _
              refine Go.retA X0 hx hret hlk rfl rfl (hb hby d2_54) e0 (by decide) (by decide) ?_
              refine ⟨Or.inl ⟨?_, rfl⟩, N0, rfl⟩
              simp only [own_lt, own_eq, km1, k0, k1, k2, k3, k4, k5, k6] at *
              omega
theorem d3_0 : decode prog_71_method_4_code 0 = .ok (.aload_n 0, 1) := by decide +kernel
theorem d3_1 : decode prog_71_method_4_code 1 = .ok (.getfield 41, 3) := by decide +kernel
theorem d3_4 : decode prog_71_method_4_code 4 = .ok (.ireturn, 1) := by decide +kernel
theorem own_ef_rm3 (m : MethodId) (x0 : Addr) : entryFrame m #[(.ref x0)] 1 = mkF m 0 #[.val (.ref x0)] [] := by first | (simp [entryFrame, mkF, argsToLocals, Value.category]; done) | rfl
def Q_rm3 (Z : State) (x0 : Addr) (k : Int32) (h0 : Heap) (n0 : Nat) : Option Value → Heap → List Loc → Prop := fun v h L => v = some (.int k) ∧ Fr n0 L ∧ h = h0
set_option maxRecDepth 65536 in
set_option maxHeartbeats 40000000 in
theorem rm3 (l : Launch) (Z : State) (a0 : Array Value) (hw : ∀ d ∈ tables_1, d.before a0 Z = true) (ws : List Jvm.Cond) (x0 : Addr) (k : Int32) (h0 : Heap) (n0 : Nat) (Z0 : n0 ≤ h0.size) (F : Fld Z h0 x0 "com/example/farcall/farcall/rpc/AcceptStatus" "code" "I" (.int k)) :
    Ctr l Z (⟨"com/example/farcall/farcall/rpc/AcceptStatus", "code", "()I"⟩ : MethodName) prog_71_method_4_code 1 (some .int) ws ({ frames := 0, cells := 0, slots := 0, locals := 0 } : Room) #[(.ref x0)] h0 (Q_rm3 Z x0 k h0 n0) := by
  refine Ctr.intro (plainFor_of_name own_pn0) ?_
  intro p e s m below meth c s₁ hx hby hml hown hnm hret hlk hZ X0 e0
  have hown : s.vm.findClass "com/example/farcall/farcall/rpc/AcceptStatus" = some m.cls := hown
  have hml : c.maxLocals = 1 := hml
  have N0 := Fr.nil n0
  refine Go.cast (own_ef_rm3 m x0) ?_
  show Go p e below s₁ (mkF m 0 #[.val (.ref x0)] []) _
  refine Go.of (fun _ k => XS.aloadN X0.here hx rfl (hb hby d3_0) rfl rfl  k) ?_
  show Go p e below s₁ (mkF m 1 #[.val (.ref x0)] [(.ref x0)]) _
  obtain ⟨T1, X1, e1, st1⟩ := getF X0 hx hZ hown (host := "") (Or.inl (hw _ (List.mem_of_getElem? (i := 17) rfl))) Via.refl e0 F (g := (mkF m 1 #[.val (.ref x0)] [(.ref x0)])) rfl rfl (hb hby d3_1)
  refine Go.of (fun _ k => st1 _ k) ?_
  show Go p e below T1 (mkF m 4 #[.val (.ref x0)] [(.int k)]) _
  refine Go.retI X1 hx hret hlk (hb hby d3_4) e1 (by decide) (by decide) ?_
  exact ⟨rfl, N0, rfl⟩
theorem own_pd0 : parseMethodDescriptor "(I)Lcom/example/farcall/farcall/rpc/AcceptStatus;" = some ⟨[.int], some (.object "com/example/farcall/farcall/rpc/AcceptStatus")⟩ := by decide +kernel
theorem own_pd1 : parseMethodDescriptor "()I" = some ⟨[], some .int⟩ := by decide +kernel
theorem own_ef_rm0 (m : MethodId) (x0 : Int32) (x1 : Int32) : entryFrame m #[(.int x0), (.int x1)] maxLocals = mkF m 0 #[.val (.int x0), .val (.int x1), .unset, .unset, .unset, .unset] [] := by first | (simp [entryFrame, mkF, argsToLocals, Value.category, maxLocals]; done) | rfl
def Q_rm0 (Z : State) (x0 x1 : Int32) (aW : Addr) (cl : Cell) (aF : Int32 → Addr) (h0 : Heap) (n0 : Nat) : Option Value → Heap → List Loc → Prop := fun v h L => v = some (.int 1) ∧ Fr n0 L
set_option maxRecDepth 65536 in
set_option maxHeartbeats 40000000 in
theorem rm0 (l : Launch) (Z : State) (a0 : Array Value) (hw : ∀ d ∈ tables_1, d.before a0 Z = true) (ws : List Jvm.Cond) (x0 x1 : Int32) (aW : Addr) (cl : Cell) (aF : Int32 → Addr) (h0 : Heap) (n0 : Nat) (Z0 : n0 ≤ h0.size) (S : Sta Z h0 "com/example/farcall/farcall/rpc/AcceptStatus" "BY_CODE" "[Lcom/example/farcall/farcall/rpc/AcceptStatus;" (.ref aW)) (A : Arr Z h0 aW cl (.object "com/example/farcall/farcall/rpc/AcceptStatus")) (Sz : cl.slots.size = (6 : Int32).toNatClampNeg) (Hat : ∀ j : Int32, ¬ j < 0 → j < 6 → cl.slots[j.toNatClampNeg]? = some (.ref (aF j))) (S0 : Sta Z h0 "com/example/farcall/farcall/rpc/AcceptStatus" "SUCCESS" "Lcom/example/farcall/farcall/rpc/AcceptStatus;" (.ref (aF 0))) (S1 : Sta Z h0 "com/example/farcall/farcall/rpc/AcceptStatus" "PROG_UNAVAIL" "Lcom/example/farcall/farcall/rpc/AcceptStatus;" (.ref (aF 1))) (S2 : Sta Z h0 "com/example/farcall/farcall/rpc/AcceptStatus" "PROG_MISMATCH" "Lcom/example/farcall/farcall/rpc/AcceptStatus;" (.ref (aF 2))) (S3 : Sta Z h0 "com/example/farcall/farcall/rpc/AcceptStatus" "PROC_UNAVAIL" "Lcom/example/farcall/farcall/rpc/AcceptStatus;" (.ref (aF 3))) (S4 : Sta Z h0 "com/example/farcall/farcall/rpc/AcceptStatus" "GARBAGE_ARGS" "Lcom/example/farcall/farcall/rpc/AcceptStatus;" (.ref (aF 4))) (S5 : Sta Z h0 "com/example/farcall/farcall/rpc/AcceptStatus" "SYSTEM_ERR" "Lcom/example/farcall/farcall/rpc/AcceptStatus;" (.ref (aF 5))) (Hc : ∀ j : Int32, ¬ j < 0 → j < 6 → Exa Z h0 (aF j) "com/example/farcall/farcall/rpc/AcceptStatus" ∧ Fld Z h0 (aF j) "com/example/farcall/farcall/rpc/AcceptStatus" "code" "I" (.int j)) :
    Ctr l Z x code maxLocals ret ws room_1 #[(.int x0), (.int x1)] h0 (Q_rm0 Z x0 x1 aW cl aF h0 n0) := by
  refine Ctr.intro (plainFor_of_name own_pn1) ?_
  intro p e s m below meth c s₁ hx hby hml hown hnm hret hlk hZ X0 e0
  have hown : s.vm.findClass "com/example/farcall/farcall/rpc/AcceptStatusOfPinLaw" = some m.cls := hown
  have hml : c.maxLocals = 6 := hml
  have N0 := Fr.nil n0
  refine Go.cast (own_ef_rm0 m x0 x1) ?_
  have K27 : ∀ (z2 : Slot) (cc : Int32), Go p e below s₁ (mkF m 27 #[.val (.int x0), .val (.int x1), z2, .val (.int cc), .unset, .unset] []) (KQ s (Q_rm0 Z x0 x1 aW cl aF h0 n0) room_1.cells room_1.slots) := by
    intro z2 cc 
    refine Go.of (fun _ k => XS.iloadN X0.here hx rfl (hb hby at_27) rfl  k) ?_
    show Go p e below s₁ (mkF m 28 #[.val (.int x0), .val (.int x1), z2, .val (.int cc), .unset, .unset] [(.int cc)]) _
    obtain ⟨_, _, ⟨T1, L1, kq1, nq1⟩, -, X1, ⟨Lc1, hQ1, l1, y1, z1⟩, st1⟩ := Jvm.LawKit.callS X0 hx (y := (⟨"com/example/farcall/farcall/rpc/AcceptStatus", "of", "(I)Lcom/example/farcall/farcall/rpc/AcceptStatus;"⟩ : MethodName)) hown (mvT hZ (hw _ (List.mem_of_getElem? (i := 0) rfl))) (mvT hZ (hw _ (List.mem_of_getElem? (i := 1) rfl))) (mvT hZ (hw _ (List.mem_of_getElem? (i := 2) rfl))) (mvT hZ (hw _ (List.mem_of_getElem? (i := 3) rfl))) (by decide) (backOf (W := 0) (rm1 l Z a0 hw [] cc aW cl aF h0 n0 Z0 S A Sz Hat) hZ (hw _ (List.mem_of_getElem? (i := 3) rfl)) (hw _ (List.mem_of_getElem? (i := 2) rfl)) (by decide) (by decide)) (g := (mkF m 28 #[.val (.int x0), .val (.int x1), z2, .val (.int cc), .unset, .unset] [(.int cc)])) rfl (by rw [hml]; rfl) (argsL := [(.int cc)]) (rest := []) (lenOf own_pd0 rfl) rfl (by show 2 * 0 + _ ≤ _; exact Nat.le_of_eq rfl) (hb hby at_28) (fun _ _ => ⟨rfl, e0, (by decide : 0 + 0 ≤ _), (by decide : 0 + 0 ≤ _)⟩)
    dsimp only [Pt.U, Pt.locs, Pt.cells, Pt.slots] at X1 l1 y1 z1 st1 hQ1
    subst l1 y1 z1
    obtain ⟨hQ1, Nq1, e1⟩ := hQ1
    have N1 := Fr.app N0 Nq1
    rcases hQ1 with ⟨ho, rfl⟩ | ⟨ho1, ho2, rfl⟩
    · refine Go.of (fun _ k => st1 _ k) ?_
      show Go p e below T1 (mkF m 31 #[.val (.int x0), .val (.int x1), z2, .val (.int cc), .unset, .unset] [.null]) _
      refine Go.of (fun _ k => XS.astore X1.here hx rfl (hb hby at_31) rfl rfl (l' := #[.val (.int x0), .val (.int x1), z2, .val (.int cc), .val .null, .unset]) rfl k) ?_
      show Go p e below T1 (mkF m 33 #[.val (.int x0), .val (.int x1), z2, .val (.int cc), .val .null, .unset] []) _
      refine Go.of (fun _ k => XS.iloadN X1.here hx rfl (hb hby at_33) rfl  k) ?_
      show Go p e below T1 (mkF m 34 #[.val (.int x0), .val (.int x1), z2, .val (.int cc), .val .null, .unset] [(.int cc)]) _
      obtain ⟨_, _, ⟨T2, L2, kq2, nq2⟩, -, X2, ⟨Lc2, hQ2, l2, y2, z2⟩, st2⟩ := Jvm.LawKit.callS X1 hx (y := (⟨"com/example/farcall/farcall/rpc/AcceptStatusOfPinLaw", "expected", "(I)Lcom/example/farcall/farcall/rpc/AcceptStatus;"⟩ : MethodName)) hown (mvT hZ (hw _ (List.mem_of_getElem? (i := 4) rfl))) (mvT hZ (hw _ (List.mem_of_getElem? (i := 5) rfl))) (mvT hZ (hw _ (List.mem_of_getElem? (i := 6) rfl))) (mvT hZ (hw _ (List.mem_of_getElem? (i := 7) rfl))) (by decide) (backOf (W := 0) (rm2 l Z a0 hw [] cc aF h0 n0 Z0 S0 S1 S2 S3 S4 S5) hZ (hw _ (List.mem_of_getElem? (i := 7) rfl)) (hw _ (List.mem_of_getElem? (i := 6) rfl)) (by decide) (by decide)) (g := (mkF m 34 #[.val (.int x0), .val (.int x1), z2, .val (.int cc), .val .null, .unset] [(.int cc)])) rfl (by rw [hml]; rfl) (argsL := [(.int cc)]) (rest := []) (lenOf own_pd0 rfl) rfl (by show 2 * 0 + _ ≤ _; exact Nat.le_of_eq rfl) (hb hby at_34) (fun _ _ => ⟨rfl, e1, (by decide : 0 + 0 ≤ _), (by decide : 0 + 0 ≤ _)⟩)
      dsimp only [Pt.U, Pt.locs, Pt.cells, Pt.slots] at X2 l2 y2 z2 st2 hQ2
      subst l2 y2 z2
      obtain ⟨hQ2, Nq2, e2⟩ := hQ2
      have N2 := Fr.app N1 Nq2
      rcases hQ2 with ⟨hu, rfl⟩ | ⟨hu1, hu2, rfl⟩
      · refine Go.of (fun _ k => st2 _ k) ?_
        show Go p e below T2 (mkF m 37 #[.val (.int x0), .val (.int x1), z2, .val (.int cc), .val .null, .unset] [.null]) _
        refine Go.of (fun _ k => XS.astore X2.here hx rfl (hb hby at_37) rfl rfl (l' := #[.val (.int x0), .val (.int x1), z2, .val (.int cc), .val .null, .val .null]) rfl k) ?_
        show Go p e below T2 (mkF m 39 #[.val (.int x0), .val (.int x1), z2, .val (.int cc), .val .null, .val .null] []) _
        refine Go.of (fun _ k => XS.aload X2.here hx rfl (hb hby at_39) rfl rfl  k) ?_
        show Go p e below T2 (mkF m 41 #[.val (.int x0), .val (.int x1), z2, .val (.int cc), .val .null, .val .null] [.null]) _
        refine Go.of (fun _ k => XS.aload X2.here hx rfl (hb hby at_41) rfl rfl  k) ?_
        show Go p e below T2 (mkF m 43 #[.val (.int x0), .val (.int x1), z2, .val (.int cc), .val .null, .val .null] [.null, .null]) _
        refine Go.of (fun _ k => Jvm.RoadKit.acmp (g := (mkF m 43 #[.val (.int x0), .val (.int x1), z2, .val (.int cc), .val .null, .val .null] [.null, .null])) X2 hx rfl rfl rfl (pc0 := 43) (pc' := 48) (same := true) rfl (hb hby at_43) rfl (decide_eq_true rfl) (by decide) (by decide) k) ?_
        show Go p e below T2 (mkF m 48 #[.val (.int x0), .val (.int x1), z2, .val (.int cc), .val .null, .val .null] []) _
        refine Go.of (fun _ k => XS.aload X2.here hx rfl (hb hby at_48) rfl rfl  k) ?_
        show Go p e below T2 (mkF m 50 #[.val (.int x0), .val (.int x1), z2, .val (.int cc), .val .null, .val .null] [.null]) _
        refine Go.of (fun _ k => XS.ifnullYes X2.here hx rfl (pc0 := 50) (pc' := 64) rfl (hb hby at_50) rfl (by decide) (by decide) k) ?_
        show Go p e below T2 (mkF m 64 #[.val (.int x0), .val (.int x1), z2, .val (.int cc), .val .null, .val .null] []) _
        refine Go.of (fun _ k => XS.iconst X2.here hx rfl (hb hby at_64) k) ?_
        show Go p e below T2 (mkF m 65 #[.val (.int x0), .val (.int x1), z2, .val (.int cc), .val .null, .val .null] [(.int (1 : Int32))]) _
        refine Go.retN X2 hx (t := .boolean) hret hlk (by simp) (hb hby at_65) e2 (by decide) (by decide) ?_
        exact ⟨rfl, N2⟩
      · exfalso
        simp only [own_lt, km1, k0, k1, k2, k3, k4, k5, k6] at ho hu1 hu2
        omega
    · refine Go.of (fun _ k => st1 _ k) ?_
      show Go p e below T1 (mkF m 31 #[.val (.int x0), .val (.int x1), z2, .val (.int cc), .unset, .unset] [(.ref (aF cc))]) _
      refine Go.of (fun _ k => XS.astore X1.here hx rfl (hb hby at_31) rfl rfl (l' := #[.val (.int x0), .val (.int x1), z2, .val (.int cc), .val (.ref (aF cc)), .unset]) rfl k) ?_
      show Go p e below T1 (mkF m 33 #[.val (.int x0), .val (.int x1), z2, .val (.int cc), .val (.ref (aF cc)), .unset] []) _
      refine Go.of (fun _ k => XS.iloadN X1.here hx rfl (hb hby at_33) rfl  k) ?_
      show Go p e below T1 (mkF m 34 #[.val (.int x0), .val (.int x1), z2, .val (.int cc), .val (.ref (aF cc)), .unset] [(.int cc)]) _
      obtain ⟨_, _, ⟨T3, L3, kq3, nq3⟩, -, X3, ⟨Lc3, hQ3, l3, y3, z3⟩, st3⟩ := Jvm.LawKit.callS X1 hx (y := (⟨"com/example/farcall/farcall/rpc/AcceptStatusOfPinLaw", "expected", "(I)Lcom/example/farcall/farcall/rpc/AcceptStatus;"⟩ : MethodName)) hown (mvT hZ (hw _ (List.mem_of_getElem? (i := 4) rfl))) (mvT hZ (hw _ (List.mem_of_getElem? (i := 5) rfl))) (mvT hZ (hw _ (List.mem_of_getElem? (i := 6) rfl))) (mvT hZ (hw _ (List.mem_of_getElem? (i := 7) rfl))) (by decide) (backOf (W := 0) (rm2 l Z a0 hw [] cc aF h0 n0 Z0 S0 S1 S2 S3 S4 S5) hZ (hw _ (List.mem_of_getElem? (i := 7) rfl)) (hw _ (List.mem_of_getElem? (i := 6) rfl)) (by decide) (by decide)) (g := (mkF m 34 #[.val (.int x0), .val (.int x1), z2, .val (.int cc), .val (.ref (aF cc)), .unset] [(.int cc)])) rfl (by rw [hml]; rfl) (argsL := [(.int cc)]) (rest := []) (lenOf own_pd0 rfl) rfl (by show 2 * 0 + _ ≤ _; exact Nat.le_of_eq rfl) (hb hby at_34) (fun _ _ => ⟨rfl, e1, (by decide : 0 + 0 ≤ _), (by decide : 0 + 0 ≤ _)⟩)
      dsimp only [Pt.U, Pt.locs, Pt.cells, Pt.slots] at X3 l3 y3 z3 st3 hQ3
      subst l3 y3 z3
      obtain ⟨hQ3, Nq3, e3⟩ := hQ3
      have N3 := Fr.app N1 Nq3
      rcases hQ3 with ⟨hu, rfl⟩ | ⟨hu1, hu2, rfl⟩
      · exfalso
        simp only [own_lt, km1, k0, k1, k2, k3, k4, k5, k6] at ho1 ho2 hu
        omega
      · refine Go.of (fun _ k => st3 _ k) ?_
        show Go p e below T3 (mkF m 37 #[.val (.int x0), .val (.int x1), z2, .val (.int cc), .val (.ref (aF cc)), .unset] [(.ref (aF cc))]) _
        obtain ⟨Ex, Fx⟩ := Hc cc hu1 hu2
        refine Go.of (fun _ k => XS.astore X3.here hx rfl (hb hby at_37) rfl rfl (l' := #[.val (.int x0), .val (.int x1), z2, .val (.int cc), .val (.ref (aF cc)), .val (.ref (aF cc))]) rfl k) ?_
        show Go p e below T3 (mkF m 39 #[.val (.int x0), .val (.int x1), z2, .val (.int cc), .val (.ref (aF cc)), .val (.ref (aF cc))] []) _
        refine Go.of (fun _ k => XS.aload X3.here hx rfl (hb hby at_39) rfl rfl  k) ?_
        show Go p e below T3 (mkF m 41 #[.val (.int x0), .val (.int x1), z2, .val (.int cc), .val (.ref (aF cc)), .val (.ref (aF cc))] [(.ref (aF cc))]) _
        refine Go.of (fun _ k => XS.aload X3.here hx rfl (hb hby at_41) rfl rfl  k) ?_
        show Go p e below T3 (mkF m 43 #[.val (.int x0), .val (.int x1), z2, .val (.int cc), .val (.ref (aF cc)), .val (.ref (aF cc))] [(.ref (aF cc)), (.ref (aF cc))]) _
        refine Go.of (fun _ k => Jvm.RoadKit.acmp (g := (mkF m 43 #[.val (.int x0), .val (.int x1), z2, .val (.int cc), .val (.ref (aF cc)), .val (.ref (aF cc))] [(.ref (aF cc)), (.ref (aF cc))])) X3 hx rfl rfl rfl (pc0 := 43) (pc' := 48) (same := true) rfl (hb hby at_43) rfl (decide_eq_true rfl) (by decide) (by decide) k) ?_
        show Go p e below T3 (mkF m 48 #[.val (.int x0), .val (.int x1), z2, .val (.int cc), .val (.ref (aF cc)), .val (.ref (aF cc))] []) _
        refine Go.of (fun _ k => XS.aload X3.here hx rfl (hb hby at_48) rfl rfl  k) ?_
        show Go p e below T3 (mkF m 50 #[.val (.int x0), .val (.int x1), z2, .val (.int cc), .val (.ref (aF cc)), .val (.ref (aF cc))] [(.ref (aF cc))]) _
        refine Go.of (fun _ k => XS.ifnullNo X3.here hx rfl (hb hby at_50) rfl k) ?_
        show Go p e below T3 (mkF m 53 #[.val (.int x0), .val (.int x1), z2, .val (.int cc), .val (.ref (aF cc)), .val (.ref (aF cc))] []) _
        refine Go.of (fun _ k => XS.aload X3.here hx rfl (hb hby at_53) rfl rfl  k) ?_
        show Go p e below T3 (mkF m 55 #[.val (.int x0), .val (.int x1), z2, .val (.int cc), .val (.ref (aF cc)), .val (.ref (aF cc))] [(.ref (aF cc))]) _
        obtain ⟨cq4, kq4, q4a, q4b, q4c⟩ := isOf hZ e3 Ex
        obtain ⟨_, _, ⟨T4, L4, kq4, nq4⟩, -, X4, ⟨Lc4, hQ4, l4, y4, z4⟩, st4⟩ := X3.virtualBack hx (y := (⟨"com/example/farcall/farcall/rpc/AcceptStatus", "code", "()I"⟩ : MethodName)) (z := (⟨"com/example/farcall/farcall/rpc/AcceptStatus", "code", "()I"⟩ : MethodName)) hown (mvT hZ (hw _ (List.mem_of_getElem? (i := 12) rfl))) (mvT hZ (hw _ (List.mem_of_getElem? (i := 13) rfl))) (notFace_of_selects (args := #[]) (mvT hZ (hw _ (List.mem_of_getElem? (i := 15) rfl)))) (mvT hZ (hw _ (List.mem_of_getElem? (i := 15) rfl))) (mvT hZ (hw _ (List.mem_of_getElem? (i := 14) rfl))) (by decide) (backOf (W := 0) (rm3 l Z a0 hw [] (aF cc) cc h0 n0 Z0 Fx) hZ (hw _ (List.mem_of_getElem? (i := 16) rfl)) (hw _ (List.mem_of_getElem? (i := 2) rfl)) (by decide) (by decide)) q4a q4c (g := (mkF m 55 #[.val (.int x0), .val (.int x1), z2, .val (.int cc), .val (.ref (aF cc)), .val (.ref (aF cc))] [(.ref (aF cc))])) rfl (by rw [hml]; rfl) (Steps.refl _) (argsL := []) (rest := []) (lenOf own_pd1 rfl) rfl (by show 2 * 0 + _ ≤ _; exact Nat.le_of_eq rfl) (hb hby at_55) (fun _ _ => ⟨rfl, e3, (by decide : 0 + 0 ≤ _), (by decide : 0 + 0 ≤ _)⟩)
        dsimp only [Pt.U, Pt.locs, Pt.cells, Pt.slots] at X4 l4 y4 z4 st4 hQ4
        subst l4 y4 z4
        obtain ⟨rfl, Nq4, e4⟩ := hQ4
        have e4 := e4.trans rfl
        have N4 := Fr.app N3 Nq4
        refine Go.of (fun _ k => st4.trans k) ?_
        show Go p e below T4 (mkF m 58 #[.val (.int x0), .val (.int x1), z2, .val (.int cc), .val (.ref (aF cc)), .val (.ref (aF cc))] [(.int cc)]) _
        refine Go.of (fun _ k => XS.iloadN X4.here hx rfl (hb hby at_58) rfl  k) ?_
        show Go p e below T4 (mkF m 59 #[.val (.int x0), .val (.int x1), z2, .val (.int cc), .val (.ref (aF cc)), .val (.ref (aF cc))] [(.int cc), (.int cc)]) _
        refine Go.of (fun _ k => XS.icmpYes X4.here hx rfl (pc0 := 59) (pc' := 64) rfl (hb hby at_59) rfl (teq (show cc = cc from rfl)).1 (by decide) (by decide) k) ?_
        show Go p e below T4 (mkF m 64 #[.val (.int x0), .val (.int x1), z2, .val (.int cc), .val (.ref (aF cc)), .val (.ref (aF cc))] []) _
        refine Go.of (fun _ k => XS.iconst X4.here hx rfl (hb hby at_64) k) ?_
        show Go p e below T4 (mkF m 65 #[.val (.int x0), .val (.int x1), z2, .val (.int cc), .val (.ref (aF cc)), .val (.ref (aF cc))] [(.int (1 : Int32))]) _
        refine Go.retN X4 hx (t := .boolean) hret hlk (by simp) (hb hby at_65) e4 (by decide) (by decide) ?_
        exact ⟨rfl, N4⟩
  show Go p e below s₁ (mkF m 0 #[.val (.int x0), .val (.int x1), .unset, .unset, .unset, .unset] []) _
  refine Go.of (fun _ k => XS.iloadN X0.here hx rfl (hb hby at_0) rfl  k) ?_
  show Go p e below s₁ (mkF m 1 #[.val (.int x0), .val (.int x1), .unset, .unset, .unset, .unset] [(.int x1)]) _
  refine Go.of (fun _ k => XS.iconst X0.here hx rfl (hb hby at_1) k) ?_
  show Go p e below s₁ (mkF m 2 #[.val (.int x0), .val (.int x1), .unset, .unset, .unset, .unset] [(.int (1 : Int32)), (.int x1)]) _
  refine Go.of (fun _ k => XS.iand X0.here hx rfl (hb hby at_2) rfl k) ?_
  show Go p e below s₁ (mkF m 3 #[.val (.int x0), .val (.int x1), .unset, .unset, .unset, .unset] [(.int (x1 &&& (1 : Int32)))]) _
  by_cases hc3_0 : (x1 &&& (1 : Int32)) = (0 : Int32)
  · refine Go.of (fun _ k => XS.ifYes X0.here hx rfl (pc0 := 3) (pc' := 10) rfl (hb hby at_3) rfl ((if0 _ _).trans (teq hc3_0).1) (by decide) (by decide) k) ?_
    show Go p e below s₁ (mkF m 10 #[.val (.int x0), .val (.int x1), .unset, .unset, .unset, .unset] []) _
    refine Go.of (fun _ k => XS.iconst X0.here hx rfl (hb hby at_10) k) ?_
    show Go p e below s₁ (mkF m 11 #[.val (.int x0), .val (.int x1), .unset, .unset, .unset, .unset] [(.int (0 : Int32))]) _
    refine Go.of (fun _ k => XS.istoreN X0.here hx rfl (hb hby at_11) rfl (l' := #[.val (.int x0), .val (.int x1), .val (.int (0 : Int32)), .unset, .unset, .unset]) rfl k) ?_
    show Go p e below s₁ (mkF m 12 #[.val (.int x0), .val (.int x1), .val (.int (0 : Int32)), .unset, .unset, .unset] []) _
    refine Go.of (fun _ k => XS.iloadN X0.here hx rfl (hb hby at_12) rfl  k) ?_
    show Go p e below s₁ (mkF m 13 #[.val (.int x0), .val (.int x1), .val (.int (0 : Int32)), .unset, .unset, .unset] [(.int (0 : Int32))]) _
    refine Go.of (fun _ k => XS.ifYes X0.here hx rfl (pc0 := 13) (pc' := 25) rfl (hb hby at_13) rfl ((if0 _ _).trans (teq (show (0 : Int32) = (0 : Int32) from (by decide))).1) (by decide) (by decide) k) ?_
    show Go p e below s₁ (mkF m 25 #[.val (.int x0), .val (.int x1), .val (.int (0 : Int32)), .unset, .unset, .unset] []) _
    refine Go.of (fun _ k => XS.iloadN X0.here hx rfl (hb hby at_25) rfl  k) ?_
    show Go p e below s₁ (mkF m 26 #[.val (.int x0), .val (.int x1), .val (.int (0 : Int32)), .unset, .unset, .unset] [(.int x0)]) _
    refine Go.of (fun _ k => XS.istoreN X0.here hx rfl (hb hby at_26) rfl (l' := #[.val (.int x0), .val (.int x1), .val (.int (0 : Int32)), .val (.int x0), .unset, .unset]) rfl k) ?_
    show Go p e below s₁ (mkF m 27 #[.val (.int x0), .val (.int x1), .val (.int (0 : Int32)), .val (.int x0), .unset, .unset] []) _
    exact K27 _ _
  · refine Go.of (fun _ k => XS.ifNo X0.here hx rfl (hb hby at_3) rfl ((if0 _ _).trans (feq hc3_0).1) k) ?_
    show Go p e below s₁ (mkF m 6 #[.val (.int x0), .val (.int x1), .unset, .unset, .unset, .unset] []) _
    refine Go.of (fun _ k => XS.iconst X0.here hx rfl (hb hby at_6) k) ?_
    show Go p e below s₁ (mkF m 7 #[.val (.int x0), .val (.int x1), .unset, .unset, .unset, .unset] [(.int (1 : Int32))]) _
    refine Go.of (fun _ k => XS.goto X0.here hx rfl (pc0 := 7) (pc' := 11) rfl (hb hby at_7) (by decide) (by decide) k) ?_
    show Go p e below s₁ (mkF m 11 #[.val (.int x0), .val (.int x1), .unset, .unset, .unset, .unset] [(.int (1 : Int32))]) _
    refine Go.of (fun _ k => XS.istoreN X0.here hx rfl (hb hby at_11) rfl (l' := #[.val (.int x0), .val (.int x1), .val (.int (1 : Int32)), .unset, .unset, .unset]) rfl k) ?_
    show Go p e below s₁ (mkF m 12 #[.val (.int x0), .val (.int x1), .val (.int (1 : Int32)), .unset, .unset, .unset] []) _
    refine Go.of (fun _ k => XS.iloadN X0.here hx rfl (hb hby at_12) rfl  k) ?_
    show Go p e below s₁ (mkF m 13 #[.val (.int x0), .val (.int x1), .val (.int (1 : Int32)), .unset, .unset, .unset] [(.int (1 : Int32))]) _
    refine Go.of (fun _ k => XS.ifNo X0.here hx rfl (hb hby at_13) rfl ((if0 _ _).trans (feq (show ¬ ((1 : Int32) = (0 : Int32)) from (by decide))).1) k) ?_
    show Go p e below s₁ (mkF m 16 #[.val (.int x0), .val (.int x1), .val (.int (1 : Int32)), .unset, .unset, .unset] []) _
    refine Go.of (fun _ k => XS.iloadN X0.here hx rfl (hb hby at_16) rfl  k) ?_
    show Go p e below s₁ (mkF m 17 #[.val (.int x0), .val (.int x1), .val (.int (1 : Int32)), .unset, .unset, .unset] [(.int x0)]) _
    refine Go.of (fun _ k => XS.bipush X0.here hx rfl (hb hby at_17) k) ?_
    show Go p e below s₁ (mkF m 19 #[.val (.int x0), .val (.int x1), .val (.int (1 : Int32)), .unset, .unset, .unset] [(.int (7 : Int32)), (.int x0)]) _
    refine Go.of (fun _ k => XS.iand X0.here hx rfl (hb hby at_19) rfl k) ?_
    show Go p e below s₁ (mkF m 20 #[.val (.int x0), .val (.int x1), .val (.int (1 : Int32)), .unset, .unset, .unset] [(.int (x0 &&& (7 : Int32)))]) _
    refine Go.of (fun _ k => XS.iconst X0.here hx rfl (hb hby at_20) k) ?_
    show Go p e below s₁ (mkF m 21 #[.val (.int x0), .val (.int x1), .val (.int (1 : Int32)), .unset, .unset, .unset] [(.int (1 : Int32)), (.int (x0 &&& (7 : Int32)))]) _
    refine Go.of (fun _ k => XS.isub X0.here hx rfl (hb hby at_21) rfl k) ?_
    show Go p e below s₁ (mkF m 22 #[.val (.int x0), .val (.int x1), .val (.int (1 : Int32)), .unset, .unset, .unset] [(.int ((x0 &&& (7 : Int32)) - (1 : Int32)))]) _
    refine Go.of (fun _ k => XS.goto X0.here hx rfl (pc0 := 22) (pc' := 26) rfl (hb hby at_22) (by decide) (by decide) k) ?_
    show Go p e below s₁ (mkF m 26 #[.val (.int x0), .val (.int x1), .val (.int (1 : Int32)), .unset, .unset, .unset] [(.int ((x0 &&& (7 : Int32)) - (1 : Int32)))]) _
    refine Go.of (fun _ k => XS.istoreN X0.here hx rfl (hb hby at_26) rfl (l' := #[.val (.int x0), .val (.int x1), .val (.int (1 : Int32)), .val (.int ((x0 &&& (7 : Int32)) - (1 : Int32))), .unset, .unset]) rfl k) ?_
    show Go p e below s₁ (mkF m 27 #[.val (.int x0), .val (.int x1), .val (.int (1 : Int32)), .val (.int ((x0 &&& (7 : Int32)) - (1 : Int32))), .unset, .unset] []) _
    exact K27 _ _
set_option maxRecDepth 65536 in
set_option maxHeartbeats 40000000 in
theorem comes_1 {Post : Tables → Env → Array Value → State → Outcome → State → Prop} (hpost : ∀ tb e args s v u, (limb_1_1.after args s (.returned v) u = true ∧ limb_1_2.after args s (.returned v) u = true ∧ True) → FrameEnd s (.returned v) u (Jvm.fieldLocs frame_1_writes args s ++ Jvm.arrayLocs frame_1_arrays args s ++ Jvm.staticLocs frame_1_statics s) 0 0 → Post tb e args s (.returned v) u) :
    ArmFor flags0 classFile x code maxLocals ret World_1 tables_1 room_1 Calls_1 rest_1 Pre_1 Post := by
  intro l hfl _ _ p e ha hc hk s m args below hf hA hF happ hP
  obtain ⟨hcalls, hrest, hpre⟩ := hP
  obtain ⟨-, -, -, hnamed, -, -, -, hat⟩ := (Spec.applies_iff hf).mp happ
  obtain ⟨hg, hn⟩ := and_e (Cond.before_iff.mp (show (Jvm.Cond.and given_1 narrow_1).before args s = true from hpre))
  obtain ⟨g1, g2⟩ := and_e hg
  obtain ⟨g3, g4⟩ := and_e g2
  obtain ⟨w0, w1, rfl⟩ : ∃ w0 w1 : Value, args = #[w0, w1] := by
    have hs : args.size = 2 := by simpa [Cond.value, given_1] using g1
    obtain ⟨L⟩ := args
    match L, hs with
    | [w0, w1], _ => exact ⟨w0, w1, rfl⟩
  have hw := fun d (hd : d ∈ tables_1) => atoms_spec (ws := Jvm.Cond.code x code maxLocals ret :: tables_1) hat d (List.mem_cons_of_mem _ hd)
  have hfit : Fit s := fun {y c} hc i hi => by
    obtain ⟨ha, rfl⟩ := Array.getElem?_eq_some_iff.mp hc
    have q := List.all_eq_true.mp ((Array.all_eq_true_iff_forall_mem.mp hF) _ (Array.getElem_mem ha)) i (List.mem_range.mpr hi)
    simpa [Array.getElem?_eq_getElem hi] using q
  obtain ⟨i0, ei0⟩ := is_v g3
  obtain rfl : w0 = (.int i0) := Option.some.inj ei0
  obtain ⟨i1, ei1⟩ := is_v g4
  obtain rfl : w1 = (.int i1) := Option.some.inj ei1
  obtain ⟨n0, m0⟩ := and_e hn
  obtain ⟨n1, m1⟩ := and_e m0
  obtain ⟨n2, m2⟩ := and_e m1
  obtain ⟨n3, m3⟩ := and_e m2
  obtain ⟨n4, m4⟩ := and_e m3
  obtain ⟨n5, m5⟩ := and_e m4
  obtain ⟨n6, m6⟩ := and_e m5
  obtain ⟨n7, m7⟩ := and_e m6
  obtain ⟨n8, m8⟩ := and_e m7
  obtain ⟨n9, m9⟩ := and_e m8
  obtain ⟨n10, m10⟩ := and_e m9
  obtain ⟨n11, m11⟩ := and_e m10
  obtain ⟨n12, m12⟩ := and_e m11
  obtain ⟨n13, m13⟩ := and_e m12
  obtain ⟨n14, m14⟩ := and_e m13
  obtain ⟨n15, m15⟩ := and_e m14
  obtain ⟨n16, m16⟩ := and_e m15
  obtain ⟨n17, m17⟩ := and_e m16
  obtain ⟨n18, m18⟩ := and_e m17
  obtain ⟨aW, ea⟩ := arr_v n0
  obtain ⟨cl, A⟩ := Arr.start ea n0
  have S := Sta.start ea (Or.inr ⟨(hw _ (List.mem_of_getElem? (i := 2) rfl)), (hw _ (List.mem_of_getElem? (i := 9) rfl))⟩)
  obtain ⟨Sz, -⟩ := own_len ea A (eqv_i (Term.int_eval 6) n1)
  obtain ⟨a_0, ea_0⟩ := exa_v n14
  have E_0 := Exa.start ea_0 n14
  have F_0 := Fld.start ((fld_at ea_0).symm.trans (eqv_i (Term.int_eval 0) n16))
  have S_0 := Sta.start ea_0 (Or.inr ⟨(hw _ (List.mem_of_getElem? (i := 2) rfl)), (hw _ (List.mem_of_getElem? (i := 25) rfl))⟩)
  have V_0 : cl.slots[(0 : Int32).toNatClampNeg]? = some (.ref a_0) := (elem_f ea (Term.int_eval 0) (A.fin (Vm.Alike.refl _)) (by decide)).symm.trans (own_eqR ea_0 n15)
  obtain ⟨a_1, ea_1⟩ := exa_v n17
  have E_1 := Exa.start ea_1 n17
  have F_1 := Fld.start ((fld_at ea_1).symm.trans (eqv_i (Term.int_eval 1) m18))
  have S_1 := Sta.start ea_1 (Or.inr ⟨(hw _ (List.mem_of_getElem? (i := 2) rfl)), (hw _ (List.mem_of_getElem? (i := 27) rfl))⟩)
  have V_1 : cl.slots[(1 : Int32).toNatClampNeg]? = some (.ref a_1) := (elem_f ea (Term.int_eval 1) (A.fin (Vm.Alike.refl _)) (by decide)).symm.trans (own_eqR ea_1 n18)
  obtain ⟨a_2, ea_2⟩ := exa_v n11
  have E_2 := Exa.start ea_2 n11
  have F_2 := Fld.start ((fld_at ea_2).symm.trans (eqv_i (Term.int_eval 2) n13))
  have S_2 := Sta.start ea_2 (Or.inr ⟨(hw _ (List.mem_of_getElem? (i := 2) rfl)), (hw _ (List.mem_of_getElem? (i := 23) rfl))⟩)
  have V_2 : cl.slots[(2 : Int32).toNatClampNeg]? = some (.ref a_2) := (elem_f ea (Term.int_eval 2) (A.fin (Vm.Alike.refl _)) (by decide)).symm.trans (own_eqR ea_2 n12)
  obtain ⟨a_3, ea_3⟩ := exa_v n5
  have E_3 := Exa.start ea_3 n5
  have F_3 := Fld.start ((fld_at ea_3).symm.trans (eqv_i (Term.int_eval 3) n7))
  have S_3 := Sta.start ea_3 (Or.inr ⟨(hw _ (List.mem_of_getElem? (i := 2) rfl)), (hw _ (List.mem_of_getElem? (i := 19) rfl))⟩)
  have V_3 : cl.slots[(3 : Int32).toNatClampNeg]? = some (.ref a_3) := (elem_f ea (Term.int_eval 3) (A.fin (Vm.Alike.refl _)) (by decide)).symm.trans (own_eqR ea_3 n6)
  obtain ⟨a_4, ea_4⟩ := exa_v n8
  have E_4 := Exa.start ea_4 n8
  have F_4 := Fld.start ((fld_at ea_4).symm.trans (eqv_i (Term.int_eval 4) n10))
  have S_4 := Sta.start ea_4 (Or.inr ⟨(hw _ (List.mem_of_getElem? (i := 2) rfl)), (hw _ (List.mem_of_getElem? (i := 21) rfl))⟩)
  have V_4 : cl.slots[(4 : Int32).toNatClampNeg]? = some (.ref a_4) := (elem_f ea (Term.int_eval 4) (A.fin (Vm.Alike.refl _)) (by decide)).symm.trans (own_eqR ea_4 n9)
  obtain ⟨a_5, ea_5⟩ := exa_v n2
  have E_5 := Exa.start ea_5 n2
  have F_5 := Fld.start ((fld_at ea_5).symm.trans (eqv_i (Term.int_eval 5) n4))
  have S_5 := Sta.start ea_5 (Or.inr ⟨(hw _ (List.mem_of_getElem? (i := 2) rfl)), (hw _ (List.mem_of_getElem? (i := 10) rfl))⟩)
  have V_5 : cl.slots[(5 : Int32).toNatClampNeg]? = some (.ref a_5) := (elem_f ea (Term.int_eval 5) (A.fin (Vm.Alike.refl _)) (by decide)).symm.trans (own_eqR ea_5 n3)
  obtain ⟨aF, haF⟩ : ∃ aF : Int32 → Addr, aF 0 = a_0 ∧ aF 1 = a_1 ∧ aF 2 = a_2 ∧ aF 3 = a_3 ∧ aF 4 = a_4 ∧ aF 5 = a_5 := ⟨fun j => if j = 0 then a_0 else if j = 1 then a_1 else if j = 2 then a_2 else if j = 3 then a_3 else if j = 4 then a_4 else a_5, by simp, by simp, by simp, by simp, by simp, by simp⟩
  obtain ⟨f0, f1, f2, f3, f4, f5⟩ := haF
  rw [← f0] at E_0 F_0 S_0 V_0
  rw [← f1] at E_1 F_1 S_1 V_1
  rw [← f2] at E_2 F_2 S_2 V_2
  rw [← f3] at E_3 F_3 S_3 V_3
  rw [← f4] at E_4 F_4 S_4 V_4
  rw [← f5] at E_5 F_5 S_5 V_5
  have Hat : ∀ j : Int32, ¬ j < 0 → j < 6 → cl.slots[j.toNatClampNeg]? = some (.ref (aF j)) := by
    intro j h1 h2
    rcases own_6 h1 h2 with rfl | rfl | rfl | rfl | rfl | rfl
    · exact V_0
    · exact V_1
    · exact V_2
    · exact V_3
    · exact V_4
    · exact V_5
  have Hc : ∀ j : Int32, ¬ j < 0 → j < 6 → Exa s s.heap (aF j) "com/example/farcall/farcall/rpc/AcceptStatus" ∧ Fld s s.heap (aF j) "com/example/farcall/farcall/rpc/AcceptStatus" "code" "I" (.int j) := by
    intro j h1 h2
    rcases own_6 h1 h2 with rfl | rfl | rfl | rfl | rfl | rfl
    · exact ⟨E_0, F_0⟩
    · exact ⟨E_1, F_1⟩
    · exact ⟨E_2, F_2⟩
    · exact ⟨E_3, F_3⟩
    · exact ⟨E_4, F_4⟩
    · exact ⟨E_5, F_5⟩
  obtain ⟨n, o, h1, h2, h3, _, L, rfl, ⟨rfl, N⟩, hq⟩ := rm0 l s _ hw tables_1 i0 i1 aW cl aF s.heap s.heap.size (Nat.le_refl _) S A Sz Hat S_0 S_1 S_2 S_3 S_4 S_5 Hc p e ha hc hk s m _ below hf ((Spec.applies_iff_loose hf).mp happ).1 ⟨rfl, State.Warmed39.refl s, rfl⟩ trivial
  refine ⟨n, _, h1, h2, h3, hpost _ _ _ _ _ _ ⟨Cond.after_iff.mpr rfl, Cond.after_iff.mpr (eq_i res_at (Term.int_eval (1)) rfl), trivial⟩ ⟨hq.1, hq.2.1, (hq.2.2.sift fun y hy => Or.inr (N y hy)).mono (by decide) (by decide)⟩⟩
theorem main_1_1 : Claimed_1_1 := comes_1 fun _ _ _ _ _ _ h hF => ⟨h.1, hF⟩
theorem main_1_2 : Claimed_1_2 := comes_1 fun _ _ _ _ _ _ h hF => ⟨h.2.1, hF⟩
end Jvm.Pilot.@@N@@
namespace Jvm.Pilot.@@N@@
open Jvm Jvm.ClassFile Sem Op Lib Jvm.Free Jvm.Stand Jvm.Pilot.@@N@@.Jvm.D
/-! MADE BY PROGRAM (witnessworld.py) out of the Statement's table words and the real class files: 13 classes; the members and pool entries that the words name. The judged class is class 1, her method 2. -/
namespace start1
open Jvm.ClassFile
def u (s : String) : CpInfo := .utf8 (stringToUtf16 s)
/-- a pool by its gaps: so many unusable entries, then the entry; so many at the end -/
def gap : Nat → List CpInfo → List CpInfo
  | 0, r => r
  | n + 1, r => .unusable :: gap n r
def poolList (es : List (Nat × CpInfo)) (last : Nat) : List CpInfo := es.foldr (fun e r => gap e.1 (e.2 :: r)) (gap last [])
def pool (es : List (Nat × CpInfo)) (last : Nat) : Array CpInfo := ⟨poolList es last⟩
def fileOf (pool : Array CpInfo) (this : Nat) (attrs : Array Attribute := #[]) (ms : Array MethodInfo := #[]) (fl : Nat := 33) (sup : Nat := 0) (ifs : Array Nat := #[]) (fds : Array FieldInfo := #[]) : ClassFile where
  minorVersion := 0
  majorVersion := 65
  constantPool := pool
  accessFlags := fl
  thisClass := this
  superClass := sup
  interfaces := ifs
  fields := fds
  methods := ms
  attributes := attrs
def plain (name : String) (sup : Option ClassId) : Class where
  name := name
  kind := .ordinary
  loader := none
  accessFlags := 33
  super := sup
  interfaces := #[]
  cf := none
  fields := #[]
  methods := #[]
  instanceTypes := #[]
  staticTypes := #[]
  resolved := #[]
  callSites := []
  init := .initialized
  statics := none
  mirror := none

def pool0 : Array CpInfo := pool [(5, u "<init>"), (0, u "()V"), (1, .class_ 10), (1, u "java/lang/Object")] 113

def k0m0 : Method := { name := "<init>", desc := "()V", sig := { parameters := [], returnType := none }, accessFlags := 1, code := none }
/-- java/lang/Object -/
def k0 : Class := { plain "java/lang/Object" none with
  accessFlags := 33
  interfaces := #[]
  cf := some (fileOf pool0 8 #[] #[{ accessFlags := 1, nameIndex := 5, descriptorIndex := 6, attributes := #[] }] 33 0 #[] #[])
  fields := #[]
  methods := #[k0m0]
  instanceTypes := #[]
  staticTypes := #[]
  resolved := Array.replicate 124 none
  statics := none }

def pool1 : Array CpInfo := pool [(2, .class_ 4), (1, u "java/lang/Object"), (0, u "<init>"), (0, u "()V"), (0, .fieldref 8 9), (0, .class_ 10), (0, .nameAndType 11 12), (0, u "com/example/farcall/farcall/rpc/AcceptStatus"), (0, u "SUCCESS"), (0, u "Lcom/example/farcall/farcall/rpc/AcceptStatus;"), (0, .fieldref 8 14), (0, .nameAndType 15 12), (0, u "PROG_UNAVAIL"), (0, .fieldref 8 17), (0, .nameAndType 18 12), (0, u "PROG_MISMATCH"), (0, .fieldref 8 20), (0, .nameAndType 21 12), (0, u "PROC_UNAVAIL"), (0, .fieldref 8 23), (0, .nameAndType 24 12), (0, u "GARBAGE_ARGS"), (0, .fieldref 8 26), (0, .nameAndType 27 12), (0, u "SYSTEM_ERR"), (0, .methodref 8 29), (0, .nameAndType 30 31), (0, u "of"), (0, u "(I)Lcom/example/farcall/farcall/rpc/AcceptStatus;"), (0, .methodref 33 34), (0, .class_ 35), (0, .nameAndType 36 31), (0, u "com/example/farcall/farcall/rpc/AcceptStatusOfPinLaw"), (0, u "expected"), (0, .methodref 8 38), (0, .nameAndType 39 40), (0, u "code"), (0, u "()I"), (3, u "law"), (0, u "(II)Z")] 2

def k1m0 : Method := { name := "<init>", desc := "()V", sig := { parameters := [], returnType := none }, accessFlags := 2, code := none }
def k1c1 : Code := { maxStack := 2, maxLocals := 1, code := method_2_code, exceptionTable := #[], attributes := #[] }
def k1m1 : Method := { name := "expected", desc := "(I)Lcom/example/farcall/farcall/rpc/AcceptStatus;", sig := { parameters := [.int], returnType := some (.object "com/example/farcall/farcall/rpc/AcceptStatus") }, accessFlags := 10, code := some k1c1 }
def k1c2 : Code := { maxStack := 2, maxLocals := 6, code := code, exceptionTable := #[], attributes := #[] }
def k1m2 : Method := { name := "law", desc := "(II)Z", sig := { parameters := [.int, .int], returnType := some .boolean }, accessFlags := 9, code := some k1c2 }
/-- com/example/farcall/farcall/rpc/AcceptStatusOfPinLaw -/
def k1 : Class := { plain "com/example/farcall/farcall/rpc/AcceptStatusOfPinLaw" (some 0) with
  accessFlags := 49
  interfaces := #[]
  cf := some (fileOf pool1 33 #[] #[{ accessFlags := 2, nameIndex := 5, descriptorIndex := 6, attributes := #[] }, { accessFlags := 10, nameIndex := 36, descriptorIndex := 31, attributes := #[] }, { accessFlags := 9, nameIndex := 44, descriptorIndex := 45, attributes := #[] }] 49 2 #[] #[])
  fields := #[]
  methods := #[k1m0, k1m1, k1m2]
  instanceTypes := #[]
  staticTypes := #[]
  resolved := Array.replicate 48 none
  statics := none }

def pool2 : Array CpInfo := pool [(1, .class_ 2), (0, u "java/lang/constant/Constable"), (0, .class_ 4), (0, u "java/lang/Object")] 6

/-- java/lang/constant/Constable -/
def k2 : Class := { plain "java/lang/constant/Constable" (some 0) with
  accessFlags := 1537
  interfaces := #[]
  cf := some (fileOf pool2 1 #[] #[] 1537 3 #[] #[])
  fields := #[]
  methods := #[]
  instanceTypes := #[]
  staticTypes := #[]
  resolved := Array.replicate 11 none
  statics := none }

def pool3 : Array CpInfo := pool [(1, .class_ 2), (0, u "java/lang/Comparable"), (0, .class_ 4), (0, u "java/lang/Object")] 7

/-- java/lang/Comparable -/
def k3 : Class := { plain "java/lang/Comparable" (some 0) with
  accessFlags := 1537
  interfaces := #[]
  cf := some (fileOf pool3 1 #[] #[] 1537 3 #[] #[])
  fields := #[]
  methods := #[]
  instanceTypes := #[]
  staticTypes := #[]
  resolved := Array.replicate 12 none
  statics := none }

def pool4 : Array CpInfo := pool [(1, .class_ 2), (0, u "java/io/Serializable"), (0, .class_ 4), (0, u "java/lang/Object")] 2

/-- java/io/Serializable -/
def k4 : Class := { plain "java/io/Serializable" (some 0) with
  accessFlags := 1537
  interfaces := #[]
  cf := some (fileOf pool4 1 #[] #[] 1537 3 #[] #[])
  fields := #[]
  methods := #[]
  instanceTypes := #[]
  staticTypes := #[]
  resolved := Array.replicate 7 none
  statics := none }

def pool5 : Array CpInfo := pool [(2, .class_ 4), (1, u "java/lang/Enum"), (0, u "name"), (0, u "Ljava/lang/String;"), (2, u "ordinal"), (0, u "I"), (1, .class_ 14), (1, u "java/lang/Object"), (4, u "hash"), (86, .class_ 108), (1, u "java/lang/Enum$EnumDesc"), (2, .class_ 112), (0, u "java/lang/constant/Constable"), (0, .class_ 114), (0, u "java/lang/Comparable"), (0, .class_ 116), (0, u "java/io/Serializable")] 87

/-- java/lang/Enum -/
def k5 : Class := { plain "java/lang/Enum" (some 0) with
  accessFlags := 1057
  interfaces := #[2, 3, 4]
  cf := some (fileOf pool5 2 #[.nestMembers #[106]] #[] 1057 12 #[111, 113, 115] #[{ accessFlags := 18, nameIndex := 5, descriptorIndex := 6, attributes := #[] }, { accessFlags := 18, nameIndex := 9, descriptorIndex := 10, attributes := #[] }, { accessFlags := 2, nameIndex := 19, descriptorIndex := 10, attributes := #[] }])
  fields := #[{ name := "name", type := (.object "java/lang/String"), accessFlags := 18, slot := 0, constantValue := 0 }, { name := "ordinal", type := .int, accessFlags := 18, slot := 1, constantValue := 0 }, { name := "hash", type := .int, accessFlags := 2, slot := 2, constantValue := 0 }]
  methods := #[]
  instanceTypes := #[(.object "java/lang/String"), .int, .int]
  staticTypes := #[]
  resolved := Array.replicate 204 none
  statics := none }

def pool6 : Array CpInfo := pool [(1, .class_ 2), (0, u "com/example/farcall/farcall/rpc/AcceptStatus"), (2, u "SUCCESS"), (0, u "Lcom/example/farcall/farcall/rpc/AcceptStatus;"), (2, u "PROG_UNAVAIL"), (2, u "PROG_MISMATCH"), (2, u "PROC_UNAVAIL"), (2, u "GARBAGE_ARGS"), (2, u "SYSTEM_ERR"), (2, u "$VALUES"), (0, u "[Lcom/example/farcall/farcall/rpc/AcceptStatus;"), (6, .class_ 34), (1, u "java/lang/Enum"), (6, .fieldref 1 42), (0, .nameAndType 43 44), (0, u "code"), (0, u "I"), (0, .fieldref 1 46), (0, .nameAndType 47 25), (0, u "BY_CODE"), (22, u "()I"), (0, u "of"), (0, u "(I)Lcom/example/farcall/farcall/rpc/AcceptStatus;")] 6

def k6c0 : Code := { maxStack := 1, maxLocals := 1, code := prog_71_method_4_code, exceptionTable := #[], attributes := #[] }
def k6m0 : Method := { name := "code", desc := "()I", sig := { parameters := [], returnType := some .int }, accessFlags := 0, code := some k6c0 }
def k6c1 : Code := { maxStack := 2, maxLocals := 1, code := prog_71_method_5_code, exceptionTable := #[], attributes := #[] }
def k6m1 : Method := { name := "of", desc := "(I)Lcom/example/farcall/farcall/rpc/AcceptStatus;", sig := { parameters := [.int], returnType := some (.object "com/example/farcall/farcall/rpc/AcceptStatus") }, accessFlags := 8, code := some k6c1 }
/-- com/example/farcall/farcall/rpc/AcceptStatus -/
def k6 : Class := { plain "com/example/farcall/farcall/rpc/AcceptStatus" (some 5) with
  accessFlags := 16433
  interfaces := #[]
  cf := some (fileOf pool6 1 #[] #[{ accessFlags := 0, nameIndex := 43, descriptorIndex := 70, attributes := #[] }, { accessFlags := 8, nameIndex := 71, descriptorIndex := 72, attributes := #[] }] 16433 32 #[] #[{ accessFlags := 16409, nameIndex := 5, descriptorIndex := 6, attributes := #[] }, { accessFlags := 16409, nameIndex := 9, descriptorIndex := 6, attributes := #[] }, { accessFlags := 16409, nameIndex := 12, descriptorIndex := 6, attributes := #[] }, { accessFlags := 16409, nameIndex := 15, descriptorIndex := 6, attributes := #[] }, { accessFlags := 16409, nameIndex := 18, descriptorIndex := 6, attributes := #[] }, { accessFlags := 16409, nameIndex := 21, descriptorIndex := 6, attributes := #[] }, { accessFlags := 26, nameIndex := 47, descriptorIndex := 25, attributes := #[] }, { accessFlags := 18, nameIndex := 43, descriptorIndex := 44, attributes := #[] }, { accessFlags := 4122, nameIndex := 24, descriptorIndex := 25, attributes := #[] }])
  fields := #[{ name := "SUCCESS", type := (.object "com/example/farcall/farcall/rpc/AcceptStatus"), accessFlags := 16409, slot := 0, constantValue := 0 }, { name := "PROG_UNAVAIL", type := (.object "com/example/farcall/farcall/rpc/AcceptStatus"), accessFlags := 16409, slot := 1, constantValue := 0 }, { name := "PROG_MISMATCH", type := (.object "com/example/farcall/farcall/rpc/AcceptStatus"), accessFlags := 16409, slot := 2, constantValue := 0 }, { name := "PROC_UNAVAIL", type := (.object "com/example/farcall/farcall/rpc/AcceptStatus"), accessFlags := 16409, slot := 3, constantValue := 0 }, { name := "GARBAGE_ARGS", type := (.object "com/example/farcall/farcall/rpc/AcceptStatus"), accessFlags := 16409, slot := 4, constantValue := 0 }, { name := "SYSTEM_ERR", type := (.object "com/example/farcall/farcall/rpc/AcceptStatus"), accessFlags := 16409, slot := 5, constantValue := 0 }, { name := "BY_CODE", type := (.array (.object "com/example/farcall/farcall/rpc/AcceptStatus")), accessFlags := 26, slot := 6, constantValue := 0 }, { name := "code", type := .int, accessFlags := 18, slot := 3, constantValue := 0 }, { name := "$VALUES", type := (.array (.object "com/example/farcall/farcall/rpc/AcceptStatus")), accessFlags := 4122, slot := 7, constantValue := 0 }]
  methods := #[k6m0, k6m1]
  instanceTypes := #[(.object "java/lang/String"), .int, .int, .int]
  staticTypes := #[(.object "com/example/farcall/farcall/rpc/AcceptStatus"), (.object "com/example/farcall/farcall/rpc/AcceptStatus"), (.object "com/example/farcall/farcall/rpc/AcceptStatus"), (.object "com/example/farcall/farcall/rpc/AcceptStatus"), (.object "com/example/farcall/farcall/rpc/AcceptStatus"), (.object "com/example/farcall/farcall/rpc/AcceptStatus"), (.array (.object "com/example/farcall/farcall/rpc/AcceptStatus")), (.array (.object "com/example/farcall/farcall/rpc/AcceptStatus"))]
  resolved := Array.replicate 79 none
  statics := some 0 }

def pool7 : Array CpInfo := pool [(1, u "java/lang/Cloneable"), (0, .class_ 1), (0, u "java/lang/Object"), (0, .class_ 3)] 3

/-- java/lang/Cloneable -/
def k7 : Class := { plain "java/lang/Cloneable" (some 0) with
  accessFlags := 1537
  interfaces := #[]
  cf := some (fileOf pool7 2 #[] #[] 1537 4 #[] #[])
  fields := #[]
  methods := #[]
  instanceTypes := #[]
  staticTypes := #[]
  resolved := Array.replicate 8 none
  statics := none }

/-- the primitive byte -/
def k8 : Class := { plain "byte" none with kind := .primitive 'B', accessFlags := 0x411 }
/-- [B -/
def k9 : Class := { plain "[B" (some 0) with kind := .array 8 .byte, interfaces := #[7, 4], accessFlags := 1041 }

/-- the primitive int -/
def k10 : Class := { plain "int" none with kind := .primitive 'I', accessFlags := 0x411 }
/-- [I -/
def k11 : Class := { plain "[I" (some 0) with kind := .array 10 .int, interfaces := #[7, 4], accessFlags := 1041 }

/-- [Lcom/example/farcall/farcall/rpc/AcceptStatus; -/
def k12 : Class := { plain "[Lcom/example/farcall/farcall/rpc/AcceptStatus;" (some 0) with kind := .array 6 (.object "com/example/farcall/farcall/rpc/AcceptStatus"), interfaces := #[7, 4], accessFlags := 1041 }

def heap : Heap := #[{ cls := 6, slots := #[.ref 2, .ref 3, .ref 4, .ref 5, .ref 6, .ref 7, .ref 1, .null], vm := .statics 6 },
  { cls := 12, slots := #[.ref 2, .ref 3, .ref 4, .ref 5, .ref 6, .ref 7], vm := .none },
  { cls := 6, slots := #[.null, .int 0, .int 0, .int 0], vm := .none },
  { cls := 6, slots := #[.null, .int 1, .int 0, .int 1], vm := .none },
  { cls := 6, slots := #[.null, .int 2, .int 0, .int 2], vm := .none },
  { cls := 6, slots := #[.null, .int 3, .int 0, .int 3], vm := .none },
  { cls := 6, slots := #[.null, .int 4, .int 0, .int 4], vm := .none },
  { cls := 6, slots := #[.null, .int 5, .int 0, .int 5], vm := .none }]
def classes : Array Class := #[k0, k1, k2, k3, k4, k5, k6, k7, k8, k9, k10, k11, k12]
def interned : List (Array UInt16 × Addr) := []
def slotsUsed : Nat := 38
def theMethod : MethodId := ⟨1, 2⟩
def args0 : Array Value := #[.int 5, .int 7]
def aboutOver (below : List Frame) : State where
  vm := { classes := classes, interned := interned.toArray }
  heap := heap
  slotsUsed := slotsUsed
  threads := #[{ frames := .invoking theMethod args0 :: below }]
def below0 : List Frame := [.native { method := ⟨0, 0⟩, args := #[] }]
def about1 : State := aboutOver below0
def p0 : Program := .bare "" "" ""
def e0 : Env := launch0.env 0 0 0
theorem w_frames : about1.frames = Frame.invoking theMethod args0 :: below0 := rfl
set_option maxRecDepth 65536 in
theorem w_args : argsFit about1.vm theMethod args0 = true := by decide +kernel
set_option maxRecDepth 65536 in
theorem w_heap : heapFits about1 = true := by decide +kernel
set_option maxRecDepth 65536 in
theorem w_runnable : about1.curStatus? = some .runnable := by decide +kernel
set_option maxRecDepth 65536 in
theorem w_alone : about1.alone = true := by decide +kernel
set_option maxRecDepth 65536 in
theorem w_named : about1.methodNamed? x = some theMethod := by decide +kernel
set_option maxRecDepth 65536 in
theorem w_hears : about1.hears theMethod below0 = true := by decide +kernel
set_option maxRecDepth 65536 in
theorem w_ripe : about1.ripe theMethod args0 below0 = true := by decide +kernel
theorem w_running : about1.status = .running := rfl
set_option maxRecDepth 65536 in
theorem w_room : about1.hasRoom e0.platform room_1 = true :=
  launch0.hasRoom_least _ room_1 (by decide +kernel) (by decide +kernel) (by decide +kernel) (by decide +kernel) (by decide +kernel) (by decide +kernel)
theorem allAtoms_all (ts : List Jvm.Cond) (a : Array Jvm.Value) (st : Jvm.State) : (allAtoms ts).before a st = ts.all (fun c => c.before a st) := by
  induction ts with
  | nil => rfl
  | cons c t ih =>
    show (Jvm.Cond.and c (allAtoms t)).before a st = _
    rw [Jvm.Cond.before_and, ih, List.all_cons]
def words1 : List Jvm.Cond := Jvm.Cond.code x code maxLocals ret :: tables_1
/-- a 'code' word, met by the world's own term for the bytes: nothing is compared byte by byte -/
theorem code_word {y : MethodName} {bytes : ByteArray} {mx : Nat} {rt : Option FieldType} {a : Array Value} {s : State} {m : MethodId} {meth : Method} {c : Code} (h1 : s.methodNamed? y = some m) (h2 : s.vm.method? m = some meth) (h3 : meth.code = some c) (h4 : c.code = bytes)
    (h5 : (c.maxLocals == mx && c.exceptionTable.isEmpty && decide (c.maxStack ≤ mostOperands) && decide (meth.sig.returnType = rt) && !meth.locks && decide (parseMethodDescriptor y.desc = some meth.sig)) = true) : (Jvm.Cond.code y bytes mx rt).before a s = true := by
  simp only [Bool.and_eq_true, beq_iff_eq, Bool.not_eq_true', decide_eq_true_eq] at h5
  obtain ⟨⟨⟨⟨⟨g1, g2⟩, g3⟩, g4⟩, g5⟩, g6⟩ := h5
  simp [Cond.before, Cond.holds, Cond.value, h1, h2, h3, h4, g1, g2, g3, g4, g5, g6]
def isCode : Jvm.Cond → Bool
  | .code _ _ _ _ => true
  | _ => false
theorem all_split {L : List Jvm.Cond} {P : Jvm.Cond → Bool} (h1 : L.all (fun c => isCode c || P c) = true) (h2 : ∀ c ∈ L.filter isCode, P c = true) : L.all P = true := by
  refine List.all_eq_true.mpr fun c hc => ?_
  have h := List.all_eq_true.mp h1 c hc
  rcases Bool.eq_false_or_eq_true (isCode c) with hi | hi
  · exact h2 c (List.mem_filter.mpr ⟨hc, hi⟩)
  · simpa [hi] using h
set_option maxRecDepth 65536 in
theorem w_c0 : (Jvm.Cond.code x code maxLocals ret).before args0 about1 = true := code_word (m := ⟨1, 2⟩) (meth := k1m2) (c := k1c2) (by decide +kernel) rfl rfl rfl (by decide +kernel)
set_option maxRecDepth 65536 in
theorem w_c1 : (Jvm.Cond.code ({ cls := "com/example/farcall/farcall/rpc/AcceptStatus", name := "of", desc := "(I)Lcom/example/farcall/farcall/rpc/AcceptStatus;" } : Jvm.MethodName) prog_71_method_5_code (1 : Nat) (Option.some (Jvm.ClassFile.FieldType.object "com/example/farcall/farcall/rpc/AcceptStatus"))).before args0 about1 = true := code_word (m := ⟨6, 1⟩) (meth := k6m1) (c := k6c1) (by decide +kernel) rfl rfl rfl (by decide +kernel)
set_option maxRecDepth 65536 in
theorem w_c2 : (Jvm.Cond.code ({ cls := "com/example/farcall/farcall/rpc/AcceptStatusOfPinLaw", name := "expected", desc := "(I)Lcom/example/farcall/farcall/rpc/AcceptStatus;" } : Jvm.MethodName) method_2_code (1 : Nat) (Option.some (Jvm.ClassFile.FieldType.object "com/example/farcall/farcall/rpc/AcceptStatus"))).before args0 about1 = true := code_word (m := ⟨1, 1⟩) (meth := k1m1) (c := k1c1) (by decide +kernel) rfl rfl rfl (by decide +kernel)
set_option maxRecDepth 65536 in
theorem w_c3 : (Jvm.Cond.code ({ cls := "com/example/farcall/farcall/rpc/AcceptStatus", name := "code", desc := "()I" } : Jvm.MethodName) prog_71_method_4_code (1 : Nat) (Option.some Jvm.ClassFile.FieldType.int)).before args0 about1 = true := code_word (m := ⟨6, 0⟩) (meth := k6m0) (c := k6c0) (by decide +kernel) rfl rfl rfl (by decide +kernel)
def codes1 : List Jvm.Cond := [Jvm.Cond.code x code maxLocals ret, Jvm.Cond.code ({ cls := "com/example/farcall/farcall/rpc/AcceptStatus", name := "of", desc := "(I)Lcom/example/farcall/farcall/rpc/AcceptStatus;" } : Jvm.MethodName) prog_71_method_5_code (1 : Nat) (Option.some (Jvm.ClassFile.FieldType.object "com/example/farcall/farcall/rpc/AcceptStatus")), Jvm.Cond.code ({ cls := "com/example/farcall/farcall/rpc/AcceptStatusOfPinLaw", name := "expected", desc := "(I)Lcom/example/farcall/farcall/rpc/AcceptStatus;" } : Jvm.MethodName) method_2_code (1 : Nat) (Option.some (Jvm.ClassFile.FieldType.object "com/example/farcall/farcall/rpc/AcceptStatus")), Jvm.Cond.code ({ cls := "com/example/farcall/farcall/rpc/AcceptStatus", name := "code", desc := "()I" } : Jvm.MethodName) prog_71_method_4_code (1 : Nat) (Option.some Jvm.ClassFile.FieldType.int)]
set_option maxRecDepth 65536 in
theorem codes_eq : words1.filter isCode = codes1 := rfl
theorem w_codes : ∀ c ∈ words1.filter isCode, c.before args0 about1 = true := by
  rw [codes_eq]
  intro c hc
  simp only [codes1, List.mem_cons, List.not_mem_nil, or_false] at hc
  rcases hc with rfl | rfl | rfl | rfl
  · exact w_c0
  · exact w_c1
  · exact w_c2
  · exact w_c3
set_option maxRecDepth 65536 in
theorem w_t1 : (words1.take 24).all (fun c => isCode c || c.before args0 about1) = true := by decide +kernel
set_option maxRecDepth 65536 in
theorem w_t2 : (words1.drop 24).all (fun c => isCode c || c.before args0 about1) = true := by decide +kernel
theorem w_tables : (allAtoms (Jvm.Cond.code x code maxLocals ret :: tables_1)).before args0 about1 = true := by
  rw [allAtoms_all]
  show words1.all (fun c => c.before args0 about1) = true
  refine all_split ?_ w_codes
  rw [← List.take_append_drop 24 words1, List.all_append, w_t1, w_t2]
  rfl
set_option maxRecDepth 65536 in
theorem w_case : (Jvm.Cond.and given_1 narrow_1).before args0 about1 = true := by decide +kernel
theorem w_applies : (headSpec (Jvm.Cond.code x code maxLocals ret :: tables_1) room_1).applies x e0.platform about1 = true :=
  (Spec.applies_iff w_frames).mpr ⟨w_running, w_runnable, w_alone, w_named, w_hears, w_ripe, w_room, w_tables⟩
theorem atStart : AtStart classFile x code maxLocals ret World_1 tables_1 room_1 Calls_1 rest_1 Pre_1 launch0 p0 e0 about1 theMethod args0 below0 :=
  ⟨lists_1, trivial, launch0.admits_env _ _ _, launch0.least_env, fairChoices_fair.cas, fairChoices_fair.clock, w_frames, w_args, w_heap, w_applies, trivial, trivial, w_case⟩
end start1
theorem witness_1 : WitnessClaimed_1 := ⟨start1.p0, start1.e0, start1.about1, start1.theMethod, start1.args0, start1.below0, start1.atStart⟩
end Jvm.Pilot.@@N@@
