import JvmDerived
import JvmDerived.Pilot.@@N@@Statement
import JvmDerived.Pilot.@@N@@Code
set_option linter.unusedVariables false
set_option linter.unusedSimpArgs false
@@BLOCK:NumsL.lean.txt@@
namespace Jvm.Pilot.@@N@@
open Jvm Jvm.ClassFile Sem Op Lib Jvm.Free Jvm.Stand Jvm.LawKit Jvm.RoadKit Bundle Jvm.Pilot.@@N@@.Jvm.D
section own_kit
variable {p : Program} {l : Launch} {e : Env} {R : Room} {s : State} {m : MethodId} {args : Array Value} {below : List Frame} {meth : Method} {c : Code} {T T' : State} {locs : List Loc} {cells slots : Nat}
/-- from the frame g over the state T the run comes to an end of which K speaks -/
def Go (p : Program) (e : Env) (below : List Frame) (T : State) (g : JFrame) (K : Outcome → State → Prop) : Prop :=
  ∃ s₂ o, Steps p.tables e below (T.setTop g) s₂ ∧ s₂.status = .running ∧ Ended s₂ below o ∧ K o s₂
def KQ (s : State) (Q : Option Value → Heap → List Loc → Prop) (k n : Nat) (o : Outcome) (U : State) : Prop :=
  ∃ v L, o = .returned v ∧ Q v U.heap L ∧ FrameEnd s o U L k n
theorem Go.of {g g' : JFrame} {K : Outcome → State → Prop} (h : ∀ t, Steps p.tables e below (T'.setTop g') t → Steps p.tables e below (T.setTop g) t) (k : Go p e below T' g' K) : Go p e below T g K := by
  obtain ⟨s₂, o, h1, h2⟩ := k
  exact ⟨s₂, o, h _ h1, h2⟩
theorem Go.cast {g g' : JFrame} {K : Outcome → State → Prop} (q : g = g') (k : Go p e below T g' K) : Go p e below T g K := q ▸ k
theorem Go.ret0 (X : Stand p l e R s m args below meth c T locs cells slots) (hx : p.tables.exec = Jvm.exec) (hret : meth.sig.returnType = none) (hlk : meth.locks = false) {pc : Nat} {Ls : Array Slot} {Q : Option Value → Heap → List Loc → Prop} {k n : Nat} {h : Heap}
    (hd : decode c.code pc = .ok (.return_, 1)) (eT : T.heap = h) (hk : cells ≤ k) (hn : slots ≤ n) (hq : Q none h locs) : Go p e below T (mkF m pc Ls []) (KQ s Q k n) := by
  obtain ⟨fs, hr, hrun, hended, hW, hsame⟩ := X.leave (v := none) (fun _ => rfl) hlk
  exact ⟨_, _, X.returnOut hx hret hd hr, hrun, hended, _, _, rfl, by show Q none T.heap _; rw [eT]; exact hq, ⟨_, rfl⟩, hW, hsame.mono hk hn⟩
theorem Go.retV (X : Stand p l e R s m args below meth c T locs cells slots) (hx : p.tables.exec = Jvm.exec) {t : FieldType} {w : Value} {i : Instr} {rest : List Value} (hret : meth.sig.returnType = some t) (hlk : meth.locks = false) {pc : Nat} {Ls : Array Slot} {Q : Option Value → Heap → List Loc → Prop} {k n : Nat} {h : Heap} (hn0 : narrow t w = w)
    (hi : (i = .ireturn ∧ (t = .int ∨ t = .boolean ∨ t = .byte ∨ t = .char ∨ t = .short) ∧ ∃ z, w = .int z) ∨ (i = .lreturn ∧ t = .long ∧ ∃ z, w = .long z) ∨ (i = .dreturn ∧ t = .double ∧ ∃ z, w = .double z) ∨ (i = .freturn ∧ t = .float ∧ ∃ z, w = .float z) ∨ (i = .areturn ∧ t.isReference = true ∧ w.isRef = true))
    (hd : decode c.code pc = .ok (i, 1)) (eT : T.heap = h) (hk : cells ≤ k) (hn : slots ≤ n) (hq : Q (some w) h locs) : Go p e below T (mkF m pc Ls (w :: rest)) (KQ s Q k n) := by
  obtain ⟨fs, hr, hrun, hended, hW, hsame⟩ := X.leave (v := some w) (fun h => by rw [hret] at h; cases h) hlk
  exact ⟨_, _, retOut X hx hret hn0 hi hd hr, hrun, hended, _, _, rfl, by show Q (some w) T.heap _; rw [eT]; exact hq, ⟨_, rfl⟩, hW, hsame.mono hk hn⟩
theorem Go.retI (X : Stand p l e R s m args below meth c T locs cells slots) (hx : p.tables.exec = Jvm.exec) {z : Int32} {rest : List Value} (hret : meth.sig.returnType = some .int) (hlk : meth.locks = false) {pc : Nat} {Ls : Array Slot} {Q : Option Value → Heap → List Loc → Prop} {k n : Nat} {h : Heap}
    (hd : decode c.code pc = .ok (.ireturn, 1)) (eT : T.heap = h) (hk : cells ≤ k) (hn : slots ≤ n) (hq : Q (some (.int z)) h locs) : Go p e below T (mkF m pc Ls (.int z :: rest)) (KQ s Q k n) :=
  Go.retV X hx hret hlk rfl (Or.inl ⟨rfl, Or.inl rfl, z, rfl⟩) hd eT hk hn hq
theorem Go.retJ (X : Stand p l e R s m args below meth c T locs cells slots) (hx : p.tables.exec = Jvm.exec) {z : Int64} {rest : List Value} (hret : meth.sig.returnType = some .long) (hlk : meth.locks = false) {pc : Nat} {Ls : Array Slot} {Q : Option Value → Heap → List Loc → Prop} {k n : Nat} {h : Heap}
    (hd : decode c.code pc = .ok (.lreturn, 1)) (eT : T.heap = h) (hk : cells ≤ k) (hn : slots ≤ n) (hq : Q (some (.long z)) h locs) : Go p e below T (mkF m pc Ls (.long z :: rest)) (KQ s Q k n) :=
  Go.retV X hx hret hlk rfl (Or.inr (Or.inl ⟨rfl, rfl, z, rfl⟩)) hd eT hk hn hq
theorem narrow_ref {t : FieldType} {w : Value} (ht : t.isReference = true) (hw : w.isRef = true) : narrow t w = w := by
  rcases ref_cases hw with rfl | ⟨z, rfl⟩ <;> cases t <;> first | rfl | (cases ht; done)
theorem Go.retA (X : Stand p l e R s m args below meth c T locs cells slots) (hx : p.tables.exec = Jvm.exec) {t : FieldType} {w : Value} {rest : List Value} (hret : meth.sig.returnType = some t) (hlk : meth.locks = false) {pc : Nat} {Ls : Array Slot} {Q : Option Value → Heap → List Loc → Prop} {k n : Nat} {h : Heap} (ht : t.isReference = true) (hw : w.isRef = true)
    (hd : decode c.code pc = .ok (.areturn, 1)) (eT : T.heap = h) (hk : cells ≤ k) (hn : slots ≤ n) (hq : Q (some w) h locs) : Go p e below T (mkF m pc Ls (w :: rest)) (KQ s Q k n) :=
  Go.retV X hx hret hlk (narrow_ref ht hw) (Or.inr (Or.inr (Or.inr (Or.inr ⟨rfl, ht, hw⟩)))) hd eT hk hn hq
theorem Go.retN (X : Stand p l e R s m args below meth c T locs cells slots) (hx : p.tables.exec = Jvm.exec) {t : FieldType} {z : Int32} {rest : List Value} (hret : meth.sig.returnType = some t) (hlk : meth.locks = false) {pc : Nat} {Ls : Array Slot} {Q : Option Value → Heap → List Loc → Prop} {k n : Nat} {h : Heap} (ht : t = .boolean ∨ t = .byte ∨ t = .char ∨ t = .short)
    (hd : decode c.code pc = .ok (.ireturn, 1)) (eT : T.heap = h) (hk : cells ≤ k) (hn : slots ≤ n) (hq : Q (some (.int (nar t z))) h locs) : Go p e below T (mkF m pc Ls (.int z :: rest)) (KQ s Q k n) := by
  obtain ⟨fs, hr, hrun, hended, hW, hsame⟩ := X.leave (v := some (.int (nar t z))) (fun h => by rw [hret] at h; cases h) hlk
  exact ⟨_, _, Jvm.RoadKit.retN X hx hret ht hd hr, hrun, hended, _, _, rfl, by show Q _ T.heap _; rw [eT]; exact hq, ⟨_, rfl⟩, hW, hsame.mono hk hn⟩
/-- the contract of one body, at the arguments as and the heap h0 -/
abbrev Ctr (l : Launch) (Z : State) (y : MethodName) (bytes : ByteArray) (mx : Nat) (rt : Option FieldType) (ws : List Jvm.Cond) (R : Room) (as : Array Value) (h0 : Heap) (Q : Option Value → Heap → List Loc → Prop) : Prop :=
  MetFree l y (head1 (Jvm.Cond.code y bytes mx rt :: ws) R) (fun a U => a = as ∧ Z.Warmed39 U.vm ∧ U.heap = h0) (fun _ _ _ _ _ => True) (fun _ U o U' => ∃ v L, o = .returned v ∧ Q v U'.heap L ∧ FrameEnd U o U' L R.cells R.slots)
theorem Ctr.intro {Z : State} {y : MethodName} {bytes : ByteArray} {mx : Nat} {rt : Option FieldType} {ws : List Jvm.Cond} {as : Array Value} {h0 : Heap} {Q : Option Value → Heap → List Loc → Prop} (hpl : plainFor y = true)
    (body : ∀ (p : Program) (e : Env) (s : State) (m : MethodId) (below : List Frame) (meth : Method) (c : Code) (s₁ : State), p.tables.exec = Jvm.exec → c.code = bytes → c.maxLocals = mx → s.vm.findClass y.cls = some m.cls → meth.name = y.name → meth.sig.returnType = rt → meth.locks = false → Z.Warmed39 s.vm →
      Stand p l e R s m as below meth c s₁ [] 0 0 → s₁.heap = h0 → Go p e below s₁ (entryFrame m as mx) (KQ s Q R.cells R.slots)) : Ctr l Z y bytes mx rt ws R as h0 Q := by
  refine MetFree.of_bodySF hpl hisR ?_
  intro p e s m args below meth c s₁ Bd hml0 hP hK
  obtain ⟨rfl, hZ, hh⟩ := hP
  obtain ⟨s₂, o, h1, h2, h3, h4⟩ := body p e s m below meth c s₁ Bd.exec Bd.bytes hml0 (findClass_of_methodNamed Bd.named) (name_of_methodNamed Bd.named Bd.method).1 Bd.returns Bd.notSynchronized hZ (Stand.of_body Bd) (by rw [← hh, Bd.state]; rfl)
  exact ⟨s₂, o, h1, h2, h3, h4⟩
end own_kit
theorem own_mask31 (x : Int32) : 0 ≤ (x &&& 2147483647).toInt ∧ (x &&& 2147483647).toInt < 2 ^ 31 := by
  have e : (x &&& 2147483647).toInt = x.toInt % 2 ^ 31 := Jvm.Kit.i32_mask x 2147483647 (k := 31) (by decide) (by decide)
  omega
theorem own_rem {x y : Int32} (hx : 0 ≤ x.toInt) (hy : 0 < y.toInt) : 0 ≤ (x % y).toInt ∧ (x % y).toInt < y.toInt := by
  have e : (x % y).toInt = x.toInt.tmod y.toInt := Int32.toInt_mod x y
  rw [Int.tmod_eq_emod_of_nonneg hx] at e
  have h1 := Int.emod_nonneg x.toInt (show y.toInt ≠ 0 by omega)
  have h2 := Int.emod_lt_of_pos x.toInt hy
  omega
theorem own_lt {a b : Int32} : a < b ↔ a.toInt < b.toInt := Int32.lt_iff_toInt_lt
theorem own_eq {a b : Int32} : a = b ↔ a.toInt = b.toInt := Int32.toInt_inj.symm
theorem own_or' {args : Array Value} {first s : State} {o : Option Outcome} {idx : List Nat} {G Y : Jvm.Cond} {P : Prop} [Decidable P] (h : (Jvm.Cond.or G Y).value args first o s idx = some true) (hG : G.value args first o s idx = some (decide P)) (hn : ¬ P) : Y.value args first o s idx = some true := by
  simpa [Cond.value, hG, hn] using h
theorem own_len {Z : State} {args : Array Value} {t : Term} {a : Addr} {cl : Cell} {ty : FieldType} {n : Int32} (ea : t.eval args Z none [] Z = some (.ref a)) (A : Arr Z Z.heap a cl ty) (h : (Term.length t).eval args Z none [] Z = some (.int n)) : cl.slots.size = n.toNatClampNeg ∧ ¬ n < 0 := by
  have ha := A.fin (Vm.Alike.refl _)
  by_cases p : cl.slots.size < 2 ^ 31
  · have e := (len_f ea ha p).symm.trans h
    have e2 : cl.slots.size.toInt32 = n := Value.int.inj (Option.some.inj e)
    have e3 := len_toInt p
    rw [e2] at e3
    refine ⟨by simp only [Int32.toNatClampNeg, e3]; rfl, by rw [Int32.lt_iff_toInt_lt, e3]; simp⟩
  · simp [Term.eval, ea, ha, p] at h
theorem own_at {Z : State} {args : Array Value} {t F : Term} {a : Addr} {cl : Cell} {ty : FieldType} {j y : Int32} (et : ∀ idx, t.eval args Z none idx Z = some (.ref a)) (A : Arr Z Z.heap a cl ty) (nn : ¬ j < 0) (hF : F.eval args Z none [j.toNatClampNeg] Z = some (.int y))
    (h : (Jvm.Cond.eq (.elem t (.index 0)) F).value args Z none Z [j.toNatClampNeg] = some true) : cl.slots[j.toNatClampNeg]? = some (.int y) :=
  (elem_f (et _) (idx_at nn) (A.fin (Vm.Alike.refl _)) nn).symm.trans (eqv_i hF h)
theorem own_nlt {a b : Int32} : ¬ a < b ↔ b.toInt ≤ a.toInt := by rw [own_lt]; omega
theorem own_le {a b : Int32} : a ≤ b ↔ a.toInt ≤ b.toInt := Int32.le_iff_toInt_le
theorem own_clamp {j n : Int32} {k : Nat} (h0 : ¬ j < 0) (h1 : j < n) (hk : k = n.toNatClampNeg) : j.toNatClampNeg < k := by
  rw [own_lt] at h0 h1; subst hk
  have : (0 : Int32).toInt = 0 := by decide
  simp only [Int32.toNatClampNeg]; omega


def fE (x : Int32) : Int32 := if x = 32 then 1 else if x = 9 then 1 else if x = 10 then 1 else if x = 11 then 1 else if x = 12 then 1 else if x = 13 then 1 else 0
def fW (x : Int32) : Int32 := if x < 9 then 0 else if x < 14 then 1 else if x = 32 then 1 else 0
theorem fW01 (x : Int32) : fW x = 0 ∨ fW x = 1 := by unfold fW; (repeat' split) <;> simp
theorem own_ws (x : Int32) : (if x < 0 then 0 else fW x) = fE x := by
  have c0 : (0 : Int32).toInt = 0 := by decide
  have c9 : (9 : Int32).toInt = 9 := by decide
  have c10 : (10 : Int32).toInt = 10 := by decide
  have c11 : (11 : Int32).toInt = 11 := by decide
  have c12 : (12 : Int32).toInt = 12 := by decide
  have c13 : (13 : Int32).toInt = 13 := by decide
  have c14 : (14 : Int32).toInt = 14 := by decide
  have c32 : (32 : Int32).toInt = 32 := by decide
  have e32 : x = 32 ↔ x.toInt = 32 := by rw [own_eq, c32]
  have e9 : x = 9 ↔ x.toInt = 9 := by rw [own_eq, c9]
  have e10 : x = 10 ↔ x.toInt = 10 := by rw [own_eq, c10]
  have e11 : x = 11 ↔ x.toInt = 11 := by rw [own_eq, c11]
  have e12 : x = 12 ↔ x.toInt = 12 := by rw [own_eq, c12]
  have e13 : x = 13 ↔ x.toInt = 13 := by rw [own_eq, c13]
  simp only [fE, fW, own_lt, c0, c9, c14, e32, e9, e10, e11, e12, e13]
  (repeat' split) <;> first | rfl | (exfalso; omega)

theorem d1_0 : decode prog_17_method_2_code 0 = .ok (.iload_n 0, 1) := by decide +kernel
theorem d1_1 : decode prog_17_method_2_code 1 = .ok (.ifCond .lt 15, 3) := by decide +kernel
theorem d1_16 : decode prog_17_method_2_code 16 = .ok (.iconst 0, 1) := by decide +kernel
theorem d1_17 : decode prog_17_method_2_code 17 = .ok (.ireturn, 1) := by decide +kernel
theorem d1_4 : decode prog_17_method_2_code 4 = .ok (.getstatic 7, 3) := by decide +kernel
theorem d1_7 : decode prog_17_method_2_code 7 = .ok (.iload_n 0, 1) := by decide +kernel
theorem d1_8 : decode prog_17_method_2_code 8 = .ok (.baload, 1) := by decide +kernel
theorem d1_9 : decode prog_17_method_2_code 9 = .ok (.ifCond .eq 7, 3) := by decide +kernel
theorem d1_12 : decode prog_17_method_2_code 12 = .ok (.iconst 1, 1) := by decide +kernel
theorem d1_13 : decode prog_17_method_2_code 13 = .ok (.goto 4, 3) := by decide +kernel
theorem own_pn0 : plainName "com/example/parenform/parenform/Octets" = true := by first | (simp [plainName, overriddenIn]; done) | decide +kernel
theorem own_ef_rm1 (m : MethodId) (x0 : Int32) : entryFrame m #[(.int x0)] 1 = mkF m 0 #[.val (.int x0)] [] := by first | (simp [entryFrame, mkF, argsToLocals, Value.category]; done) | rfl
def Q_rm1 (Z : State) (x0 : Int32) (aW : Addr) (cl : Cell) (h0 : Heap) (n0 : Nat) : Option Value → Heap → List Loc → Prop := fun v h L => v = some (.int (fE x0)) ∧ Fr n0 L ∧ h = h0
set_option maxRecDepth 65536 in
set_option maxHeartbeats 40000000 in
theorem rm1 (l : Launch) (Z : State) (a0 : Array Value) (hw : ∀ d ∈ tables_1, d.before a0 Z = true) (ws : List Jvm.Cond) (x0 : Int32) (aW : Addr) (cl : Cell) (h0 : Heap) (n0 : Nat) (Z0 : n0 ≤ h0.size) (S : Sta Z h0 "com/example/parenform/parenform/Octets" "WHITESPACE" "[Z" (.ref aW)) (A : Arr Z h0 aW cl .boolean) (Sz : cl.slots.size = (256 : Int32).toNatClampNeg) (Hat : ∀ j : Int32, ¬ j < 0 → j < 256 → cl.slots[j.toNatClampNeg]? = some (.int (fW j))) (hx0 : x0 < 256) :
    Ctr l Z (⟨"com/example/parenform/parenform/Octets", "isWhitespace", "(I)Z"⟩ : MethodName) prog_17_method_2_code 1 (some .boolean) ws ({ frames := 0, cells := 0, slots := 0, locals := 0 } : Room) #[(.int x0)] h0 (Q_rm1 Z x0 aW cl h0 n0) := by
  refine Ctr.intro (plainFor_of_name own_pn0) ?_
  intro p e s m below meth c s₁ hx hby hml hown hnm hret hlk hZ X0 e0
  have hown : s.vm.findClass "com/example/parenform/parenform/Octets" = some m.cls := hown
  have hml : c.maxLocals = 1 := hml
  have N0 := Fr.nil n0
  refine Go.cast (own_ef_rm1 m x0) ?_
  show Go p e below s₁ (mkF m 0 #[.val (.int x0)] []) _
  refine Go.of (fun _ k => XS.iloadN X0.here hx rfl (hb hby d1_0) rfl  k) ?_
  show Go p e below s₁ (mkF m 1 #[.val (.int x0)] [(.int x0)]) _
  by_cases hc1_0 : x0 < (0 : Int32)
  · refine Go.of (fun _ k => XS.ifYes X0.here hx rfl (pc0 := 1) (pc' := 16) rfl (hb hby d1_1) rfl ((if0 _ _).trans (tlt hc1_0).1) (by decide) (by decide) k) ?_
    show Go p e below s₁ (mkF m 16 #[.val (.int x0)] []) _
    refine Go.of (fun _ k => XS.iconst X0.here hx rfl (hb hby d1_16) k) ?_
    show Go p e below s₁ (mkF m 17 #[.val (.int x0)] [(.int (0 : Int32))]) _
    refine Go.retN X0 hx (t := .boolean) hret hlk (by simp) (hb hby d1_17) e0 (by decide) (by decide) ?_
    exact ⟨show some (Value.int (0 : Int32)) = _ from by rw [← own_ws x0]; rcases fW01 x0 with h | h <;> simp_all, N0, rfl⟩
  · refine Go.of (fun _ k => XS.ifNo X0.here hx rfl (hb hby d1_1) rfl ((if0 _ _).trans (flt hc1_0).1) k) ?_
    show Go p e below s₁ (mkF m 4 #[.val (.int x0)] []) _
    obtain ⟨T1, X1, e1, st1⟩ := getS2 X0 hx hZ hown (host := "") (Or.inl (hw _ (List.mem_of_getElem? (i := 9) rfl))) Via.refl e0 S (g := (mkF m 4 #[.val (.int x0)] [])) rfl (hb hby d1_4)
    refine Go.of (fun _ k => st1 _ k) ?_
    show Go p e below T1 (mkF m 7 #[.val (.int x0)] [(.ref aW)]) _
    refine Go.of (fun _ k => XS.iloadN X1.here hx rfl (hb hby d1_7) rfl  k) ?_
    show Go p e below T1 (mkF m 8 #[.val (.int x0)] [(.int x0), (.ref aW)]) _
    refine Go.of (fun _ k => X1.baloadBooleans hx (j := x0) (v := (.int (fW x0))) (by rw [e1]; exact A.1) (State.isArrayOf_alike hZ.alike A.2.1) A.2.2 (inb_of (z := 256) Sz ⟨hc1_0, hx0⟩) (Hat _ hc1_0 hx0) (g := (mkF m 8 #[.val (.int x0)] [(.int x0), (.ref aW)])) rfl rfl (hb hby d1_8) _ k) ?_
    show Go p e below T1 (mkF m 9 #[.val (.int x0)] [(.int (fW x0))]) _
    by_cases hc9_1 : (fW x0) = (0 : Int32)
    · refine Go.of (fun _ k => XS.ifYes X1.here hx rfl (pc0 := 9) (pc' := 16) rfl (hb hby d1_9) rfl ((if0 _ _).trans (teq hc9_1).1) (by decide) (by decide) k) ?_
      show Go p e below T1 (mkF m 16 #[.val (.int x0)] []) _
      refine Go.of (fun _ k => XS.iconst X1.here hx rfl (hb hby d1_16) k) ?_
      show Go p e below T1 (mkF m 17 #[.val (.int x0)] [(.int (0 : Int32))]) _
      refine Go.retN X1 hx (t := .boolean) hret hlk (by simp) (hb hby d1_17) e1 (by decide) (by decide) ?_
      exact ⟨show some (Value.int (0 : Int32)) = _ from by rw [← own_ws x0]; rcases fW01 x0 with h | h <;> simp_all, N0, rfl⟩
    · refine Go.of (fun _ k => XS.ifNo X1.here hx rfl (hb hby d1_9) rfl ((if0 _ _).trans (feq hc9_1).1) k) ?_
      show Go p e below T1 (mkF m 12 #[.val (.int x0)] []) _
      refine Go.of (fun _ k => XS.iconst X1.here hx rfl (hb hby d1_12) k) ?_
      show Go p e below T1 (mkF m 13 #[.val (.int x0)] [(.int (1 : Int32))]) _
      refine Go.of (fun _ k => XS.goto X1.here hx rfl (pc0 := 13) (pc' := 17) rfl (hb hby d1_13) (by decide) (by decide) k) ?_
      show Go p e below T1 (mkF m 17 #[.val (.int x0)] [(.int (1 : Int32))]) _
      refine Go.retN X1 hx (t := .boolean) hret hlk (by simp) (hb hby d1_17) e1 (by decide) (by decide) ?_
      exact ⟨show some (Value.int (1 : Int32)) = _ from by rw [← own_ws x0]; rcases fW01 x0 with h | h <;> simp_all, N0, rfl⟩
theorem d2_0 : decode method_2_code 0 = .ok (.iload_n 0, 1) := by decide +kernel
theorem d2_1 : decode method_2_code 1 = .ok (.bipush 32, 2) := by decide +kernel
theorem d2_3 : decode method_2_code 3 = .ok (.if_icmp .ne 5, 3) := by decide +kernel
theorem d2_6 : decode method_2_code 6 = .ok (.iconst 1, 1) := by decide +kernel
theorem d2_7 : decode method_2_code 7 = .ok (.ireturn, 1) := by decide +kernel
theorem d2_8 : decode method_2_code 8 = .ok (.iload_n 0, 1) := by decide +kernel
theorem d2_9 : decode method_2_code 9 = .ok (.bipush 9, 2) := by decide +kernel
theorem d2_11 : decode method_2_code 11 = .ok (.if_icmp .ne 5, 3) := by decide +kernel
theorem d2_14 : decode method_2_code 14 = .ok (.iconst 1, 1) := by decide +kernel
theorem d2_15 : decode method_2_code 15 = .ok (.ireturn, 1) := by decide +kernel
theorem d2_16 : decode method_2_code 16 = .ok (.iload_n 0, 1) := by decide +kernel
theorem d2_17 : decode method_2_code 17 = .ok (.bipush 10, 2) := by decide +kernel
theorem d2_19 : decode method_2_code 19 = .ok (.if_icmp .ne 5, 3) := by decide +kernel
theorem d2_22 : decode method_2_code 22 = .ok (.iconst 1, 1) := by decide +kernel
theorem d2_23 : decode method_2_code 23 = .ok (.ireturn, 1) := by decide +kernel
theorem d2_24 : decode method_2_code 24 = .ok (.iload_n 0, 1) := by decide +kernel
theorem d2_25 : decode method_2_code 25 = .ok (.bipush 11, 2) := by decide +kernel
theorem d2_27 : decode method_2_code 27 = .ok (.if_icmp .ne 5, 3) := by decide +kernel
theorem d2_30 : decode method_2_code 30 = .ok (.iconst 1, 1) := by decide +kernel
theorem d2_31 : decode method_2_code 31 = .ok (.ireturn, 1) := by decide +kernel
theorem d2_32 : decode method_2_code 32 = .ok (.iload_n 0, 1) := by decide +kernel
theorem d2_33 : decode method_2_code 33 = .ok (.bipush 12, 2) := by decide +kernel
theorem d2_35 : decode method_2_code 35 = .ok (.if_icmp .ne 5, 3) := by decide +kernel
theorem d2_38 : decode method_2_code 38 = .ok (.iconst 1, 1) := by decide +kernel
theorem d2_39 : decode method_2_code 39 = .ok (.ireturn, 1) := by decide +kernel
theorem d2_40 : decode method_2_code 40 = .ok (.iload_n 0, 1) := by decide +kernel
theorem d2_41 : decode method_2_code 41 = .ok (.bipush 13, 2) := by decide +kernel
theorem d2_43 : decode method_2_code 43 = .ok (.if_icmp .ne 5, 3) := by decide +kernel
theorem d2_46 : decode method_2_code 46 = .ok (.iconst 1, 1) := by decide +kernel
theorem d2_47 : decode method_2_code 47 = .ok (.ireturn, 1) := by decide +kernel
theorem d2_48 : decode method_2_code 48 = .ok (.iconst 0, 1) := by decide +kernel
theorem d2_49 : decode method_2_code 49 = .ok (.ireturn, 1) := by decide +kernel
theorem own_pn1 : plainName "com/example/parenform/parenform/OctetsIsWhitespacePinLaw" = true := by first | (simp [plainName, overriddenIn]; done) | decide +kernel
theorem own_ef_rm2 (m : MethodId) (x0 : Int32) : entryFrame m #[(.int x0)] 1 = mkF m 0 #[.val (.int x0)] [] := by first | (simp [entryFrame, mkF, argsToLocals, Value.category]; done) | rfl
def Q_rm2 (Z : State) (x0 : Int32) (h0 : Heap) (n0 : Nat) : Option Value → Heap → List Loc → Prop := fun v h L => v = some (.int (fE x0)) ∧ Fr n0 L ∧ h = h0
set_option maxRecDepth 65536 in
set_option maxHeartbeats 40000000 in
theorem rm2 (l : Launch) (Z : State) (a0 : Array Value) (hw : ∀ d ∈ tables_1, d.before a0 Z = true) (ws : List Jvm.Cond) (x0 : Int32) (h0 : Heap) (n0 : Nat) (Z0 : n0 ≤ h0.size)  :
    Ctr l Z (⟨"com/example/parenform/parenform/OctetsIsWhitespacePinLaw", "expected", "(I)Z"⟩ : MethodName) method_2_code 1 (some .boolean) ws ({ frames := 0, cells := 0, slots := 0, locals := 0 } : Room) #[(.int x0)] h0 (Q_rm2 Z x0 h0 n0) := by
  refine Ctr.intro (plainFor_of_name own_pn1) ?_
  intro p e s m below meth c s₁ hx hby hml hown hnm hret hlk hZ X0 e0
  have hown : s.vm.findClass "com/example/parenform/parenform/OctetsIsWhitespacePinLaw" = some m.cls := hown
  have hml : c.maxLocals = 1 := hml
  have N0 := Fr.nil n0
  refine Go.cast (own_ef_rm2 m x0) ?_
  show Go p e below s₁ (mkF m 0 #[.val (.int x0)] []) _
  refine Go.of (fun _ k => XS.iloadN X0.here hx rfl (hb hby d2_0) rfl  k) ?_
  show Go p e below s₁ (mkF m 1 #[.val (.int x0)] [(.int x0)]) _
  refine Go.of (fun _ k => XS.bipush X0.here hx rfl (hb hby d2_1) k) ?_
  show Go p e below s₁ (mkF m 3 #[.val (.int x0)] [(.int (32 : Int32)), (.int x0)]) _
  by_cases hc3_0 : x0 = (32 : Int32)
  · refine Go.of (fun _ k => XS.icmpNo X0.here hx rfl (hb hby d2_3) rfl (teq hc3_0).2 k) ?_
    show Go p e below s₁ (mkF m 6 #[.val (.int x0)] []) _
    refine Go.of (fun _ k => XS.iconst X0.here hx rfl (hb hby d2_6) k) ?_
    show Go p e below s₁ (mkF m 7 #[.val (.int x0)] [(.int (1 : Int32))]) _
    refine Go.retN X0 hx (t := .boolean) hret hlk (by simp) (hb hby d2_7) e0 (by decide) (by decide) ?_
    exact ⟨show some (Value.int (1 : Int32)) = _ from by simp [fE, *], N0, rfl⟩
  · refine Go.of (fun _ k => XS.icmpYes X0.here hx rfl (pc0 := 3) (pc' := 8) rfl (hb hby d2_3) rfl (feq hc3_0).2 (by decide) (by decide) k) ?_
    show Go p e below s₁ (mkF m 8 #[.val (.int x0)] []) _
    refine Go.of (fun _ k => XS.iloadN X0.here hx rfl (hb hby d2_8) rfl  k) ?_
    show Go p e below s₁ (mkF m 9 #[.val (.int x0)] [(.int x0)]) _
    refine Go.of (fun _ k => XS.bipush X0.here hx rfl (hb hby d2_9) k) ?_
    show Go p e below s₁ (mkF m 11 #[.val (.int x0)] [(.int (9 : Int32)), (.int x0)]) _
    by_cases hc11_1 : x0 = (9 : Int32)
    · refine Go.of (fun _ k => XS.icmpNo X0.here hx rfl (hb hby d2_11) rfl (teq hc11_1).2 k) ?_
      show Go p e below s₁ (mkF m 14 #[.val (.int x0)] []) _
      refine Go.of (fun _ k => XS.iconst X0.here hx rfl (hb hby d2_14) k) ?_
      show Go p e below s₁ (mkF m 15 #[.val (.int x0)] [(.int (1 : Int32))]) _
      refine Go.retN X0 hx (t := .boolean) hret hlk (by simp) (hb hby d2_15) e0 (by decide) (by decide) ?_
      exact ⟨show some (Value.int (1 : Int32)) = _ from by simp [fE, *], N0, rfl⟩
    · refine Go.of (fun _ k => XS.icmpYes X0.here hx rfl (pc0 := 11) (pc' := 16) rfl (hb hby d2_11) rfl (feq hc11_1).2 (by decide) (by decide) k) ?_
      show Go p e below s₁ (mkF m 16 #[.val (.int x0)] []) _
      refine Go.of (fun _ k => XS.iloadN X0.here hx rfl (hb hby d2_16) rfl  k) ?_
      show Go p e below s₁ (mkF m 17 #[.val (.int x0)] [(.int x0)]) _
      refine Go.of (fun _ k => XS.bipush X0.here hx rfl (hb hby d2_17) k) ?_
      show Go p e below s₁ (mkF m 19 #[.val (.int x0)] [(.int (10 : Int32)), (.int x0)]) _
      by_cases hc19_2 : x0 = (10 : Int32)
      · refine Go.of (fun _ k => XS.icmpNo X0.here hx rfl (hb hby d2_19) rfl (teq hc19_2).2 k) ?_
        show Go p e below s₁ (mkF m 22 #[.val (.int x0)] []) _
        refine Go.of (fun _ k => XS.iconst X0.here hx rfl (hb hby d2_22) k) ?_
        show Go p e below s₁ (mkF m 23 #[.val (.int x0)] [(.int (1 : Int32))]) _
        refine Go.retN X0 hx (t := .boolean) hret hlk (by simp) (hb hby d2_23) e0 (by decide) (by decide) ?_
        exact ⟨show some (Value.int (1 : Int32)) = _ from by simp [fE, *], N0, rfl⟩
      · refine Go.of (fun _ k => XS.icmpYes X0.here hx rfl (pc0 := 19) (pc' := 24) rfl (hb hby d2_19) rfl (feq hc19_2).2 (by decide) (by decide) k) ?_
        show Go p e below s₁ (mkF m 24 #[.val (.int x0)] []) _
        refine Go.of (fun _ k => XS.iloadN X0.here hx rfl (hb hby d2_24) rfl  k) ?_
        show Go p e below s₁ (mkF m 25 #[.val (.int x0)] [(.int x0)]) _
        refine Go.of (fun _ k => XS.bipush X0.here hx rfl (hb hby d2_25) k) ?_
        show Go p e below s₁ (mkF m 27 #[.val (.int x0)] [(.int (11 : Int32)), (.int x0)]) _
        by_cases hc27_3 : x0 = (11 : Int32)
        · refine Go.of (fun _ k => XS.icmpNo X0.here hx rfl (hb hby d2_27) rfl (teq hc27_3).2 k) ?_
          show Go p e below s₁ (mkF m 30 #[.val (.int x0)] []) _
          refine Go.of (fun _ k => XS.iconst X0.here hx rfl (hb hby d2_30) k) ?_
          show Go p e below s₁ (mkF m 31 #[.val (.int x0)] [(.int (1 : Int32))]) _
          refine Go.retN X0 hx (t := .boolean) hret hlk (by simp) (hb hby d2_31) e0 (by decide) (by decide) ?_
          exact ⟨show some (Value.int (1 : Int32)) = _ from by simp [fE, *], N0, rfl⟩
        · refine Go.of (fun _ k => XS.icmpYes X0.here hx rfl (pc0 := 27) (pc' := 32) rfl (hb hby d2_27) rfl (feq hc27_3).2 (by decide) (by decide) k) ?_
          show Go p e below s₁ (mkF m 32 #[.val (.int x0)] []) _
          refine Go.of (fun _ k => XS.iloadN X0.here hx rfl (hb hby d2_32) rfl  k) ?_
          show Go p e below s₁ (mkF m 33 #[.val (.int x0)] [(.int x0)]) _
          refine Go.of (fun _ k => XS.bipush X0.here hx rfl (hb hby d2_33) k) ?_
          show Go p e below s₁ (mkF m 35 #[.val (.int x0)] [(.int (12 : Int32)), (.int x0)]) _
          by_cases hc35_4 : x0 = (12 : Int32)
          · refine Go.of (fun _ k => XS.icmpNo X0.here hx rfl (hb hby d2_35) rfl (teq hc35_4).2 k) ?_
            show Go p e below s₁ (mkF m 38 #[.val (.int x0)] []) _
            refine Go.of (fun _ k => XS.iconst X0.here hx rfl (hb hby d2_38) k) ?_
            show Go p e below s₁ (mkF m 39 #[.val (.int x0)] [(.int (1 : Int32))]) _
            refine Go.retN X0 hx (t := .boolean) hret hlk (by simp) (hb hby d2_39) e0 (by decide) (by decide) ?_
            exact ⟨show some (Value.int (1 : Int32)) = _ from by simp [fE, *], N0, rfl⟩
          · refine Go.of (fun _ k => XS.icmpYes X0.here hx rfl (pc0 := 35) (pc' := 40) rfl (hb hby d2_35) rfl (feq hc35_4).2 (by decide) (by decide) k) ?_
            show Go p e below s₁ (mkF m 40 #[.val (.int x0)] []) _
            refine Go.of (fun _ k => XS.iloadN X0.here hx rfl (hb hby d2_40) rfl  k) ?_
            show Go p e below s₁ (mkF m 41 #[.val (.int x0)] [(.int x0)]) _
            refine Go.of (fun _ k => XS.bipush X0.here hx rfl (hb hby d2_41) k) ?_
            show Go p e below s₁ (mkF m 43 #[.val (.int x0)] [(.int (13 : Int32)), (.int x0)]) _
            by_cases hc43_5 : x0 = (13 : Int32)
            · refine Go.of (fun _ k => XS.icmpNo X0.here hx rfl (hb hby d2_43) rfl (teq hc43_5).2 k) ?_
              show Go p e below s₁ (mkF m 46 #[.val (.int x0)] []) _
              refine Go.of (fun _ k => XS.iconst X0.here hx rfl (hb hby d2_46) k) ?_
              show Go p e below s₁ (mkF m 47 #[.val (.int x0)] [(.int (1 : Int32))]) _
              refine Go.retN X0 hx (t := .boolean) hret hlk (by simp) (hb hby d2_47) e0 (by decide) (by decide) ?_
              exact ⟨show some (Value.int (1 : Int32)) = _ from by simp [fE, *], N0, rfl⟩
            · refine Go.of (fun _ k => XS.icmpYes X0.here hx rfl (pc0 := 43) (pc' := 48) rfl (hb hby d2_43) rfl (feq hc43_5).2 (by decide) (by decide) k) ?_
              show Go p e below s₁ (mkF m 48 #[.val (.int x0)] []) _
              refine Go.of (fun _ k => XS.iconst X0.here hx rfl (hb hby d2_48) k) ?_
              show Go p e below s₁ (mkF m 49 #[.val (.int x0)] [(.int (0 : Int32))]) _
              refine Go.retN X0 hx (t := .boolean) hret hlk (by simp) (hb hby d2_49) e0 (by decide) (by decide) ?_
              exact ⟨show some (Value.int (0 : Int32)) = _ from by simp [fE, *], N0, rfl⟩
theorem own_pd0 : parseMethodDescriptor "(I)Z" = some ⟨[.int], some .boolean⟩ := by decide +kernel
theorem own_ef_rm0 (m : MethodId) (x0 : Int32) : entryFrame m #[(.int x0)] maxLocals = mkF m 0 #[.val (.int x0), .unset] [] := by first | (simp [entryFrame, mkF, argsToLocals, Value.category, maxLocals]; done) | rfl
def Q_rm0 (Z : State) (x0 : Int32) (aW : Addr) (cl : Cell) (h0 : Heap) (n0 : Nat) : Option Value → Heap → List Loc → Prop := fun v h L => v = some (.int 1) ∧ Fr n0 L
set_option maxRecDepth 65536 in
set_option maxHeartbeats 40000000 in
theorem rm0 (l : Launch) (Z : State) (a0 : Array Value) (hw : ∀ d ∈ tables_1, d.before a0 Z = true) (ws : List Jvm.Cond) (x0 : Int32) (aW : Addr) (cl : Cell) (h0 : Heap) (n0 : Nat) (Z0 : n0 ≤ h0.size) (S : Sta Z h0 "com/example/parenform/parenform/Octets" "WHITESPACE" "[Z" (.ref aW)) (A : Arr Z h0 aW cl .boolean) (Sz : cl.slots.size = (256 : Int32).toNatClampNeg) (Hat : ∀ j : Int32, ¬ j < 0 → j < 256 → cl.slots[j.toNatClampNeg]? = some (.int (fW j))) :
    Ctr l Z x code maxLocals ret ws room_1 #[(.int x0)] h0 (Q_rm0 Z x0 aW cl h0 n0) := by
  refine Ctr.intro (plainFor_of_name own_pn1) ?_
  intro p e s m below meth c s₁ hx hby hml hown hnm hret hlk hZ X0 e0
  have hown : s.vm.findClass "com/example/parenform/parenform/OctetsIsWhitespacePinLaw" = some m.cls := hown
  have hml : c.maxLocals = 2 := hml
  have N0 := Fr.nil n0
  refine Go.cast (own_ef_rm0 m x0) ?_
  show Go p e below s₁ (mkF m 0 #[.val (.int x0), .unset] []) _
  refine Go.of (fun _ k => XS.iloadN X0.here hx rfl (hb hby at_0) rfl  k) ?_
  show Go p e below s₁ (mkF m 1 #[.val (.int x0), .unset] [(.int x0)]) _
  refine Go.of (fun _ k => X0.ldcInt hx hown (mvT hZ (hw _ (List.mem_of_getElem? (i := 0) rfl))) (g := (mkF m 1 #[.val (.int x0), .unset] [(.int x0)])) rfl (hb hby at_1) _ k) ?_
  show Go p e below s₁ (mkF m 3 #[.val (.int x0), .unset] [(.int (2147483647 : Int32)), (.int x0)]) _
  refine Go.of (fun _ k => XS.iand X0.here hx rfl (hb hby at_3) rfl k) ?_
  show Go p e below s₁ (mkF m 4 #[.val (.int x0), .unset] [(.int (x0 &&& (2147483647 : Int32)))]) _
  refine Go.of (fun _ k => XS.sipush X0.here hx rfl (hb hby at_4) k) ?_
  show Go p e below s₁ (mkF m 7 #[.val (.int x0), .unset] [(.int (257 : Int32)), (.int (x0 &&& (2147483647 : Int32)))]) _
  refine Go.of (fun _ k => iremM X0 hx rfl (hb hby at_7) rfl (by decide) k) ?_
  show Go p e below s₁ (mkF m 8 #[.val (.int x0), .unset] [(.int ((x0 &&& (2147483647 : Int32)) % (257 : Int32)))]) _
  refine Go.of (fun _ k => XS.iconst X0.here hx rfl (hb hby at_8) k) ?_
  show Go p e below s₁ (mkF m 9 #[.val (.int x0), .unset] [(.int (1 : Int32)), (.int ((x0 &&& (2147483647 : Int32)) % (257 : Int32)))]) _
  refine Go.of (fun _ k => XS.isub X0.here hx rfl (hb hby at_9) rfl k) ?_
  show Go p e below s₁ (mkF m 10 #[.val (.int x0), .unset] [(.int (((x0 &&& (2147483647 : Int32)) % (257 : Int32)) - (1 : Int32)))]) _
  refine Go.of (fun _ k => XS.istoreN X0.here hx rfl (hb hby at_10) rfl (l' := #[.val (.int x0), .val (.int (((x0 &&& (2147483647 : Int32)) % (257 : Int32)) - (1 : Int32)))]) rfl k) ?_
  show Go p e below s₁ (mkF m 11 #[.val (.int x0), .val (.int (((x0 &&& (2147483647 : Int32)) % (257 : Int32)) - (1 : Int32)))] []) _
  generalize h_oo : (((x0 &&& (2147483647 : Int32)) % (257 : Int32)) - (1 : Int32)) = oo
  have hq := own_rem (x := x0 &&& 2147483647) (y := 257) (own_mask31 x0).1 (by decide)
  have hy : (257 : Int32).toInt = 257 := by decide
  have h1' : (1 : Int32).toInt = 1 := by decide
  have ho : oo.toInt = ((x0 &&& 2147483647) % 257).toInt - 1 := by rw [← h_oo, Jvm.Kit.i32_sub (by omega) (by omega)]; rfl
  have hx0 : oo < 256 := by rw [own_lt]; have : (256 : Int32).toInt = 256 := (by decide); omega
  refine Go.of (fun _ k => XS.iloadN X0.here hx rfl (hb hby at_11) rfl  k) ?_
  show Go p e below s₁ (mkF m 12 #[.val (.int x0), .val (.int oo)] [(.int oo)]) _
  obtain ⟨_, _, ⟨T1, L1, kq1, nq1⟩, -, X1, ⟨Lc1, hQ1, l1, y1, z1⟩, st1⟩ := Jvm.LawKit.callS X0 hx (y := (⟨"com/example/parenform/parenform/Octets", "isWhitespace", "(I)Z"⟩ : MethodName)) hown (mvT hZ (hw _ (List.mem_of_getElem? (i := 1) rfl))) (mvT hZ (hw _ (List.mem_of_getElem? (i := 2) rfl))) (mvT hZ (hw _ (List.mem_of_getElem? (i := 3) rfl))) (mvT hZ (hw _ (List.mem_of_getElem? (i := 4) rfl))) (by decide) (backOf (W := 0) (rm1 l Z a0 hw [] oo aW cl h0 n0 Z0 S A Sz Hat hx0) hZ (hw _ (List.mem_of_getElem? (i := 4) rfl)) (hw _ (List.mem_of_getElem? (i := 3) rfl)) (by decide) (by decide)) (g := (mkF m 12 #[.val (.int x0), .val (.int oo)] [(.int oo)])) rfl (by rw [hml]; rfl) (argsL := [(.int oo)]) (rest := []) (lenOf own_pd0 rfl) rfl (by show 2 * 0 + _ ≤ _; exact Nat.le_of_eq rfl) (hb hby at_12) (fun _ _ => ⟨rfl, e0, (by decide : 0 + 0 ≤ _), (by decide : 0 + 0 ≤ _)⟩)
  dsimp only [Pt.U, Pt.locs, Pt.cells, Pt.slots] at X1 l1 y1 z1 st1 hQ1
  subst l1 y1 z1
  obtain ⟨rfl, Nq1, e1⟩ := hQ1
  have e1 := e1.trans rfl
  have N1 := Fr.app N0 Nq1
  refine Go.of (fun _ k => st1 _ k) ?_
  show Go p e below T1 (mkF m 15 #[.val (.int x0), .val (.int oo)] [(.int (fE oo))]) _
  refine Go.of (fun _ k => XS.iloadN X1.here hx rfl (hb hby at_15) rfl  k) ?_
  show Go p e below T1 (mkF m 16 #[.val (.int x0), .val (.int oo)] [(.int oo), (.int (fE oo))]) _
  obtain ⟨_, _, ⟨T2, L2, kq2, nq2⟩, -, X2, ⟨Lc2, hQ2, l2, y2, z2⟩, st2⟩ := Jvm.LawKit.callS X1 hx (y := (⟨"com/example/parenform/parenform/OctetsIsWhitespacePinLaw", "expected", "(I)Z"⟩ : MethodName)) hown (mvT hZ (hw _ (List.mem_of_getElem? (i := 5) rfl))) (mvT hZ (hw _ (List.mem_of_getElem? (i := 6) rfl))) (mvT hZ (hw _ (List.mem_of_getElem? (i := 7) rfl))) (mvT hZ (hw _ (List.mem_of_getElem? (i := 8) rfl))) (by decide) (backOf (W := 1) (rm2 l Z a0 hw [] oo h0 n0 Z0 ) hZ (hw _ (List.mem_of_getElem? (i := 8) rfl)) (hw _ (List.mem_of_getElem? (i := 7) rfl)) (by decide) (by decide)) (g := (mkF m 16 #[.val (.int x0), .val (.int oo)] [(.int oo), (.int (fE oo))])) rfl (by rw [hml]; rfl) (argsL := [(.int oo)]) (rest := [(.int (fE oo))]) (lenOf own_pd0 rfl) rfl (by show 2 * 0 + _ ≤ _; exact Nat.le_of_eq rfl) (hb hby at_16) (fun _ _ => ⟨rfl, e1, (by decide : 0 + 0 ≤ _), (by decide : 0 + 0 ≤ _)⟩)
  dsimp only [Pt.U, Pt.locs, Pt.cells, Pt.slots] at X2 l2 y2 z2 st2 hQ2
  subst l2 y2 z2
  obtain ⟨rfl, Nq2, e2⟩ := hQ2
  have e2 := e2.trans rfl
  have N2 := Fr.app N1 Nq2
  refine Go.of (fun _ k => st2 _ k) ?_
  show Go p e below T2 (mkF m 19 #[.val (.int x0), .val (.int oo)] [(.int (fE oo)), (.int (fE oo))]) _
  refine Go.of (fun _ k => XS.icmpNo X2.here hx rfl (hb hby at_19) rfl (teq (show (fE oo) = (fE oo) from rfl)).2 k) ?_
  show Go p e below T2 (mkF m 22 #[.val (.int x0), .val (.int oo)] []) _
  refine Go.of (fun _ k => XS.iconst X2.here hx rfl (hb hby at_22) k) ?_
  show Go p e below T2 (mkF m 23 #[.val (.int x0), .val (.int oo)] [(.int (1 : Int32))]) _
  refine Go.of (fun _ k => XS.goto X2.here hx rfl (pc0 := 23) (pc' := 27) rfl (hb hby at_23) (by decide) (by decide) k) ?_
  show Go p e below T2 (mkF m 27 #[.val (.int x0), .val (.int oo)] [(.int (1 : Int32))]) _
  refine Go.retN X2 hx (t := .boolean) hret hlk (by simp) (hb hby at_27) e2 (by decide) (by decide) ?_
  exact ⟨rfl, N2⟩
set_option maxRecDepth 65536 in
set_option maxHeartbeats 40000000 in
theorem comes_1 {Post : Tables → Env → Array Value → State → Outcome → State → Prop} (hpost : ∀ tb e args s v u, (limb_1_1.after args s (.returned v) u = true ∧ limb_1_2.after args s (.returned v) u = true ∧ True) → FrameEnd s (.returned v) u (Jvm.fieldLocs frame_1_writes args s ++ Jvm.arrayLocs frame_1_arrays args s ++ Jvm.staticLocs frame_1_statics s) 0 0 → Post tb e args s (.returned v) u) :
    ArmFor flags0 classFile x code maxLocals ret World_1 tables_1 room_1 Calls_1 rest_1 Pre_1 Post := by
  intro l hfl _ _ p e ha hc hk s m args below hf hA hF happ hP
  obtain ⟨hcalls, hrest, hpre⟩ := hP
  obtain ⟨-, -, -, hnamed, -, -, -, hat⟩ := (Spec.applies_iff hf).mp happ
  obtain ⟨hg, hn⟩ := and_e (Cond.before_iff.mp (show (Jvm.Cond.and given_1 narrow_1).before args s = true from hpre))
  obtain ⟨g1, g2⟩ := and_e hg
  obtain ⟨w0, rfl⟩ : ∃ w0 : Value, args = #[w0] := by
    have hs : args.size = 1 := by simpa [Cond.value, given_1] using g1
    obtain ⟨L⟩ := args
    match L, hs with
    | [w0], _ => exact ⟨w0, rfl⟩
  have hw := fun d (hd : d ∈ tables_1) => atoms_spec (ws := Jvm.Cond.code x code maxLocals ret :: tables_1) hat d (List.mem_cons_of_mem _ hd)
  have hfit : Fit s := fun {y c} hc i hi => by
    obtain ⟨ha, rfl⟩ := Array.getElem?_eq_some_iff.mp hc
    have q := List.all_eq_true.mp ((Array.all_eq_true_iff_forall_mem.mp hF) _ (Array.getElem_mem ha)) i (List.mem_range.mpr hi)
    simpa [Array.getElem?_eq_getElem hi] using q
  obtain ⟨i0, ei0⟩ := is_v g2
  obtain rfl : w0 = (.int i0) := Option.some.inj ei0
  obtain ⟨n0, m0⟩ := and_e hn
  obtain ⟨n1, m1⟩ := and_e m0
  obtain ⟨n2, m2⟩ := and_e m1
  obtain ⟨n3, m3⟩ := and_e m2
  obtain ⟨n4, m4⟩ := and_e m3
  obtain ⟨n5, m5⟩ := and_e m4
  obtain ⟨aW, ea⟩ := arr_v n0
  obtain ⟨cl, A⟩ := Arr.start ea n0
  have S := Sta.start ea (Or.inr ⟨(hw _ (List.mem_of_getElem? (i := 3) rfl)), (hw _ (List.mem_of_getElem? (i := 10) rfl))⟩)
  have et : ∀ idx, (Term.static "com/example/parenform/parenform/Octets" "WHITESPACE" "[Z").eval #[.int i0] s none idx s = some (.ref aW) := fun _ => ea
  obtain ⟨Sz, -⟩ := own_len ea A (eqv_i (Term.int_eval 256) n1)
  have Hat : ∀ j : Int32, ¬ j < 0 → j < 256 → cl.slots[j.toNatClampNeg]? = some (.int (fW j)) := by
    intro j nn hj
    have hl := own_clamp nn hj Sz
    have al := fun {c : Jvm.Cond} (h : (Jvm.Cond.all (Term.static "com/example/parenform/parenform/Octets" "WHITESPACE" "[Z") c).value #[.int i0] s none s [] = some true) => Cond.all_elim (et []) (A.fin (Vm.Alike.refl _)) h j.toNatClampNeg hl
    have k0 : (0 : Int32).toInt = 0 := (by decide)
    have k9 : (9 : Int32).toInt = 9 := (by decide)
    have k14 : (14 : Int32).toInt = 14 := (by decide)
    have k32 : (32 : Int32).toInt = 32 := (by decide)
    have k33 : (33 : Int32).toInt = 33 := (by decide)
    by_cases q1 : j < 9
    · rw [show fW j = 0 by simp [fW, q1]]; exact own_at et A nn (Term.int_eval 0) (own_or' (al n2) (Cond.le_ints (Term.int_eval 9) (idx_at nn)) (by rw [own_le]; rw [own_lt] at q1; omega))
    by_cases q2 : j < 14
    · rw [show fW j = 1 by simp [fW, q1, q2]]; exact own_at et A nn (Term.int_eval 1) (own_or' (own_or' (al n3) (Cond.lt_ints (idx_at nn) (Term.int_eval 9)) q1) (Cond.le_ints (Term.int_eval 14) (idx_at nn)) (by rw [own_le]; rw [own_lt] at q2; omega))
    by_cases q3 : j < 32
    · rw [show fW j = 0 by simp only [fW, q1, q2, if_false]; rw [if_neg]; rintro rfl; exact absurd q3 (by decide)]; exact own_at et A nn (Term.int_eval 0) (own_or' (own_or' (al n4) (Cond.lt_ints (idx_at nn) (Term.int_eval 14)) q2) (Cond.le_ints (Term.int_eval 32) (idx_at nn)) (by rw [own_le]; rw [own_lt] at q3; omega))
    by_cases q4 : j = 32
    · subst q4; exact (elem_f (et _) (Term.int_eval 32) (A.fin (Vm.Alike.refl _)) nn).symm.trans (eqv_i (Term.int_eval 1) n5)
    · rw [show fW j = 0 by simp [fW, q1, q2, q4]]; exact own_at et A nn (Term.int_eval 0) (own_or' (al m5) (Cond.lt_ints (idx_at nn) (Term.int_eval 33)) (by rw [own_lt]; rw [own_lt] at q3; rw [own_eq] at q4; omega))
  obtain ⟨n, o, h1, h2, h3, _, L, rfl, ⟨rfl, N⟩, hq⟩ := rm0 l s _ hw tables_1 i0 aW cl s.heap s.heap.size (Nat.le_refl _) S A Sz Hat p e ha hc hk s m _ below hf ((Spec.applies_iff_loose hf).mp happ).1 ⟨rfl, State.Warmed39.refl s, rfl⟩ trivial
  refine ⟨n, _, h1, h2, h3, hpost _ _ _ _ _ _ ⟨Cond.after_iff.mpr rfl, Cond.after_iff.mpr (eq_i res_at (Term.int_eval (1)) rfl), trivial⟩ ⟨hq.1, hq.2.1, (hq.2.2.sift fun y hy => Or.inr (N y hy)).mono (by decide) (by decide)⟩⟩
theorem main_1_1 : Claimed_1_1 := comes_1 fun _ _ _ _ _ _ h hF => ⟨h.1, hF⟩
theorem main_1_2 : Claimed_1_2 := comes_1 fun _ _ _ _ _ _ h hF => ⟨h.2.1, hF⟩
end Jvm.Pilot.@@N@@
namespace Jvm.Pilot.@@N@@
open Jvm Jvm.ClassFile Sem Op Lib Jvm.Free Jvm.Stand Jvm.Pilot.@@N@@.Jvm.D
/-! MADE BY PROGRAM (witnessworld.py) out of the Statement's table words and the real class files: 11 classes; the members and pool entries that the words name. The judged class is class 1, her method 2. -/
namespace start1
open Jvm.ClassFile
def u (s : String) : CpInfo := .utf8 (stringToUtf16 s)
/-- a pool by its gaps: so many unusable entries, then the entry; so many at the end -/
def gap : Nat → List CpInfo → List CpInfo
  | 0, r => r
  | n + 1, r => .unusable :: gap n r
def poolList (es : List (Nat × CpInfo)) (last : Nat) : List CpInfo := es.foldr (fun e r => gap e.1 (e.2 :: r)) (gap last [])
def pool (es : List (Nat × CpInfo)) (last : Nat) : Array CpInfo := ⟨poolList es last⟩
def fileOf (pool : Array CpInfo) (this : Nat) (attrs : Array Attribute := #[]) (ms : Array MethodInfo := #[]) (fl : Nat := 33) (sup : Nat := 0) (ifs : Array Nat := #[]) (fds : Array FieldInfo := #[]) : ClassFile where
  minorVersion := 0
  majorVersion := 65
  constantPool := pool
  accessFlags := fl
  thisClass := this
  superClass := sup
  interfaces := ifs
  fields := fds
  methods := ms
  attributes := attrs
def plain (name : String) (sup : Option ClassId) : Class where
  name := name
  kind := .ordinary
  loader := none
  accessFlags := 33
  super := sup
  interfaces := #[]
  cf := none
  fields := #[]
  methods := #[]
  instanceTypes := #[]
  staticTypes := #[]
  resolved := #[]
  callSites := []
  init := .initialized
  statics := none
  mirror := none

def pool0 : Array CpInfo := pool [(5, u "<init>"), (0, u "()V"), (1, .class_ 10), (1, u "java/lang/Object")] 113

def k0m0 : Method := { name := "<init>", desc := "()V", sig := { parameters := [], returnType := none }, accessFlags := 1, code := none }
/-- java/lang/Object -/
def k0 : Class := { plain "java/lang/Object" none with
  accessFlags := 33
  interfaces := #[]
  cf := some (fileOf pool0 8 #[] #[{ accessFlags := 1, nameIndex := 5, descriptorIndex := 6, attributes := #[] }] 33 0 #[] #[])
  fields := #[]
  methods := #[k0m0]
  instanceTypes := #[]
  staticTypes := #[]
  resolved := Array.replicate 124 none
  statics := none }

def pool1 : Array CpInfo := pool [(2, .class_ 4), (1, u "java/lang/Object"), (0, u "<init>"), (0, u "()V"), (0, .integer 2147483647), (0, .methodref 9 10), (0, .class_ 11), (0, .nameAndType 12 13), (0, u "com/example/parenform/parenform/Octets"), (0, u "isWhitespace"), (0, u "(I)Z"), (0, .methodref 15 16), (0, .class_ 17), (0, .nameAndType 18 13), (0, u "com/example/parenform/parenform/OctetsIsWhitespacePinLaw"), (0, u "expected"), (3, u "law")] 2

def k1m0 : Method := { name := "<init>", desc := "()V", sig := { parameters := [], returnType := none }, accessFlags := 2, code := none }
def k1c1 : Code := { maxStack := 2, maxLocals := 1, code := method_2_code, exceptionTable := #[], attributes := #[] }
def k1m1 : Method := { name := "expected", desc := "(I)Z", sig := { parameters := [.int], returnType := some .boolean }, accessFlags := 10, code := some k1c1 }
def k1c2 : Code := { maxStack := 2, maxLocals := 2, code := code, exceptionTable := #[], attributes := #[] }
def k1m2 : Method := { name := "law", desc := "(I)Z", sig := { parameters := [.int], returnType := some .boolean }, accessFlags := 9, code := some k1c2 }
/-- com/example/parenform/parenform/OctetsIsWhitespacePinLaw -/
def k1 : Class := { plain "com/example/parenform/parenform/OctetsIsWhitespacePinLaw" (some 0) with
  accessFlags := 49
  interfaces := #[]
  cf := some (fileOf pool1 15 #[] #[{ accessFlags := 2, nameIndex := 5, descriptorIndex := 6, attributes := #[] }, { accessFlags := 10, nameIndex := 18, descriptorIndex := 13, attributes := #[] }, { accessFlags := 9, nameIndex := 22, descriptorIndex := 13, attributes := #[] }] 49 2 #[] #[])
  fields := #[]
  methods := #[k1m0, k1m1, k1m2]
  instanceTypes := #[]
  staticTypes := #[]
  resolved := Array.replicate 25 none
  statics := none }

def pool2 : Array CpInfo := pool [(2, .class_ 4), (1, u "java/lang/Object"), (0, u "<init>"), (0, u "()V"), (0, .fieldref 8 9), (0, .class_ 10), (0, .nameAndType 11 12), (0, u "com/example/parenform/parenform/Octets"), (0, u "WHITESPACE"), (0, u "[Z"), (2, u "HEX_VALUES"), (0, u "[B"), (2, u "BASE64_VALUES"), (44, u "HEX_DIGITS"), (0, u "Ljava/lang/String;"), (1, u "BASE64_ALPHABET"), (2, u "isWhitespace"), (0, u "(I)Z")] 14

def k2m0 : Method := { name := "<init>", desc := "()V", sig := { parameters := [], returnType := none }, accessFlags := 2, code := none }
def k2c1 : Code := { maxStack := 2, maxLocals := 1, code := prog_17_method_2_code, exceptionTable := #[], attributes := #[] }
def k2m1 : Method := { name := "isWhitespace", desc := "(I)Z", sig := { parameters := [.int], returnType := some .boolean }, accessFlags := 8, code := some k2c1 }
/-- com/example/parenform/parenform/Octets -/
def k2 : Class := { plain "com/example/parenform/parenform/Octets" (some 0) with
  accessFlags := 48
  interfaces := #[]
  cf := some (fileOf pool2 8 #[] #[{ accessFlags := 2, nameIndex := 5, descriptorIndex := 6, attributes := #[] }, { accessFlags := 8, nameIndex := 70, descriptorIndex := 71, attributes := #[] }] 48 2 #[] #[{ accessFlags := 24, nameIndex := 64, descriptorIndex := 65, attributes := #[] }, { accessFlags := 24, nameIndex := 67, descriptorIndex := 65, attributes := #[] }, { accessFlags := 26, nameIndex := 11, descriptorIndex := 12, attributes := #[] }, { accessFlags := 26, nameIndex := 15, descriptorIndex := 16, attributes := #[] }, { accessFlags := 26, nameIndex := 19, descriptorIndex := 16, attributes := #[] }])
  fields := #[{ name := "HEX_DIGITS", type := (.object "java/lang/String"), accessFlags := 24, slot := 0, constantValue := 0 }, { name := "BASE64_ALPHABET", type := (.object "java/lang/String"), accessFlags := 24, slot := 1, constantValue := 0 }, { name := "WHITESPACE", type := (.array .boolean), accessFlags := 26, slot := 2, constantValue := 0 }, { name := "HEX_VALUES", type := (.array .byte), accessFlags := 26, slot := 3, constantValue := 0 }, { name := "BASE64_VALUES", type := (.array .byte), accessFlags := 26, slot := 4, constantValue := 0 }]
  methods := #[k2m0, k2m1]
  instanceTypes := #[]
  staticTypes := #[(.object "java/lang/String"), (.object "java/lang/String"), (.array .boolean), (.array .byte), (.array .byte)]
  resolved := Array.replicate 86 none
  statics := some 0 }

def pool3 : Array CpInfo := pool [(1, u "java/lang/Cloneable"), (0, .class_ 1), (0, u "java/lang/Object"), (0, .class_ 3)] 3

/-- java/lang/Cloneable -/
def k3 : Class := { plain "java/lang/Cloneable" (some 0) with
  accessFlags := 1537
  interfaces := #[]
  cf := some (fileOf pool3 2 #[] #[] 1537 4 #[] #[])
  fields := #[]
  methods := #[]
  instanceTypes := #[]
  staticTypes := #[]
  resolved := Array.replicate 8 none
  statics := none }

def pool4 : Array CpInfo := pool [(1, u "java/io/Serializable"), (0, .class_ 1), (0, u "java/lang/Object"), (0, .class_ 3)] 3

/-- java/io/Serializable -/
def k4 : Class := { plain "java/io/Serializable" (some 0) with
  accessFlags := 1537
  interfaces := #[]
  cf := some (fileOf pool4 2 #[] #[] 1537 4 #[] #[])
  fields := #[]
  methods := #[]
  instanceTypes := #[]
  staticTypes := #[]
  resolved := Array.replicate 8 none
  statics := none }

/-- the primitive boolean -/
def k5 : Class := { plain "boolean" none with kind := .primitive 'Z', accessFlags := 0x411 }
/-- [Z -/
def k6 : Class := { plain "[Z" (some 0) with kind := .array 5 .boolean, interfaces := #[3, 4], accessFlags := 1041 }

/-- the primitive byte -/
def k7 : Class := { plain "byte" none with kind := .primitive 'B', accessFlags := 0x411 }
/-- [B -/
def k8 : Class := { plain "[B" (some 0) with kind := .array 7 .byte, interfaces := #[3, 4], accessFlags := 1041 }

/-- the primitive int -/
def k9 : Class := { plain "int" none with kind := .primitive 'I', accessFlags := 0x411 }
/-- [I -/
def k10 : Class := { plain "[I" (some 0) with kind := .array 9 .int, interfaces := #[3, 4], accessFlags := 1041 }

def heap : Heap := #[{ cls := 2, slots := #[.null, .null, .ref 1, .null, .null], vm := .statics 2 },
  { cls := 6, slots := #[.int 0, .int 0, .int 0, .int 0, .int 0, .int 0, .int 0, .int 0, .int 0, .int 1, .int 1, .int 1, .int 1, .int 1, .int 0, .int 0, .int 0, .int 0, .int 0, .int 0, .int 0, .int 0, .int 0, .int 0, .int 0, .int 0, .int 0, .int 0, .int 0, .int 0, .int 0, .int 0, .int 1, .int 0, .int 0, .int 0, .int 0, .int 0, .int 0, .int 0, .int 0, .int 0, .int 0, .int 0, .int 0, .int 0, .int 0, .int 0, .int 0, .int 0, .int 0, .int 0, .int 0, .int 0, .int 0, .int 0, .int 0, .int 0, .int 0, .int 0, .int 0, .int 0, .int 0, .int 0, .int 0, .int 0, .int 0, .int 0, .int 0, .int 0, .int 0, .int 0, .int 0, .int 0, .int 0, .int 0, .int 0, .int 0, .int 0, .int 0, .int 0, .int 0, .int 0, .int 0, .int 0, .int 0, .int 0, .int 0, .int 0, .int 0, .int 0, .int 0, .int 0, .int 0, .int 0, .int 0, .int 0, .int 0, .int 0, .int 0, .int 0, .int 0, .int 0, .int 0, .int 0, .int 0, .int 0, .int 0, .int 0, .int 0, .int 0, .int 0, .int 0, .int 0, .int 0, .int 0, .int 0, .int 0, .int 0, .int 0, .int 0, .int 0, .int 0, .int 0, .int 0, .int 0, .int 0, .int 0, .int 0, .int 0, .int 0, .int 0, .int 0, .int 0, .int 0, .int 0, .int 0, .int 0, .int 0, .int 0, .int 0, .int 0, .int 0, .int 0, .int 0, .int 0, .int 0, .int 0, .int 0, .int 0, .int 0, .int 0, .int 0, .int 0, .int 0, .int 0, .int 0, .int 0, .int 0, .int 0, .int 0, .int 0, .int 0, .int 0, .int 0, .int 0, .int 0, .int 0, .int 0, .int 0, .int 0, .int 0, .int 0, .int 0, .int 0, .int 0, .int 0, .int 0, .int 0, .int 0, .int 0, .int 0, .int 0, .int 0, .int 0, .int 0, .int 0, .int 0, .int 0, .int 0, .int 0, .int 0, .int 0, .int 0, .int 0, .int 0, .int 0, .int 0, .int 0, .int 0, .int 0, .int 0, .int 0, .int 0, .int 0, .int 0, .int 0, .int 0, .int 0, .int 0, .int 0, .int 0, .int 0, .int 0, .int 0, .int 0, .int 0, .int 0, .int 0, .int 0, .int 0, .int 0, .int 0, .int 0, .int 0, .int 0, .int 0, .int 0, .int 0, .int 0, .int 0, .int 0, .int 0, .int 0, .int 0, .int 0, .int 0, .int 0, .int 0, .int 0, .int 0, .int 0, .int 0, .int 0, .int 0, .int 0, .int 0, .int 0, .int 0, .int 0, .int 0, .int 0, .int 0, .int 0, .int 0, .int 0], vm := .none }]
def classes : Array Class := #[k0, k1, k2, k3, k4, k5, k6, k7, k8, k9, k10]
def interned : List (Array UInt16 × Addr) := []
def slotsUsed : Nat := 261
def theMethod : MethodId := ⟨1, 2⟩
def args0 : Array Value := #[.int 5]
def aboutOver (below : List Frame) : State where
  vm := { classes := classes, interned := interned.toArray }
  heap := heap
  slotsUsed := slotsUsed
  threads := #[{ frames := .invoking theMethod args0 :: below }]
def below0 : List Frame := [.native { method := ⟨0, 0⟩, args := #[] }]
def about1 : State := aboutOver below0
def p0 : Program := .bare "" "" ""
def e0 : Env := launch0.env 0 0 0
theorem w_frames : about1.frames = Frame.invoking theMethod args0 :: below0 := rfl
set_option maxRecDepth 65536 in
theorem w_args : argsFit about1.vm theMethod args0 = true := by decide +kernel
set_option maxRecDepth 65536 in
theorem w_heap : heapFits about1 = true := by decide +kernel
set_option maxRecDepth 65536 in
theorem w_runnable : about1.curStatus? = some .runnable := by decide +kernel
set_option maxRecDepth 65536 in
theorem w_alone : about1.alone = true := by decide +kernel
set_option maxRecDepth 65536 in
theorem w_named : about1.methodNamed? x = some theMethod := by decide +kernel
set_option maxRecDepth 65536 in
theorem w_hears : about1.hears theMethod below0 = true := by decide +kernel
set_option maxRecDepth 65536 in
theorem w_ripe : about1.ripe theMethod args0 below0 = true := by decide +kernel
theorem w_running : about1.status = .running := rfl
set_option maxRecDepth 65536 in
theorem w_room : about1.hasRoom e0.platform room_1 = true :=
  launch0.hasRoom_least _ room_1 (by decide +kernel) (by decide +kernel) (by decide +kernel) (by decide +kernel) (by decide +kernel) (by decide +kernel)
theorem allAtoms_all (ts : List Jvm.Cond) (a : Array Jvm.Value) (st : Jvm.State) : (allAtoms ts).before a st = ts.all (fun c => c.before a st) := by
  induction ts with
  | nil => rfl
  | cons c t ih =>
    show (Jvm.Cond.and c (allAtoms t)).before a st = _
    rw [Jvm.Cond.before_and, ih, List.all_cons]
def words1 : List Jvm.Cond := Jvm.Cond.code x code maxLocals ret :: tables_1
/-- a 'code' word, met by the world's own term for the bytes: nothing is compared byte by byte -/
theorem code_word {y : MethodName} {bytes : ByteArray} {mx : Nat} {rt : Option FieldType} {a : Array Value} {s : State} {m : MethodId} {meth : Method} {c : Code} (h1 : s.methodNamed? y = some m) (h2 : s.vm.method? m = some meth) (h3 : meth.code = some c) (h4 : c.code = bytes)
    (h5 : (c.maxLocals == mx && c.exceptionTable.isEmpty && decide (c.maxStack ≤ mostOperands) && decide (meth.sig.returnType = rt) && !meth.locks && decide (parseMethodDescriptor y.desc = some meth.sig)) = true) : (Jvm.Cond.code y bytes mx rt).before a s = true := by
  simp only [Bool.and_eq_true, beq_iff_eq, Bool.not_eq_true', decide_eq_true_eq] at h5
  obtain ⟨⟨⟨⟨⟨g1, g2⟩, g3⟩, g4⟩, g5⟩, g6⟩ := h5
  simp [Cond.before, Cond.holds, Cond.value, h1, h2, h3, h4, g1, g2, g3, g4, g5, g6]
def isCode : Jvm.Cond → Bool
  | .code _ _ _ _ => true
  | _ => false
theorem all_split {L : List Jvm.Cond} {P : Jvm.Cond → Bool} (h1 : L.all (fun c => isCode c || P c) = true) (h2 : ∀ c ∈ L.filter isCode, P c = true) : L.all P = true := by
  refine List.all_eq_true.mpr fun c hc => ?_
  have h := List.all_eq_true.mp h1 c hc
  rcases Bool.eq_false_or_eq_true (isCode c) with hi | hi
  · exact h2 c (List.mem_filter.mpr ⟨hc, hi⟩)
  · simpa [hi] using h
set_option maxRecDepth 65536 in
theorem w_c0 : (Jvm.Cond.code x code maxLocals ret).before args0 about1 = true := code_word (m := ⟨1, 2⟩) (meth := k1m2) (c := k1c2) (by decide +kernel) rfl rfl rfl (by decide +kernel)
set_option maxRecDepth 65536 in
theorem w_c1 : (Jvm.Cond.code ({ cls := "com/example/parenform/parenform/Octets", name := "isWhitespace", desc := "(I)Z" } : Jvm.MethodName) prog_17_method_2_code (1 : Nat) (Option.some Jvm.ClassFile.FieldType.boolean)).before args0 about1 = true := code_word (m := ⟨2, 1⟩) (meth := k2m1) (c := k2c1) (by decide +kernel) rfl rfl rfl (by decide +kernel)
set_option maxRecDepth 65536 in
theorem w_c2 : (Jvm.Cond.code ({ cls := "com/example/parenform/parenform/OctetsIsWhitespacePinLaw", name := "expected", desc := "(I)Z" } : Jvm.MethodName) method_2_code (1 : Nat) (Option.some Jvm.ClassFile.FieldType.boolean)).before args0 about1 = true := code_word (m := ⟨1, 1⟩) (meth := k1m1) (c := k1c1) (by decide +kernel) rfl rfl rfl (by decide +kernel)
def codes1 : List Jvm.Cond := [Jvm.Cond.code x code maxLocals ret, Jvm.Cond.code ({ cls := "com/example/parenform/parenform/Octets", name := "isWhitespace", desc := "(I)Z" } : Jvm.MethodName) prog_17_method_2_code (1 : Nat) (Option.some Jvm.ClassFile.FieldType.boolean), Jvm.Cond.code ({ cls := "com/example/parenform/parenform/OctetsIsWhitespacePinLaw", name := "expected", desc := "(I)Z" } : Jvm.MethodName) method_2_code (1 : Nat) (Option.some Jvm.ClassFile.FieldType.boolean)]
set_option maxRecDepth 65536 in
theorem codes_eq : words1.filter isCode = codes1 := rfl
theorem w_codes : ∀ c ∈ words1.filter isCode, c.before args0 about1 = true := by
  rw [codes_eq]
  intro c hc
  simp only [codes1, List.mem_cons, List.not_mem_nil, or_false] at hc
  rcases hc with rfl | rfl | rfl
  · exact w_c0
  · exact w_c1
  · exact w_c2
set_option maxRecDepth 65536 in
theorem w_t1 : words1.all (fun c => isCode c || c.before args0 about1) = true := by decide +kernel
theorem w_tables : (allAtoms (Jvm.Cond.code x code maxLocals ret :: tables_1)).before args0 about1 = true := by
  rw [allAtoms_all]
  show words1.all (fun c => c.before args0 about1) = true
  refine all_split ?_ w_codes
  rw [w_t1]
set_option maxRecDepth 65536 in
theorem w_case : (Jvm.Cond.and given_1 narrow_1).before args0 about1 = true := by decide +kernel
theorem w_applies : (headSpec (Jvm.Cond.code x code maxLocals ret :: tables_1) room_1).applies x e0.platform about1 = true :=
  (Spec.applies_iff w_frames).mpr ⟨w_running, w_runnable, w_alone, w_named, w_hears, w_ripe, w_room, w_tables⟩
theorem atStart : AtStart classFile x code maxLocals ret World_1 tables_1 room_1 Calls_1 rest_1 Pre_1 launch0 p0 e0 about1 theMethod args0 below0 :=
  ⟨lists_1, trivial, launch0.admits_env _ _ _, launch0.least_env, fairChoices_fair.cas, fairChoices_fair.clock, w_frames, w_args, w_heap, w_applies, trivial, trivial, w_case⟩
end start1
theorem witness_1 : WitnessClaimed_1 := ⟨start1.p0, start1.e0, start1.about1, start1.theMethod, start1.args0, start1.below0, start1.atStart⟩
end Jvm.Pilot.@@N@@
