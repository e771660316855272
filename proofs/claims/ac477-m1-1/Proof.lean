import JvmDerived
import JvmDerived.Pilot.@@N@@Statement
import JvmDerived.Pilot.@@N@@Code
set_option linter.unusedVariables false
set_option linter.unusedSimpArgs false
@@BLOCK:NumsL.lean.txt@@
namespace Jvm.Pilot.@@N@@
open Jvm Jvm.ClassFile Sem Op Lib Jvm.Free Jvm.Stand Jvm.LawKit Jvm.RoadKit Bundle Jvm.Pilot.@@N@@.Jvm.D
section own_kit
variable {p : Program} {l : Launch} {e : Env} {R : Room} {s : State} {m : MethodId} {args : Array Value} {below : List Frame} {meth : Method} {c : Code} {T T' : State} {locs : List Loc} {cells slots : Nat}
/-- from the frame g over the state T the run comes to an end of which K speaks -/
def Go (p : Program) (e : Env) (below : List Frame) (T : State) (g : JFrame) (K : Outcome → State → Prop) : Prop :=
  ∃ s₂ o, Steps p.tables e below (T.setTop g) s₂ ∧ s₂.status = .running ∧ Ended s₂ below o ∧ K o s₂
def KQ (s : State) (Q : Option Value → Heap → List Loc → Prop) (k n : Nat) (o : Outcome) (U : State) : Prop :=
  ∃ v L, o = .returned v ∧ Q v U.heap L ∧ FrameEnd s o U L k n
theorem Go.of {g g' : JFrame} {K : Outcome → State → Prop} (h : ∀ t, Steps p.tables e below (T'.setTop g') t → Steps p.tables e below (T.setTop g) t) (k : Go p e below T' g' K) : Go p e below T g K := by
  obtain ⟨s₂, o, h1, h2⟩ := k
  exact ⟨s₂, o, h _ h1, h2⟩
theorem Go.cast {g g' : JFrame} {K : Outcome → State → Prop} (q : g = g') (k : Go p e below T g' K) : Go p e below T g K := q ▸ k
theorem Go.ret0 (X : Stand p l e R s m args below meth c T locs cells slots) (hx : p.tables.exec = Jvm.exec) (hret : meth.sig.returnType = none) (hlk : meth.locks = false) {pc : Nat} {Ls : Array Slot} {Q : Option Value → Heap → List Loc → Prop} {k n : Nat} {h : Heap}
    (hd : decode c.code pc = .ok (.return_, 1)) (eT : T.heap = h) (hk : cells ≤ k) (hn : slots ≤ n) (hq : Q none h locs) : Go p e below T (mkF m pc Ls []) (KQ s Q k n) := by
  obtain ⟨fs, hr, hrun, hended, hW, hsame⟩ := X.leave (v := none) (fun _ => rfl) hlk
  exact ⟨_, _, X.returnOut hx hret hd hr, hrun, hended, _, _, rfl, by show Q none T.heap _; rw [eT]; exact hq, ⟨_, rfl⟩, hW, hsame.mono hk hn⟩
theorem Go.retV (X : Stand p l e R s m args below meth c T locs cells slots) (hx : p.tables.exec = Jvm.exec) {t : FieldType} {w : Value} {i : Instr} {rest : List Value} (hret : meth.sig.returnType = some t) (hlk : meth.locks = false) {pc : Nat} {Ls : Array Slot} {Q : Option Value → Heap → List Loc → Prop} {k n : Nat} {h : Heap} (hn0 : narrow t w = w)
    (hi : (i = .ireturn ∧ (t = .int ∨ t = .boolean ∨ t = .byte ∨ t = .char ∨ t = .short) ∧ ∃ z, w = .int z) ∨ (i = .lreturn ∧ t = .long ∧ ∃ z, w = .long z) ∨ (i = .dreturn ∧ t = .double ∧ ∃ z, w = .double z) ∨ (i = .freturn ∧ t = .float ∧ ∃ z, w = .float z) ∨ (i = .areturn ∧ t.isReference = true ∧ w.isRef = true))
    (hd : decode c.code pc = .ok (i, 1)) (eT : T.heap = h) (hk : cells ≤ k) (hn : slots ≤ n) (hq : Q (some w) h locs) : Go p e below T (mkF m pc Ls (w :: rest)) (KQ s Q k n) := by
  obtain ⟨fs, hr, hrun, hended, hW, hsame⟩ := X.leave (v := some w) (fun h => by rw [hret] at h; cases h) hlk
  exact ⟨_, _, retOut X hx hret hn0 hi hd hr, hrun, hended, _, _, rfl, by show Q (some w) T.heap _; rw [eT]; exact hq, ⟨_, rfl⟩, hW, hsame.mono hk hn⟩
theorem Go.retI (X : Stand p l e R s m args below meth c T locs cells slots) (hx : p.tables.exec = Jvm.exec) {z : Int32} {rest : List Value} (hret : meth.sig.returnType = some .int) (hlk : meth.locks = false) {pc : Nat} {Ls : Array Slot} {Q : Option Value → Heap → List Loc → Prop} {k n : Nat} {h : Heap}
    (hd : decode c.code pc = .ok (.ireturn, 1)) (eT : T.heap = h) (hk : cells ≤ k) (hn : slots ≤ n) (hq : Q (some (.int z)) h locs) : Go p e below T (mkF m pc Ls (.int z :: rest)) (KQ s Q k n) :=
  Go.retV X hx hret hlk rfl (Or.inl ⟨rfl, Or.inl rfl, z, rfl⟩) hd eT hk hn hq
theorem Go.retJ (X : Stand p l e R s m args below meth c T locs cells slots) (hx : p.tables.exec = Jvm.exec) {z : Int64} {rest : List Value} (hret : meth.sig.returnType = some .long) (hlk : meth.locks = false) {pc : Nat} {Ls : Array Slot} {Q : Option Value → Heap → List Loc → Prop} {k n : Nat} {h : Heap}
    (hd : decode c.code pc = .ok (.lreturn, 1)) (eT : T.heap = h) (hk : cells ≤ k) (hn : slots ≤ n) (hq : Q (some (.long z)) h locs) : Go p e below T (mkF m pc Ls (.long z :: rest)) (KQ s Q k n) :=
  Go.retV X hx hret hlk rfl (Or.inr (Or.inl ⟨rfl, rfl, z, rfl⟩)) hd eT hk hn hq
theorem narrow_ref {t : FieldType} {w : Value} (ht : t.isReference = true) (hw : w.isRef = true) : narrow t w = w := by
  rcases ref_cases hw with rfl | ⟨z, rfl⟩ <;> cases t <;> first | rfl | (cases ht; done)
theorem Go.retA (X : Stand p l e R s m args below meth c T locs cells slots) (hx : p.tables.exec = Jvm.exec) {t : FieldType} {w : Value} {rest : List Value} (hret : meth.sig.returnType = some t) (hlk : meth.locks = false) {pc : Nat} {Ls : Array Slot} {Q : Option Value → Heap → List Loc → Prop} {k n : Nat} {h : Heap} (ht : t.isReference = true) (hw : w.isRef = true)
    (hd : decode c.code pc = .ok (.areturn, 1)) (eT : T.heap = h) (hk : cells ≤ k) (hn : slots ≤ n) (hq : Q (some w) h locs) : Go p e below T (mkF m pc Ls (w :: rest)) (KQ s Q k n) :=
  Go.retV X hx hret hlk (narrow_ref ht hw) (Or.inr (Or.inr (Or.inr (Or.inr ⟨rfl, ht, hw⟩)))) hd eT hk hn hq
theorem Go.retN (X : Stand p l e R s m args below meth c T locs cells slots) (hx : p.tables.exec = Jvm.exec) {t : FieldType} {z : Int32} {rest : List Value} (hret : meth.sig.returnType = some t) (hlk : meth.locks = false) {pc : Nat} {Ls : Array Slot} {Q : Option Value → Heap → List Loc → Prop} {k n : Nat} {h : Heap} (ht : t = .boolean ∨ t = .byte ∨ t = .char ∨ t = .short)
    (hd : decode c.code pc = .ok (.ireturn, 1)) (eT : T.heap = h) (hk : cells ≤ k) (hn : slots ≤ n) (hq : Q (some (.int (nar t z))) h locs) : Go p e below T (mkF m pc Ls (.int z :: rest)) (KQ s Q k n) := by
  obtain ⟨fs, hr, hrun, hended, hW, hsame⟩ := X.leave (v := some (.int (nar t z))) (fun h => by rw [hret] at h; cases h) hlk
  exact ⟨_, _, Jvm.RoadKit.retN X hx hret ht hd hr, hrun, hended, _, _, rfl, by show Q _ T.heap _; rw [eT]; exact hq, ⟨_, rfl⟩, hW, hsame.mono hk hn⟩
/-- the contract of one body, at the arguments as and the heap h0 -/
abbrev Ctr (l : Launch) (Z : State) (y : MethodName) (bytes : ByteArray) (mx : Nat) (rt : Option FieldType) (ws : List Jvm.Cond) (R : Room) (as : Array Value) (h0 : Heap) (Q : Option Value → Heap → List Loc → Prop) : Prop :=
  MetFree l y (head1 (Jvm.Cond.code y bytes mx rt :: ws) R) (fun a U => a = as ∧ Z.Warmed39 U.vm ∧ U.heap = h0) (fun _ _ _ _ _ => True) (fun _ U o U' => ∃ v L, o = .returned v ∧ Q v U'.heap L ∧ FrameEnd U o U' L R.cells R.slots)
theorem Ctr.intro {Z : State} {y : MethodName} {bytes : ByteArray} {mx : Nat} {rt : Option FieldType} {ws : List Jvm.Cond} {as : Array Value} {h0 : Heap} {Q : Option Value → Heap → List Loc → Prop} (hpl : plainFor y = true)
    (body : ∀ (p : Program) (e : Env) (s : State) (m : MethodId) (below : List Frame) (meth : Method) (c : Code) (s₁ : State), p.tables.exec = Jvm.exec → c.code = bytes → c.maxLocals = mx → s.vm.findClass y.cls = some m.cls → meth.name = y.name → meth.sig.returnType = rt → meth.locks = false → Z.Warmed39 s.vm →
      Stand p l e R s m as below meth c s₁ [] 0 0 → s₁.heap = h0 → Go p e below s₁ (entryFrame m as mx) (KQ s Q R.cells R.slots)) : Ctr l Z y bytes mx rt ws R as h0 Q := by
  refine MetFree.of_bodySF hpl hisR ?_
  intro p e s m args below meth c s₁ Bd hml0 hP hK
  obtain ⟨rfl, hZ, hh⟩ := hP
  obtain ⟨s₂, o, h1, h2, h3, h4⟩ := body p e s m below meth c s₁ Bd.exec Bd.bytes hml0 (findClass_of_methodNamed Bd.named) (name_of_methodNamed Bd.named Bd.method).1 Bd.returns Bd.notSynchronized hZ (Stand.of_body Bd) (by rw [← hh, Bd.state]; rfl)
  exact ⟨s₂, o, h1, h2, h3, h4⟩
end own_kit
theorem own_mask31 (x : Int32) : 0 ≤ (x &&& 2147483647).toInt ∧ (x &&& 2147483647).toInt < 2 ^ 31 := by
  have e : (x &&& 2147483647).toInt = x.toInt % 2 ^ 31 := Jvm.Kit.i32_mask x 2147483647 (k := 31) (by decide) (by decide)
  omega
theorem own_rem {x y : Int32} (hx : 0 ≤ x.toInt) (hy : 0 < y.toInt) : 0 ≤ (x % y).toInt ∧ (x % y).toInt < y.toInt := by
  have e : (x % y).toInt = x.toInt.tmod y.toInt := Int32.toInt_mod x y
  rw [Int.tmod_eq_emod_of_nonneg hx] at e
  have h1 := Int.emod_nonneg x.toInt (show y.toInt ≠ 0 by omega)
  have h2 := Int.emod_lt_of_pos x.toInt hy
  omega
theorem own_lt {a b : Int32} : a < b ↔ a.toInt < b.toInt := Int32.lt_iff_toInt_lt
theorem own_eq {a b : Int32} : a = b ↔ a.toInt = b.toInt := Int32.toInt_inj.symm
theorem own_or' {args : Array Value} {first s : State} {o : Option Outcome} {idx : List Nat} {G Y : Jvm.Cond} {P : Prop} [Decidable P] (h : (Jvm.Cond.or G Y).value args first o s idx = some true) (hG : G.value args first o s idx = some (decide P)) (hn : ¬ P) : Y.value args first o s idx = some true := by
  simpa [Cond.value, hG, hn] using h
theorem own_len {Z : State} {args : Array Value} {t : Term} {a : Addr} {cl : Cell} {ty : FieldType} {n : Int32} (ea : t.eval args Z none [] Z = some (.ref a)) (A : Arr Z Z.heap a cl ty) (h : (Term.length t).eval args Z none [] Z = some (.int n)) : cl.slots.size = n.toNatClampNeg ∧ ¬ n < 0 := by
  have ha := A.fin (Vm.Alike.refl _)
  by_cases p : cl.slots.size < 2 ^ 31
  · have e := (len_f ea ha p).symm.trans h
    have e2 : cl.slots.size.toInt32 = n := Value.int.inj (Option.some.inj e)
    have e3 := len_toInt p
    rw [e2] at e3
    refine ⟨by simp only [Int32.toNatClampNeg, e3]; rfl, by rw [Int32.lt_iff_toInt_lt, e3]; simp⟩
  · simp [Term.eval, ea, ha, p] at h
theorem own_at {Z : State} {args : Array Value} {t F : Term} {a : Addr} {cl : Cell} {ty : FieldType} {j y : Int32} (et : ∀ idx, t.eval args Z none idx Z = some (.ref a)) (A : Arr Z Z.heap a cl ty) (nn : ¬ j < 0) (hF : F.eval args Z none [j.toNatClampNeg] Z = some (.int y))
    (h : (Jvm.Cond.eq (.elem t (.index 0)) F).value args Z none Z [j.toNatClampNeg] = some true) : cl.slots[j.toNatClampNeg]? = some (.int y) :=
  (elem_f (et _) (idx_at nn) (A.fin (Vm.Alike.refl _)) nn).symm.trans (eqv_i hF h)
theorem own_nlt {a b : Int32} : ¬ a < b ↔ b.toInt ≤ a.toInt := by rw [own_lt]; omega
theorem own_le {a b : Int32} : a ≤ b ↔ a.toInt ≤ b.toInt := Int32.le_iff_toInt_le
theorem own_clamp {j n : Int32} {k : Nat} (h0 : ¬ j < 0) (h1 : j < n) (hk : k = n.toNatClampNeg) : j.toNatClampNeg < k := by
  rw [own_lt] at h0 h1; subst hk
  have : (0 : Int32).toInt = 0 := by decide
  simp only [Int32.toNatClampNeg]; omega

theorem km1 : (-1 : Int32).toInt = -1 := by decide
theorem k0 : (0 : Int32).toInt = 0 := by decide
theorem k1 : (1 : Int32).toInt = 1 := by decide
theorem k2 : (2 : Int32).toInt = 2 := by decide
theorem k3 : (3 : Int32).toInt = 3 := by decide
theorem k4 : (4 : Int32).toInt = 4 := by decide
theorem k5 : (5 : Int32).toInt = 5 := by decide
theorem k31 : (31 : Int32).toInt = 31 := by decide
theorem k961 : (961 : Int32).toInt = 961 := by decide
theorem k29791 : (29791 : Int32).toInt = 29791 := by decide
theorem k923521 : (923521 : Int32).toInt = 923521 := by decide

theorem own_4 {j : Int32} (h1 : ¬ j < 0) (h2 : j < 4) : j = 0 ∨ j = 1 ∨ j = 2 ∨ j = 3 := by
  simp only [own_lt, own_eq, km1, k0, k1, k2, k3, k4, k5, k31, k961, k29791, k923521] at *
  omega
theorem own_5 {j : Int32} (h1 : 0 ≤ j.toInt) (h2 : j.toInt ≤ 4) : j = 0 ∨ j = 1 ∨ j = 2 ∨ j = 3 ∨ j = 4 := by
  simp only [own_eq, km1, k0, k1, k2, k3, k4, k5, k31, k961, k29791, k923521]
  omega
def g4 (c0 c1 c2 c3 j : Int32) : Int32 := if j = 0 then c0 else if j = 1 then c1 else if j = 2 then c2 else c3
theorem own_open {Z : State} {h : Heap} {a : Addr} {k : ClassId} {c0 c1 c2 c3 : Int32} (V : Arv Z h a k .byte 4 [.int c0, .int c1, .int c2, .int c3] (.int 0)) :
    ∃ cl, Arr Z h a cl .byte ∧ cl.slots.size = (4 : Int32).toNatClampNeg ∧ ∀ j : Int32, ¬ j < 0 → j < 4 → cl.slots[j.toNatClampNeg]? = some (.int (g4 c0 c1 c2 c3 j)) := by
  obtain ⟨cl, A, -, Sz, -, H, -⟩ := V
  refine ⟨cl, A, Sz, ?_⟩
  intro j h1 h2
  rcases own_4 h1 h2 with rfl | rfl | rfl | rfl
  · exact H 0 (by rw [Sz]; decide)
  · exact H 1 (by rw [Sz]; decide)
  · exact H 2 (by rw [Sz]; decide)
  · exact H 3 (by rw [Sz]; decide)
def fP (x : Int32) : Int32 := if 0 < x then (if x = 1 then 31 else if x = 2 then 961 else if x = 3 then 29791 else 923521) else 1
def fTm (g : Int32 → Int32) (a n k : Int32) : Int32 := if k < n then g (a + k) * fP ((n - 1) - k) else 0
def fHh (g : Int32 → Int32) (a : Int32) : Nat → Int32
  | 0 => 1
  | n + 1 => 31 * fHh g a n + g (a + Int32.ofNat n)
theorem own_sum (g : Int32 → Int32) (a n : Int32) (h1 : 0 ≤ n.toInt) (h2 : n.toInt ≤ 4) : fHh g a n.toNatClampNeg = fP n + fTm g a n 0 + fTm g a n 1 + fTm g a n 2 + fTm g a n 3 := by
  rcases own_5 h1 h2 with rfl | rfl | rfl | rfl | rfl
  · show (1 : Int32) = 1 + 0 + 0 + 0 + 0
    decide
  · show 31 * (1 : Int32) + g (a + 0) = 31 + g (a + 0) * 1 + 0 + 0 + 0
    generalize g (a + 0) = x0; grind
  · show 31 * (31 * (1 : Int32) + g (a + 0)) + g (a + 1) = 961 + g (a + 0) * 31 + g (a + 1) * 1 + 0 + 0
    generalize g (a + 0) = x0; generalize g (a + 1) = x1; grind
  · show 31 * (31 * (31 * (1 : Int32) + g (a + 0)) + g (a + 1)) + g (a + 2) = 29791 + g (a + 0) * 961 + g (a + 1) * 31 + g (a + 2) * 1 + 0
    generalize g (a + 0) = x0; generalize g (a + 1) = x1; generalize g (a + 2) = x2; grind
  · show 31 * (31 * (31 * (31 * (1 : Int32) + g (a + 0)) + g (a + 1)) + g (a + 2)) + g (a + 3) = 923521 + g (a + 0) * 29791 + g (a + 1) * 961 + g (a + 2) * 31 + g (a + 3) * 1
    generalize g (a + 0) = x0; generalize g (a + 1) = x1; generalize g (a + 2) = x2; generalize g (a + 3) = x3; grind
theorem own_idx {a : Int32} {k : Nat} (h0 : 0 ≤ a.toInt) (h1 : a.toInt + k ≤ 4) : (a + Int32.ofNat k).toInt = a.toInt + k := by
  have e : (Int32.ofNat k).toInt = (k : Int) := Int32.toInt_ofNat_small (by omega)
  rw [Jvm.Kit.i32_add (by omega) (by omega), e]
theorem own_step (a : Int32) (k : Nat) : (a + Int32.ofNat k) + 1 = a + Int32.ofNat (k + 1) := by
  rw [Int32.ofNat_add]; generalize Int32.ofNat k = x; show a + x + 1 = a + (x + 1); grind

theorem d1_0 : decode prog_95_method_1_code 0 = .ok (.aload_n 0, 1) := by decide +kernel
theorem d1_1 : decode prog_95_method_1_code 1 = .ok (.invokespecial 1, 3) := by decide +kernel
theorem d1_4 : decode prog_95_method_1_code 4 = .ok (.aload_n 0, 1) := by decide +kernel
theorem d1_5 : decode prog_95_method_1_code 5 = .ok (.aload_n 1, 1) := by decide +kernel
theorem d1_6 : decode prog_95_method_1_code 6 = .ok (.putfield 7, 3) := by decide +kernel
theorem d1_9 : decode prog_95_method_1_code 9 = .ok (.aload_n 0, 1) := by decide +kernel
theorem d1_10 : decode prog_95_method_1_code 10 = .ok (.iload_n 2, 1) := by decide +kernel
theorem d1_11 : decode prog_95_method_1_code 11 = .ok (.putfield 13, 3) := by decide +kernel
theorem d1_14 : decode prog_95_method_1_code 14 = .ok (.aload_n 0, 1) := by decide +kernel
theorem d1_15 : decode prog_95_method_1_code 15 = .ok (.iload_n 3, 1) := by decide +kernel
theorem d1_16 : decode prog_95_method_1_code 16 = .ok (.putfield 17, 3) := by decide +kernel
theorem d1_19 : decode prog_95_method_1_code 19 = .ok (.return_, 1) := by decide +kernel
theorem own_pn0 : plainName "com/example/cascadex/cascadex/Utf8" = true := by first | (simp [plainName, overriddenIn]; done) | decide +kernel
theorem own_ef_rm1 (m : MethodId) (x0 : Addr) (x1 : Addr) (x2 : Int32) (x3 : Int32) : entryFrame m #[(.ref x0), (.ref x1), (.int x2), (.int x3)] 4 = mkF m 0 #[.val (.ref x0), .val (.ref x1), .val (.int x2), .val (.int x3)] [] := by first | (simp [entryFrame, mkF, argsToLocals, Value.category]; done) | rfl
def Q_rm1 (Z : State) (x0 x1 : Addr) (x2 x3 : Int32) (h0 : Heap) (n0 : Nat) : Option Value → Heap → List Loc → Prop := fun v h L => v = none ∧ Fr n0 L ∧ Keep h0 h [x0] ∧ Exa Z h x0 "com/example/cascadex/cascadex/Utf8" ∧ Fld Z h x0 "com/example/cascadex/cascadex/Utf8" "bytes" "[B" (.ref x1) ∧ Fld Z h x0 "com/example/cascadex/cascadex/Utf8" "start" "I" (.int x2) ∧ Fld Z h x0 "com/example/cascadex/cascadex/Utf8" "end" "I" (.int x3) ∧ Fld Z h x0 "com/example/cascadex/cascadex/Utf8" "hash" "I" (.int 0)
set_option maxRecDepth 65536 in
set_option maxHeartbeats 40000000 in
theorem rm1 (l : Launch) (Z : State) (a0 : Array Value) (hw : ∀ d ∈ tables_1, d.before a0 Z = true) (ws : List Jvm.Cond) (x0 x1 : Addr) (x2 x3 : Int32) (h0 : Heap) (n0 : Nat) (Z0 : n0 ≤ h0.size) (g0 : n0 ≤ x0) (E_x0 : Exa Z h0 x0 "com/example/cascadex/cascadex/Utf8") (F_bytes : Fld Z h0 x0 "com/example/cascadex/cascadex/Utf8" "bytes" "[B" .null) (F_start : Fld Z h0 x0 "com/example/cascadex/cascadex/Utf8" "start" "I" (.int 0)) (F_end : Fld Z h0 x0 "com/example/cascadex/cascadex/Utf8" "end" "I" (.int 0)) (F_hash : Fld Z h0 x0 "com/example/cascadex/cascadex/Utf8" "hash" "I" (.int 0)) :
    Ctr l Z (⟨"com/example/cascadex/cascadex/Utf8", "<init>", "([BII)V"⟩ : MethodName) prog_95_method_1_code 4 none ws ({ frames := 1, cells := 0, slots := 0, locals := 12 } : Room) #[(.ref x0), (.ref x1), (.int x2), (.int x3)] h0 (Q_rm1 Z x0 x1 x2 x3 h0 n0) := by
  refine Ctr.intro (plainFor_of_name own_pn0) ?_
  intro p e s m below meth c s₁ hx hby hml hown hnm hret hlk hZ X0 e0
  have hown : s.vm.findClass "com/example/cascadex/cascadex/Utf8" = some m.cls := hown
  have hml : c.maxLocals = 4 := hml
  have N0 := Fr.nil n0
  refine Go.cast (own_ef_rm1 m x0 x1 x2 x3) ?_
  have KK := Keep.refl h0 [x0]
  show Go p e below s₁ (mkF m 0 #[.val (.ref x0), .val (.ref x1), .val (.int x2), .val (.int x3)] []) _
  refine Go.of (fun _ k => XS.aloadN X0.here hx rfl (hb hby d1_0) rfl rfl  k) ?_
  show Go p e below s₁ (mkF m 1 #[.val (.ref x0), .val (.ref x1), .val (.int x2), .val (.int x3)] [(.ref x0)]) _
  obtain ⟨T1, X1, e1, st1⟩ := initO X0 hx hZ hown (hw _ (List.mem_of_getElem? (i := 8) rfl)) (hw _ (List.mem_of_getElem? (i := 9) rfl)) (hw _ (List.mem_of_getElem? (i := 10) rfl)) e0 (g := (mkF m 1 #[.val (.ref x0), .val (.ref x1), .val (.int x2), .val (.int x3)] [(.ref x0)])) rfl (by rw [hml]; rfl) rfl (hb hby d1_1) (by decide) (W := 0) (by show 2 * 0 + _ ≤ _; exact Nat.le_of_eq rfl) (by decide)
  refine Go.of (fun _ k => st1 _ k) ?_
  show Go p e below T1 (mkF m 4 #[.val (.ref x0), .val (.ref x1), .val (.int x2), .val (.int x3)] []) _
  refine Go.of (fun _ k => XS.aloadN X1.here hx rfl (hb hby d1_4) rfl rfl  k) ?_
  show Go p e below T1 (mkF m 5 #[.val (.ref x0), .val (.ref x1), .val (.int x2), .val (.int x3)] [(.ref x0)]) _
  refine Go.of (fun _ k => XS.aloadN X1.here hx rfl (hb hby d1_5) rfl rfl  k) ?_
  show Go p e below T1 (mkF m 6 #[.val (.ref x0), .val (.ref x1), .val (.int x2), .val (.int x3)] [(.ref x1), (.ref x0)]) _
  obtain ⟨T2, h2, X2, e2, W2, st2⟩ := putF X1 hx hZ hown (host := "") (Or.inl (hw _ (List.mem_of_getElem? (i := 11) rfl))) Via.refl e1 F_bytes E_x0 (Or.inr ⟨(hw _ (List.mem_of_getElem? (i := 12) rfl)), rfl, hnm⟩) (hw _ (List.mem_of_getElem? (i := 3) rfl)) (ty := (.array .byte)) (by decide) rfl rfl (g := (mkF m 6 #[.val (.ref x0), .val (.ref x1), .val (.int x2), .val (.int x3)] [(.ref x1), (.ref x0)])) rfl rfl (hb hby d1_6)
  have N2 := Fr.snoc X2 N0 g0
  have F_bytes := F_bytes.same W2
  have KK := KK.wr W2 (Or.inl (List.mem_of_getElem? (i := 0) rfl))
  have E_x0 := E_x0.wr W2
  have F_start := F_start.other W2 (Or.inr (slot_ne (Or.inr (hw _ (List.mem_of_getElem? (i := 14) rfl))) (Or.inr (hw _ (List.mem_of_getElem? (i := 12) rfl))) (by decide) (t := .int) (t' := (.array .byte)) (by decide) (by decide)))
  have F_end := F_end.other W2 (Or.inr (slot_ne (Or.inr (hw _ (List.mem_of_getElem? (i := 16) rfl))) (Or.inr (hw _ (List.mem_of_getElem? (i := 12) rfl))) (by decide) (t := .int) (t' := (.array .byte)) (by decide) (by decide)))
  have F_hash := F_hash.other W2 (Or.inr (slot_ne (Or.inl (hw _ (List.mem_of_getElem? (i := 30) rfl))) (Or.inr (hw _ (List.mem_of_getElem? (i := 12) rfl))) (by decide) (t := .int) (t' := (.array .byte)) (by decide) (by decide)))
  refine Go.of (fun _ k => st2 _ k) ?_
  show Go p e below T2 (mkF m 9 #[.val (.ref x0), .val (.ref x1), .val (.int x2), .val (.int x3)] []) _
  refine Go.of (fun _ k => XS.aloadN X2.here hx rfl (hb hby d1_9) rfl rfl  k) ?_
  show Go p e below T2 (mkF m 10 #[.val (.ref x0), .val (.ref x1), .val (.int x2), .val (.int x3)] [(.ref x0)]) _
  refine Go.of (fun _ k => XS.iloadN X2.here hx rfl (hb hby d1_10) rfl  k) ?_
  show Go p e below T2 (mkF m 11 #[.val (.ref x0), .val (.ref x1), .val (.int x2), .val (.int x3)] [(.int x2), (.ref x0)]) _
  obtain ⟨T3, h3, X3, e3, W3, st3⟩ := putF X2 hx hZ hown (host := "") (Or.inl (hw _ (List.mem_of_getElem? (i := 13) rfl))) Via.refl e2 F_start E_x0 (Or.inr ⟨(hw _ (List.mem_of_getElem? (i := 14) rfl)), rfl, hnm⟩) (hw _ (List.mem_of_getElem? (i := 3) rfl)) (ty := .int) (by decide) rfl rfl (g := (mkF m 11 #[.val (.ref x0), .val (.ref x1), .val (.int x2), .val (.int x3)] [(.int x2), (.ref x0)])) rfl rfl (hb hby d1_11)
  have N3 := Fr.snoc X3 N2 g0
  have F_start := F_start.same W3
  have KK := KK.wr W3 (Or.inl (List.mem_of_getElem? (i := 0) rfl))
  have E_x0 := E_x0.wr W3
  have F_bytes := F_bytes.other W3 (Or.inr (slot_ne (Or.inr (hw _ (List.mem_of_getElem? (i := 12) rfl))) (Or.inr (hw _ (List.mem_of_getElem? (i := 14) rfl))) (by decide) (t := (.array .byte)) (t' := .int) (by decide) (by decide)))
  have F_end := F_end.other W3 (Or.inr (slot_ne (Or.inr (hw _ (List.mem_of_getElem? (i := 16) rfl))) (Or.inr (hw _ (List.mem_of_getElem? (i := 14) rfl))) (by decide) (t := .int) (t' := .int) (by decide) (by decide)))
  have F_hash := F_hash.other W3 (Or.inr (slot_ne (Or.inl (hw _ (List.mem_of_getElem? (i := 30) rfl))) (Or.inr (hw _ (List.mem_of_getElem? (i := 14) rfl))) (by decide) (t := .int) (t' := .int) (by decide) (by decide)))
  refine Go.of (fun _ k => st3 _ k) ?_
  show Go p e below T3 (mkF m 14 #[.val (.ref x0), .val (.ref x1), .val (.int x2), .val (.int x3)] []) _
  refine Go.of (fun _ k => XS.aloadN X3.here hx rfl (hb hby d1_14) rfl rfl  k) ?_
  show Go p e below T3 (mkF m 15 #[.val (.ref x0), .val (.ref x1), .val (.int x2), .val (.int x3)] [(.ref x0)]) _
  refine Go.of (fun _ k => XS.iloadN X3.here hx rfl (hb hby d1_15) rfl  k) ?_
  show Go p e below T3 (mkF m 16 #[.val (.ref x0), .val (.ref x1), .val (.int x2), .val (.int x3)] [(.int x3), (.ref x0)]) _
  obtain ⟨T4, h4, X4, e4, W4, st4⟩ := putF X3 hx hZ hown (host := "") (Or.inl (hw _ (List.mem_of_getElem? (i := 15) rfl))) Via.refl e3 F_end E_x0 (Or.inr ⟨(hw _ (List.mem_of_getElem? (i := 16) rfl)), rfl, hnm⟩) (hw _ (List.mem_of_getElem? (i := 3) rfl)) (ty := .int) (by decide) rfl rfl (g := (mkF m 16 #[.val (.ref x0), .val (.ref x1), .val (.int x2), .val (.int x3)] [(.int x3), (.ref x0)])) rfl rfl (hb hby d1_16)
  have N4 := Fr.snoc X4 N3 g0
  have F_end := F_end.same W4
  have KK := KK.wr W4 (Or.inl (List.mem_of_getElem? (i := 0) rfl))
  have E_x0 := E_x0.wr W4
  have F_bytes := F_bytes.other W4 (Or.inr (slot_ne (Or.inr (hw _ (List.mem_of_getElem? (i := 12) rfl))) (Or.inr (hw _ (List.mem_of_getElem? (i := 16) rfl))) (by decide) (t := (.array .byte)) (t' := .int) (by decide) (by decide)))
  have F_start := F_start.other W4 (Or.inr (slot_ne (Or.inr (hw _ (List.mem_of_getElem? (i := 14) rfl))) (Or.inr (hw _ (List.mem_of_getElem? (i := 16) rfl))) (by decide) (t := .int) (t' := .int) (by decide) (by decide)))
  have F_hash := F_hash.other W4 (Or.inr (slot_ne (Or.inl (hw _ (List.mem_of_getElem? (i := 30) rfl))) (Or.inr (hw _ (List.mem_of_getElem? (i := 16) rfl))) (by decide) (t := .int) (t' := .int) (by decide) (by decide)))
  refine Go.of (fun _ k => st4 _ k) ?_
  show Go p e below T4 (mkF m 19 #[.val (.ref x0), .val (.ref x1), .val (.int x2), .val (.int x3)] []) _
  refine Go.ret0 X4 hx hret hlk (hb hby d1_19) e4 (by decide) (by decide) ?_
  exact ⟨rfl, N4, KK, E_x0, F_bytes, F_start, F_end, F_hash⟩
theorem d3_0 : decode method_3_code 0 = .ok (.iload_n 0, 1) := by decide +kernel
theorem d3_1 : decode method_3_code 1 = .ok (.ifCond .gt 5, 3) := by decide +kernel
theorem d3_6 : decode method_3_code 6 = .ok (.iload_n 0, 1) := by decide +kernel
theorem d3_7 : decode method_3_code 7 = .ok (.iconst 1, 1) := by decide +kernel
theorem d3_8 : decode method_3_code 8 = .ok (.if_icmp .ne 6, 3) := by decide +kernel
theorem d3_11 : decode method_3_code 11 = .ok (.bipush 31, 2) := by decide +kernel
theorem d3_13 : decode method_3_code 13 = .ok (.ireturn, 1) := by decide +kernel
theorem d3_14 : decode method_3_code 14 = .ok (.iload_n 0, 1) := by decide +kernel
theorem d3_15 : decode method_3_code 15 = .ok (.iconst 2, 1) := by decide +kernel
theorem d3_16 : decode method_3_code 16 = .ok (.if_icmp .ne 7, 3) := by decide +kernel
theorem d3_19 : decode method_3_code 19 = .ok (.sipush 961, 3) := by decide +kernel
theorem d3_22 : decode method_3_code 22 = .ok (.ireturn, 1) := by decide +kernel
theorem d3_23 : decode method_3_code 23 = .ok (.iload_n 0, 1) := by decide +kernel
theorem d3_24 : decode method_3_code 24 = .ok (.iconst 3, 1) := by decide +kernel
theorem d3_25 : decode method_3_code 25 = .ok (.if_icmp .ne 7, 3) := by decide +kernel
theorem d3_28 : decode method_3_code 28 = .ok (.sipush 29791, 3) := by decide +kernel
theorem d3_31 : decode method_3_code 31 = .ok (.ireturn, 1) := by decide +kernel
theorem d3_32 : decode method_3_code 32 = .ok (.ldc 27, 2) := by decide +kernel
theorem d3_34 : decode method_3_code 34 = .ok (.ireturn, 1) := by decide +kernel
theorem d3_4 : decode method_3_code 4 = .ok (.iconst 1, 1) := by decide +kernel
theorem d3_5 : decode method_3_code 5 = .ok (.ireturn, 1) := by decide +kernel
theorem own_pn1 : plainName "com/example/cascadex/cascadex/Utf8HashCodePinLaw" = true := by first | (simp [plainName, overriddenIn]; done) | decide +kernel
theorem own_ef_rm3 (m : MethodId) (x0 : Int32) : entryFrame m #[(.int x0)] 1 = mkF m 0 #[.val (.int x0)] [] := by first | (simp [entryFrame, mkF, argsToLocals, Value.category]; done) | rfl
def Q_rm3 (Z : State) (x0 : Int32) (h0 : Heap) (n0 : Nat) : Option Value → Heap → List Loc → Prop := fun v h L => v = some (.int (fP x0)) ∧ Fr n0 L ∧ h = h0
set_option maxRecDepth 65536 in
set_option maxHeartbeats 40000000 in
theorem rm3 (l : Launch) (Z : State) (a0 : Array Value) (hw : ∀ d ∈ tables_1, d.before a0 Z = true) (ws : List Jvm.Cond) (x0 : Int32) (h0 : Heap) (n0 : Nat) (Z0 : n0 ≤ h0.size)  :
    Ctr l Z (⟨"com/example/cascadex/cascadex/Utf8HashCodePinLaw", "pow31", "(I)I"⟩ : MethodName) method_3_code 1 (some .int) ws ({ frames := 0, cells := 0, slots := 0, locals := 0 } : Room) #[(.int x0)] h0 (Q_rm3 Z x0 h0 n0) := by
  refine Ctr.intro (plainFor_of_name own_pn1) ?_
  intro p e s m below meth c s₁ hx hby hml hown hnm hret hlk hZ X0 e0
  have hown : s.vm.findClass "com/example/cascadex/cascadex/Utf8HashCodePinLaw" = some m.cls := hown
  have hml : c.maxLocals = 1 := hml
  have N0 := Fr.nil n0
  refine Go.cast (own_ef_rm3 m x0) ?_
  show Go p e below s₁ (mkF m 0 #[.val (.int x0)] []) _
  refine Go.of (fun _ k => XS.iloadN X0.here hx rfl (hb hby d3_0) rfl  k) ?_
  show Go p e below s₁ (mkF m 1 #[.val (.int x0)] [(.int x0)]) _
  by_cases hc1_0 : (0 : Int32) < x0
  · refine Go.of (fun _ k => XS.ifYes X0.here hx rfl (pc0 := 1) (pc' := 6) rfl (hb hby d3_1) rfl ((if0 _ _).trans (tlt hc1_0).2.2.1) (by decide) (by decide) k) ?_
    show Go p e below s₁ (mkF m 6 #[.val (.int x0)] []) _
    refine Go.of (fun _ k => XS.iloadN X0.here hx rfl (hb hby d3_6) rfl  k) ?_
    show Go p e below s₁ (mkF m 7 #[.val (.int x0)] [(.int x0)]) _
    refine Go.of (fun _ k => XS.iconst X0.here hx rfl (hb hby d3_7) k) ?_
    show Go p e below s₁ (mkF m 8 #[.val (.int x0)] [(.int (1 : Int32)), (.int x0)]) _
    by_cases hc8_1 : x0 = (1 : Int32)
    · refine Go.of (fun _ k => XS.icmpNo X0.here hx rfl (hb hby d3_8) rfl (teq hc8_1).2 k) ?_
      show Go p e below s₁ (mkF m 11 #[.val (.int x0)] []) _
      refine Go.of (fun _ k => XS.bipush X0.here hx rfl (hb hby d3_11) k) ?_
      show Go p e below s₁ (mkF m 13 #[.val (.int x0)] [(.int (31 : Int32))]) _
      refine Go.retI X0 hx hret hlk (hb hby d3_13) e0 (by decide) (by decide) ?_
      exact ⟨by simp [fP, *], N0, rfl⟩
    · refine Go.of (fun _ k => XS.icmpYes X0.here hx rfl (pc0 := 8) (pc' := 14) rfl (hb hby d3_8) rfl (feq hc8_1).2 (by decide) (by decide) k) ?_
      show Go p e below s₁ (mkF m 14 #[.val (.int x0)] []) _
      refine Go.of (fun _ k => XS.iloadN X0.here hx rfl (hb hby d3_14) rfl  k) ?_
      show Go p e below s₁ (mkF m 15 #[.val (.int x0)] [(.int x0)]) _
      refine Go.of (fun _ k => XS.iconst X0.here hx rfl (hb hby d3_15) k) ?_
      show Go p e below s₁ (mkF m 16 #[.val (.int x0)] [(.int (2 : Int32)), (.int x0)]) _
      by_cases hc16_2 : x0 = (2 : Int32)
      · refine Go.of (fun _ k => XS.icmpNo X0.here hx rfl (hb hby d3_16) rfl (teq hc16_2).2 k) ?_
        show Go p e below s₁ (mkF m 19 #[.val (.int x0)] []) _
        refine Go.of (fun _ k => XS.sipush X0.here hx rfl (hb hby d3_19) k) ?_
        show Go p e below s₁ (mkF m 22 #[.val (.int x0)] [(.int (961 : Int32))]) _
        refine Go.retI X0 hx hret hlk (hb hby d3_22) e0 (by decide) (by decide) ?_
        exact ⟨by simp [fP, *], N0, rfl⟩
      · refine Go.of (fun _ k => XS.icmpYes X0.here hx rfl (pc0 := 16) (pc' := 23) rfl (hb hby d3_16) rfl (feq hc16_2).2 (by decide) (by decide) k) ?_
        show Go p e below s₁ (mkF m 23 #[.val (.int x0)] []) _
        refine Go.of (fun _ k => XS.iloadN X0.here hx rfl (hb hby d3_23) rfl  k) ?_
        show Go p e below s₁ (mkF m 24 #[.val (.int x0)] [(.int x0)]) _
        refine Go.of (fun _ k => XS.iconst X0.here hx rfl (hb hby d3_24) k) ?_
        show Go p e below s₁ (mkF m 25 #[.val (.int x0)] [(.int (3 : Int32)), (.int x0)]) _
        by_cases hc25_3 : x0 = (3 : Int32)
        · refine Go.of (fun _ k => XS.icmpNo X0.here hx rfl (hb hby d3_25) rfl (teq hc25_3).2 k) ?_
          show Go p e below s₁ (mkF m 28 #[.val (.int x0)] []) _
          refine Go.of (fun _ k => XS.sipush X0.here hx rfl (hb hby d3_28) k) ?_
          show Go p e below s₁ (mkF m 31 #[.val (.int x0)] [(.int (29791 : Int32))]) _
          refine Go.retI X0 hx hret hlk (hb hby d3_31) e0 (by decide) (by decide) ?_
          exact ⟨by simp [fP, *], N0, rfl⟩
        · refine Go.of (fun _ k => XS.icmpYes X0.here hx rfl (pc0 := 25) (pc' := 32) rfl (hb hby d3_25) rfl (feq hc25_3).2 (by decide) (by decide) k) ?_
          show Go p e below s₁ (mkF m 32 #[.val (.int x0)] []) _
          refine Go.of (fun _ k => X0.ldcInt hx hown (mvT hZ (hw _ (List.mem_of_getElem? (i := 31) rfl))) (g := (mkF m 32 #[.val (.int x0)] [])) rfl (hb hby d3_32) _ k) ?_
          show Go p e below s₁ (mkF m 34 #[.val (.int x0)] [(.int (923521 : Int32))]) _
          refine Go.retI X0 hx hret hlk (hb hby d3_34) e0 (by decide) (by decide) ?_
          exact ⟨by simp [fP, *], N0, rfl⟩
  · refine Go.of (fun _ k => XS.ifNo X0.here hx rfl (hb hby d3_1) rfl ((if0 _ _).trans (flt hc1_0).2.2.1) k) ?_
    show Go p e below s₁ (mkF m 4 #[.val (.int x0)] []) _
    refine Go.of (fun _ k => XS.iconst X0.here hx rfl (hb hby d3_4) k) ?_
    show Go p e below s₁ (mkF m 5 #[.val (.int x0)] [(.int (1 : Int32))]) _
    refine Go.retI X0 hx hret hlk (hb hby d3_5) e0 (by decide) (by decide) ?_
    exact ⟨by simp [fP, *], N0, rfl⟩
theorem d4_0 : decode method_4_code 0 = .ok (.iload_n 3, 1) := by decide +kernel
theorem d4_1 : decode method_4_code 1 = .ok (.iload_n 2, 1) := by decide +kernel
theorem d4_2 : decode method_4_code 2 = .ok (.if_icmp .ge 18, 3) := by decide +kernel
theorem d4_5 : decode method_4_code 5 = .ok (.aload_n 0, 1) := by decide +kernel
theorem d4_6 : decode method_4_code 6 = .ok (.iload_n 1, 1) := by decide +kernel
theorem d4_7 : decode method_4_code 7 = .ok (.iload_n 3, 1) := by decide +kernel
theorem d4_8 : decode method_4_code 8 = .ok (.iadd, 1) := by decide +kernel
theorem d4_9 : decode method_4_code 9 = .ok (.baload, 1) := by decide +kernel
theorem d4_10 : decode method_4_code 10 = .ok (.iload_n 2, 1) := by decide +kernel
theorem d4_11 : decode method_4_code 11 = .ok (.iconst 1, 1) := by decide +kernel
theorem d4_12 : decode method_4_code 12 = .ok (.isub, 1) := by decide +kernel
theorem d4_13 : decode method_4_code 13 = .ok (.iload_n 3, 1) := by decide +kernel
theorem d4_14 : decode method_4_code 14 = .ok (.isub, 1) := by decide +kernel
theorem d4_15 : decode method_4_code 15 = .ok (.invokestatic 13, 3) := by decide +kernel
theorem own_pd0 : parseMethodDescriptor "(I)I" = some ⟨[.int], some .int⟩ := by decide +kernel
theorem d4_18 : decode method_4_code 18 = .ok (.imul, 1) := by decide +kernel
theorem d4_19 : decode method_4_code 19 = .ok (.ireturn, 1) := by decide +kernel
theorem d4_20 : decode method_4_code 20 = .ok (.iconst 0, 1) := by decide +kernel
theorem d4_21 : decode method_4_code 21 = .ok (.ireturn, 1) := by decide +kernel
theorem own_ef_rm4 (m : MethodId) (aW : Addr) (x1 : Int32) (x2 : Int32) (x3 : Int32) : entryFrame m #[(.ref aW), (.int x1), (.int x2), (.int x3)] 4 = mkF m 0 #[.val (.ref aW), .val (.int x1), .val (.int x2), .val (.int x3)] [] := by first | (simp [entryFrame, mkF, argsToLocals, Value.category]; done) | rfl
def Q_rm4 (Z : State) (aW : Addr) (x1 x2 x3 : Int32) (c0 c1 c2 c3 : Int32) (kA : ClassId) (h0 : Heap) (n0 : Nat) : Option Value → Heap → List Loc → Prop := fun v h L => v = some (.int (fTm (g4 c0 c1 c2 c3) x1 x2 x3)) ∧ Fr n0 L ∧ h = h0
set_option maxRecDepth 65536 in
set_option maxHeartbeats 40000000 in
theorem rm4 (l : Launch) (Z : State) (a0 : Array Value) (hw : ∀ d ∈ tables_1, d.before a0 Z = true) (ws : List Jvm.Cond) (aW : Addr) (x1 x2 x3 : Int32) (c0 c1 c2 c3 : Int32) (kA : ClassId) (h0 : Heap) (n0 : Nat) (Z0 : n0 ≤ h0.size) (V_b : Arv Z h0 aW kA .byte 4 [.int c0, .int c1, .int c2, .int c3] (.int 0)) (hin : x3 < x2 → ¬ (x1 + x3) < 0 ∧ (x1 + x3) < 4) :
    Ctr l Z (⟨"com/example/cascadex/cascadex/Utf8HashCodePinLaw", "term", "([BIII)I"⟩ : MethodName) method_4_code 4 (some .int) ws ({ frames := 1, cells := 0, slots := 0, locals := 13 } : Room) #[(.ref aW), (.int x1), (.int x2), (.int x3)] h0 (Q_rm4 Z aW x1 x2 x3 c0 c1 c2 c3 kA h0 n0) := by
  refine Ctr.intro (plainFor_of_name own_pn1) ?_
  intro p e s m below meth c s₁ hx hby hml hown hnm hret hlk hZ X0 e0
  have hown : s.vm.findClass "com/example/cascadex/cascadex/Utf8HashCodePinLaw" = some m.cls := hown
  have hml : c.maxLocals = 4 := hml
  have N0 := Fr.nil n0
  refine Go.cast (own_ef_rm4 m aW x1 x2 x3) ?_
  obtain ⟨cl, A, Sz, Hat⟩ := own_open V_b
  show Go p e below s₁ (mkF m 0 #[.val (.ref aW), .val (.int x1), .val (.int x2), .val (.int x3)] []) _
  refine Go.of (fun _ k => XS.iloadN X0.here hx rfl (hb hby d4_0) rfl  k) ?_
  show Go p e below s₁ (mkF m 1 #[.val (.ref aW), .val (.int x1), .val (.int x2), .val (.int x3)] [(.int x3)]) _
  refine Go.of (fun _ k => XS.iloadN X0.here hx rfl (hb hby d4_1) rfl  k) ?_
  show Go p e below s₁ (mkF m 2 #[.val (.ref aW), .val (.int x1), .val (.int x2), .val (.int x3)] [(.int x2), (.int x3)]) _
  by_cases hc2_0 : x3 < x2
  · refine Go.of (fun _ k => XS.icmpNo X0.here hx rfl (hb hby d4_2) rfl (tlt hc2_0).2.1 k) ?_
    show Go p e below s₁ (mkF m 5 #[.val (.ref aW), .val (.int x1), .val (.int x2), .val (.int x3)] []) _
    refine Go.of (fun _ k => XS.aloadN X0.here hx rfl (hb hby d4_5) rfl rfl  k) ?_
    show Go p e below s₁ (mkF m 6 #[.val (.ref aW), .val (.int x1), .val (.int x2), .val (.int x3)] [(.ref aW)]) _
    refine Go.of (fun _ k => XS.iloadN X0.here hx rfl (hb hby d4_6) rfl  k) ?_
    show Go p e below s₁ (mkF m 7 #[.val (.ref aW), .val (.int x1), .val (.int x2), .val (.int x3)] [(.int x1), (.ref aW)]) _
    refine Go.of (fun _ k => XS.iloadN X0.here hx rfl (hb hby d4_7) rfl  k) ?_
    show Go p e below s₁ (mkF m 8 #[.val (.ref aW), .val (.int x1), .val (.int x2), .val (.int x3)] [(.int x3), (.int x1), (.ref aW)]) _
    refine Go.of (fun _ k => XS.iadd X0.here hx rfl (hb hby d4_8) rfl k) ?_
    show Go p e below s₁ (mkF m 9 #[.val (.ref aW), .val (.int x1), .val (.int x2), .val (.int x3)] [(.int (x1 + x3)), (.ref aW)]) _
    refine Go.of (fun _ k => X0.baloadBytes hx (j := (x1 + x3)) (v := (.int ((g4 c0 c1 c2 c3) (x1 + x3)))) (by rw [e0]; exact A.1) (State.isArrayOf_alike hZ.alike A.2.1) A.2.2 (inb_of (z := 4) Sz (hin hc2_0)) (Hat _ (hin hc2_0).1 (hin hc2_0).2) (g := (mkF m 9 #[.val (.ref aW), .val (.int x1), .val (.int x2), .val (.int x3)] [(.int (x1 + x3)), (.ref aW)])) rfl rfl (hb hby d4_9) _ k) ?_
    show Go p e below s₁ (mkF m 10 #[.val (.ref aW), .val (.int x1), .val (.int x2), .val (.int x3)] [(.int ((g4 c0 c1 c2 c3) (x1 + x3)))]) _
    refine Go.of (fun _ k => XS.iloadN X0.here hx rfl (hb hby d4_10) rfl  k) ?_
    show Go p e below s₁ (mkF m 11 #[.val (.ref aW), .val (.int x1), .val (.int x2), .val (.int x3)] [(.int x2), (.int ((g4 c0 c1 c2 c3) (x1 + x3)))]) _
    refine Go.of (fun _ k => XS.iconst X0.here hx rfl (hb hby d4_11) k) ?_
    show Go p e below s₁ (mkF m 12 #[.val (.ref aW), .val (.int x1), .val (.int x2), .val (.int x3)] [(.int (1 : Int32)), (.int x2), (.int ((g4 c0 c1 c2 c3) (x1 + x3)))]) _
    refine Go.of (fun _ k => XS.isub X0.here hx rfl (hb hby d4_12) rfl k) ?_
    show Go p e below s₁ (mkF m 13 #[.val (.ref aW), .val (.int x1), .val (.int x2), .val (.int x3)] [(.int (x2 - (1 : Int32))), (.int ((g4 c0 c1 c2 c3) (x1 + x3)))]) _
    refine Go.of (fun _ k => XS.iloadN X0.here hx rfl (hb hby d4_13) rfl  k) ?_
    show Go p e below s₁ (mkF m 14 #[.val (.ref aW), .val (.int x1), .val (.int x2), .val (.int x3)] [(.int x3), (.int (x2 - (1 : Int32))), (.int ((g4 c0 c1 c2 c3) (x1 + x3)))]) _
    refine Go.of (fun _ k => XS.isub X0.here hx rfl (hb hby d4_14) rfl k) ?_
    show Go p e below s₁ (mkF m 15 #[.val (.ref aW), .val (.int x1), .val (.int x2), .val (.int x3)] [(.int ((x2 - (1 : Int32)) - x3)), (.int ((g4 c0 c1 c2 c3) (x1 + x3)))]) _
    obtain ⟨_, _, ⟨T1, L1, kq1, nq1⟩, -, X1, ⟨Lc1, hQ1, l1, y1, z1⟩, st1⟩ := Jvm.LawKit.callS X0 hx (y := (⟨"com/example/cascadex/cascadex/Utf8HashCodePinLaw", "pow31", "(I)I"⟩ : MethodName)) hown (mvT hZ (hw _ (List.mem_of_getElem? (i := 17) rfl))) (mvT hZ (hw _ (List.mem_of_getElem? (i := 18) rfl))) (mvT hZ (hw _ (List.mem_of_getElem? (i := 19) rfl))) (mvT hZ (hw _ (List.mem_of_getElem? (i := 20) rfl))) (by decide) (backOf (W := 1) (rm3 l Z a0 hw [] ((x2 - (1 : Int32)) - x3) h0 n0 Z0 ) hZ (hw _ (List.mem_of_getElem? (i := 20) rfl)) (hw _ (List.mem_of_getElem? (i := 19) rfl)) (by decide) (by decide)) (g := (mkF m 15 #[.val (.ref aW), .val (.int x1), .val (.int x2), .val (.int x3)] [(.int ((x2 - (1 : Int32)) - x3)), (.int ((g4 c0 c1 c2 c3) (x1 + x3)))])) rfl (by rw [hml]; rfl) (argsL := [(.int ((x2 - (1 : Int32)) - x3))]) (rest := [(.int ((g4 c0 c1 c2 c3) (x1 + x3)))]) (lenOf own_pd0 rfl) rfl (by show 2 * 0 + _ ≤ _; exact Nat.le_of_eq rfl) (hb hby d4_15) (fun _ _ => ⟨rfl, e0, (by decide : 0 + 0 ≤ _), (by decide : 0 + 0 ≤ _)⟩)
    dsimp only [Pt.U, Pt.locs, Pt.cells, Pt.slots] at X1 l1 y1 z1 st1 hQ1
    subst l1 y1 z1
    obtain ⟨rfl, Nq1, e1⟩ := hQ1
    have e1 := e1.trans rfl
    have N1 := Fr.app N0 Nq1
    refine Go.of (fun _ k => st1 _ k) ?_
    show Go p e below T1 (mkF m 18 #[.val (.ref aW), .val (.int x1), .val (.int x2), .val (.int x3)] [(.int (fP ((x2 - (1 : Int32)) - x3))), (.int ((g4 c0 c1 c2 c3) (x1 + x3)))]) _
    refine Go.of (fun _ k => XS.imul X1.here hx rfl (hb hby d4_18) rfl k) ?_
    show Go p e below T1 (mkF m 19 #[.val (.ref aW), .val (.int x1), .val (.int x2), .val (.int x3)] [(.int (((g4 c0 c1 c2 c3) (x1 + x3)) * (fP ((x2 - (1 : Int32)) - x3))))]) _
    refine Go.retI X1 hx hret hlk (hb hby d4_19) e1 (by decide) (by decide) ?_
    exact ⟨by simp [fTm, *], N1, rfl⟩
  · refine Go.of (fun _ k => XS.icmpYes X0.here hx rfl (pc0 := 2) (pc' := 20) rfl (hb hby d4_2) rfl (flt hc2_0).2.1 (by decide) (by decide) k) ?_
    show Go p e below s₁ (mkF m 20 #[.val (.ref aW), .val (.int x1), .val (.int x2), .val (.int x3)] []) _
    refine Go.of (fun _ k => XS.iconst X0.here hx rfl (hb hby d4_20) k) ?_
    show Go p e below s₁ (mkF m 21 #[.val (.ref aW), .val (.int x1), .val (.int x2), .val (.int x3)] [(.int (0 : Int32))]) _
    refine Go.retI X0 hx hret hlk (hb hby d4_21) e0 (by decide) (by decide) ?_
    exact ⟨by simp [fTm, *], N0, rfl⟩
theorem d5_0 : decode prog_95_method_10_code 0 = .ok (.aload_n 0, 1) := by decide +kernel
theorem d5_1 : decode prog_95_method_10_code 1 = .ok (.getfield 76, 3) := by decide +kernel
theorem d5_4 : decode prog_95_method_10_code 4 = .ok (.ifCond .ne 41, 3) := by decide +kernel
theorem d5_7 : decode prog_95_method_10_code 7 = .ok (.iconst 1, 1) := by decide +kernel
theorem d5_8 : decode prog_95_method_10_code 8 = .ok (.istore_n 1, 1) := by decide +kernel
theorem d5_9 : decode prog_95_method_10_code 9 = .ok (.aload_n 0, 1) := by decide +kernel
theorem d5_10 : decode prog_95_method_10_code 10 = .ok (.getfield 13, 3) := by decide +kernel
theorem d5_13 : decode prog_95_method_10_code 13 = .ok (.istore_n 2, 1) := by decide +kernel
theorem d5_14 : decode prog_95_method_10_code 14 = .ok (.iload_n 2, 1) := by decide +kernel
theorem d5_15 : decode prog_95_method_10_code 15 = .ok (.aload_n 0, 1) := by decide +kernel
theorem d5_16 : decode prog_95_method_10_code 16 = .ok (.getfield 17, 3) := by decide +kernel
theorem d5_19 : decode prog_95_method_10_code 19 = .ok (.if_icmp .ge 21, 3) := by decide +kernel
theorem d5_40 : decode prog_95_method_10_code 40 = .ok (.aload_n 0, 1) := by decide +kernel
theorem d5_41 : decode prog_95_method_10_code 41 = .ok (.iload_n 1, 1) := by decide +kernel
theorem d5_42 : decode prog_95_method_10_code 42 = .ok (.putfield 76, 3) := by decide +kernel
theorem d5_45 : decode prog_95_method_10_code 45 = .ok (.aload_n 0, 1) := by decide +kernel
theorem d5_46 : decode prog_95_method_10_code 46 = .ok (.getfield 76, 3) := by decide +kernel
theorem d5_49 : decode prog_95_method_10_code 49 = .ok (.ireturn, 1) := by decide +kernel
theorem d5_22 : decode prog_95_method_10_code 22 = .ok (.bipush 31, 2) := by decide +kernel
theorem d5_24 : decode prog_95_method_10_code 24 = .ok (.iload_n 1, 1) := by decide +kernel
theorem d5_25 : decode prog_95_method_10_code 25 = .ok (.imul, 1) := by decide +kernel
theorem d5_26 : decode prog_95_method_10_code 26 = .ok (.aload_n 0, 1) := by decide +kernel
theorem d5_27 : decode prog_95_method_10_code 27 = .ok (.getfield 7, 3) := by decide +kernel
theorem d5_30 : decode prog_95_method_10_code 30 = .ok (.iload_n 2, 1) := by decide +kernel
theorem d5_31 : decode prog_95_method_10_code 31 = .ok (.baload, 1) := by decide +kernel
theorem d5_32 : decode prog_95_method_10_code 32 = .ok (.iadd, 1) := by decide +kernel
theorem d5_33 : decode prog_95_method_10_code 33 = .ok (.istore_n 1, 1) := by decide +kernel
theorem d5_34 : decode prog_95_method_10_code 34 = .ok (.iinc 2 1, 3) := by decide +kernel
theorem d5_37 : decode prog_95_method_10_code 37 = .ok (.goto (-23), 3) := by decide +kernel
theorem own_ef_rm5 (m : MethodId) (x0 : Addr) : entryFrame m #[(.ref x0)] 3 = mkF m 0 #[.val (.ref x0), .unset, .unset] [] := by first | (simp [entryFrame, mkF, argsToLocals, Value.category]; done) | rfl
def Q_rm5 (Z : State) (x0 aW : Addr) (ss ee ww : Int32) (nL : Nat) (c0 c1 c2 c3 : Int32) (kA : ClassId) (h0 : Heap) (n0 : Nat) : Option Value → Heap → List Loc → Prop := fun v h L => v = some (.int (fHh (g4 c0 c1 c2 c3) ss nL)) ∧ Fr n0 L ∧ Keep h0 h [x0] ∧ Exa Z h x0 "com/example/cascadex/cascadex/Utf8" ∧ Fld Z h x0 "com/example/cascadex/cascadex/Utf8" "bytes" "[B" (.ref aW) ∧ Fld Z h x0 "com/example/cascadex/cascadex/Utf8" "start" "I" (.int ss) ∧ Fld Z h x0 "com/example/cascadex/cascadex/Utf8" "end" "I" (.int ee) ∧ Fld Z h x0 "com/example/cascadex/cascadex/Utf8" "hash" "I" (.int (fHh (g4 c0 c1 c2 c3) ss nL))
set_option maxRecDepth 65536 in
set_option maxHeartbeats 40000000 in
theorem rm5 (l : Launch) (Z : State) (a0 : Array Value) (hw : ∀ d ∈ tables_1, d.before a0 Z = true) (ws : List Jvm.Cond) (x0 aW : Addr) (ss ee ww : Int32) (nL : Nat) (c0 c1 c2 c3 : Int32) (kA : ClassId) (h0 : Heap) (n0 : Nat) (Z0 : n0 ≤ h0.size) (g0 : n0 ≤ x0) (neA : aW ≠ x0) (E_x0 : Exa Z h0 x0 "com/example/cascadex/cascadex/Utf8") (F_bytes : Fld Z h0 x0 "com/example/cascadex/cascadex/Utf8" "bytes" "[B" (.ref aW)) (F_start : Fld Z h0 x0 "com/example/cascadex/cascadex/Utf8" "start" "I" (.int ss)) (F_end : Fld Z h0 x0 "com/example/cascadex/cascadex/Utf8" "end" "I" (.int ee)) (F_hash : Fld Z h0 x0 "com/example/cascadex/cascadex/Utf8" "hash" "I" (.int ww)) (V_b : Arv Z h0 aW kA .byte 4 [.int c0, .int c1, .int c2, .int c3] (.int 0)) (b0 : 0 ≤ ss.toInt) (b1 : ee.toInt = ss.toInt + nL) (b2 : ee.toInt ≤ 4) (hw0 : ww = 0 ∨ ww = (fHh (g4 c0 c1 c2 c3) ss nL)) :
    Ctr l Z (⟨"com/example/cascadex/cascadex/Utf8", "hashCode", "()I"⟩ : MethodName) prog_95_method_10_code 3 (some .int) ws ({ frames := 0, cells := 0, slots := 0, locals := 0 } : Room) #[(.ref x0)] h0 (Q_rm5 Z x0 aW ss ee ww nL c0 c1 c2 c3 kA h0 n0) := by
  refine Ctr.intro (plainFor_of_name own_pn0) ?_
  intro p e s m below meth c s₁ hx hby hml hown hnm hret hlk hZ X0 e0
  have hown : s.vm.findClass "com/example/cascadex/cascadex/Utf8" = some m.cls := hown
  have hml : c.maxLocals = 3 := hml
  have N0 := Fr.nil n0
  refine Go.cast (own_ef_rm5 m x0) ?_
  have KK := Keep.refl h0 [x0]
  show Go p e below s₁ (mkF m 0 #[.val (.ref x0), .unset, .unset] []) _
  refine Go.of (fun _ k => XS.aloadN X0.here hx rfl (hb hby d5_0) rfl rfl  k) ?_
  show Go p e below s₁ (mkF m 1 #[.val (.ref x0), .unset, .unset] [(.ref x0)]) _
  obtain ⟨T1, X1, e1, st1⟩ := getF X0 hx hZ hown (host := "") (Or.inl (hw _ (List.mem_of_getElem? (i := 29) rfl))) Via.refl e0 F_hash (g := (mkF m 1 #[.val (.ref x0), .unset, .unset] [(.ref x0)])) rfl rfl (hb hby d5_1)
  refine Go.of (fun _ k => st1 _ k) ?_
  show Go p e below T1 (mkF m 4 #[.val (.ref x0), .unset, .unset] [(.int ww)]) _
  by_cases hc4_0 : ww = (0 : Int32)
  · refine Go.of (fun _ k => XS.ifNo X1.here hx rfl (hb hby d5_4) rfl ((if0 _ _).trans (teq hc4_0).2) k) ?_
    show Go p e below T1 (mkF m 7 #[.val (.ref x0), .unset, .unset] []) _
    refine Go.of (fun _ k => XS.iconst X1.here hx rfl (hb hby d5_7) k) ?_
    show Go p e below T1 (mkF m 8 #[.val (.ref x0), .unset, .unset] [(.int (1 : Int32))]) _
    refine Go.of (fun _ k => XS.istoreN X1.here hx rfl (hb hby d5_8) rfl (l' := #[.val (.ref x0), .val (.int (1 : Int32)), .unset]) rfl k) ?_
    show Go p e below T1 (mkF m 9 #[.val (.ref x0), .val (.int (1 : Int32)), .unset] []) _
    refine Go.of (fun _ k => XS.aloadN X1.here hx rfl (hb hby d5_9) rfl rfl  k) ?_
    show Go p e below T1 (mkF m 10 #[.val (.ref x0), .val (.int (1 : Int32)), .unset] [(.ref x0)]) _
    obtain ⟨T2, X2, e2, st2⟩ := getF X1 hx hZ hown (host := "") (Or.inl (hw _ (List.mem_of_getElem? (i := 13) rfl))) Via.refl e1 F_start (g := (mkF m 10 #[.val (.ref x0), .val (.int (1 : Int32)), .unset] [(.ref x0)])) rfl rfl (hb hby d5_10)
    refine Go.of (fun _ k => st2 _ k) ?_
    show Go p e below T2 (mkF m 13 #[.val (.ref x0), .val (.int (1 : Int32)), .unset] [(.int ss)]) _
    refine Go.of (fun _ k => XS.istoreN X2.here hx rfl (hb hby d5_13) rfl (l' := #[.val (.ref x0), .val (.int (1 : Int32)), .val (.int ss)]) rfl k) ?_
    show Go p e below T2 (mkF m 14 #[.val (.ref x0), .val (.int (1 : Int32)), .val (.int ss)] []) _
    have LP : ∀ (d : Nat) (T3 : State) (h3 : Heap) (L3 : List Loc) (kk : Nat), Stand p l e ({ frames := 0, cells := 0, slots := 0, locals := 0 } : Room) s m #[(.ref x0)] below meth c T3 L3 0 0 → T3.heap = h3 → Fr n0 L3 → Keep h0 h3 [x0] → Exa Z h3 x0 "com/example/cascadex/cascadex/Utf8" → Fld Z h3 x0 "com/example/cascadex/cascadex/Utf8" "bytes" "[B" (.ref aW) → Fld Z h3 x0 "com/example/cascadex/cascadex/Utf8" "start" "I" (.int ss) → Fld Z h3 x0 "com/example/cascadex/cascadex/Utf8" "end" "I" (.int ee) → Fld Z h3 x0 "com/example/cascadex/cascadex/Utf8" "hash" "I" (.int ww) → Arv Z h3 aW kA .byte 4 [.int c0, .int c1, .int c2, .int c3] (.int 0) → (kk + d = nL) → Go p e below T3 (mkF m 14 #[.val (.ref x0), .val (.int (fHh (g4 c0 c1 c2 c3) ss kk)), .val (.int (ss + Int32.ofNat kk))] []) (KQ s (Q_rm5 Z x0 aW ss ee ww nL c0 c1 c2 c3 kA h0 n0) ({ frames := 0, cells := 0, slots := 0, locals := 0 } : Room).cells ({ frames := 0, cells := 0, slots := 0, locals := 0 } : Room).slots) := by
      intro d
      induction d with
      | zero =>
        intro T3 h3 L3 kk X3 e3 N3 KK E_x0 F_bytes F_start F_end F_hash V_b hd
        obtain ⟨cl, A, Sz, Hat⟩ := own_open V_b
        have hk := own_idx (a := ss) (k := kk) b0 (by omega)
        show Go p e below T3 (mkF m 14 #[.val (.ref x0), .val (.int (fHh (g4 c0 c1 c2 c3) ss kk)), .val (.int (ss + Int32.ofNat kk))] []) _
        refine Go.of (fun _ k => XS.iloadN X3.here hx rfl (hb hby d5_14) rfl  k) ?_
        show Go p e below T3 (mkF m 15 #[.val (.ref x0), .val (.int (fHh (g4 c0 c1 c2 c3) ss kk)), .val (.int (ss + Int32.ofNat kk))] [(.int (ss + Int32.ofNat kk))]) _
        refine Go.of (fun _ k => XS.aloadN X3.here hx rfl (hb hby d5_15) rfl rfl  k) ?_
        show Go p e below T3 (mkF m 16 #[.val (.ref x0), .val (.int (fHh (g4 c0 c1 c2 c3) ss kk)), .val (.int (ss + Int32.ofNat kk))] [(.ref x0), (.int (ss + Int32.ofNat kk))]) _
        obtain ⟨T4, X4, e4, st4⟩ := getF X3 hx hZ hown (host := "") (Or.inl (hw _ (List.mem_of_getElem? (i := 15) rfl))) Via.refl e3 F_end (g := (mkF m 16 #[.val (.ref x0), .val (.int (fHh (g4 c0 c1 c2 c3) ss kk)), .val (.int (ss + Int32.ofNat kk))] [(.ref x0), (.int (ss + Int32.ofNat kk))])) rfl rfl (hb hby d5_16)
        refine Go.of (fun _ k => st4 _ k) ?_
        show Go p e below T4 (mkF m 19 #[.val (.ref x0), .val (.int (fHh (g4 c0 c1 c2 c3) ss kk)), .val (.int (ss + Int32.ofNat kk))] [(.int ee), (.int (ss + Int32.ofNat kk))]) _
        refine Go.of (fun _ k => XS.icmpYes X4.here hx rfl (pc0 := 19) (pc' := 40) rfl (hb hby d5_19) rfl (flt (show ¬ ((ss + Int32.ofNat kk) < ee) from (by rw [own_lt, hk]; omega))).2.1 (by decide) (by decide) k) ?_
        show Go p e below T4 (mkF m 40 #[.val (.ref x0), .val (.int (fHh (g4 c0 c1 c2 c3) ss kk)), .val (.int (ss + Int32.ofNat kk))] []) _
        refine Go.of (fun _ k => XS.aloadN X4.here hx rfl (hb hby d5_40) rfl rfl  k) ?_
        show Go p e below T4 (mkF m 41 #[.val (.ref x0), .val (.int (fHh (g4 c0 c1 c2 c3) ss kk)), .val (.int (ss + Int32.ofNat kk))] [(.ref x0)]) _
        refine Go.of (fun _ k => XS.iloadN X4.here hx rfl (hb hby d5_41) rfl  k) ?_
        show Go p e below T4 (mkF m 42 #[.val (.ref x0), .val (.int (fHh (g4 c0 c1 c2 c3) ss kk)), .val (.int (ss + Int32.ofNat kk))] [(.int (fHh (g4 c0 c1 c2 c3) ss kk)), (.ref x0)]) _
        obtain ⟨T5, h5, X5, e5, W5, st5⟩ := putF X4 hx hZ hown (host := "") (Or.inl (hw _ (List.mem_of_getElem? (i := 29) rfl))) Via.refl e4 F_hash E_x0 (Or.inl (hw _ (List.mem_of_getElem? (i := 30) rfl))) (hw _ (List.mem_of_getElem? (i := 3) rfl)) (ty := .int) (by decide) rfl rfl (g := (mkF m 42 #[.val (.ref x0), .val (.int (fHh (g4 c0 c1 c2 c3) ss kk)), .val (.int (ss + Int32.ofNat kk))] [(.int (fHh (g4 c0 c1 c2 c3) ss kk)), (.ref x0)])) rfl rfl (hb hby d5_42)
        have N5 := Fr.snoc X5 N3 g0
        have F_hash := F_hash.same W5
        have KK := KK.wr W5 (Or.inl (List.mem_of_getElem? (i := 0) rfl))
        have E_x0 := E_x0.wr W5
        have F_bytes := F_bytes.other W5 (Or.inr (slot_ne (Or.inr (hw _ (List.mem_of_getElem? (i := 12) rfl))) (Or.inl (hw _ (List.mem_of_getElem? (i := 30) rfl))) (by decide) (t := (.array .byte)) (t' := .int) (by decide) (by decide)))
        have F_start := F_start.other W5 (Or.inr (slot_ne (Or.inr (hw _ (List.mem_of_getElem? (i := 14) rfl))) (Or.inl (hw _ (List.mem_of_getElem? (i := 30) rfl))) (by decide) (t := .int) (t' := .int) (by decide) (by decide)))
        have F_end := F_end.other W5 (Or.inr (slot_ne (Or.inr (hw _ (List.mem_of_getElem? (i := 16) rfl))) (Or.inl (hw _ (List.mem_of_getElem? (i := 30) rfl))) (by decide) (t := .int) (t' := .int) (by decide) (by decide)))
        have V_b := V_b.other W5 neA
        refine Go.of (fun _ k => st5 _ k) ?_
        show Go p e below T5 (mkF m 45 #[.val (.ref x0), .val (.int (fHh (g4 c0 c1 c2 c3) ss kk)), .val (.int (ss + Int32.ofNat kk))] []) _
        refine Go.of (fun _ k => XS.aloadN X5.here hx rfl (hb hby d5_45) rfl rfl  k) ?_
        show Go p e below T5 (mkF m 46 #[.val (.ref x0), .val (.int (fHh (g4 c0 c1 c2 c3) ss kk)), .val (.int (ss + Int32.ofNat kk))] [(.ref x0)]) _
        obtain ⟨T6, X6, e6, st6⟩ := getF X5 hx hZ hown (host := "") (Or.inl (hw _ (List.mem_of_getElem? (i := 29) rfl))) Via.refl e5 F_hash (g := (mkF m 46 #[.val (.ref x0), .val (.int (fHh (g4 c0 c1 c2 c3) ss kk)), .val (.int (ss + Int32.ofNat kk))] [(.ref x0)])) rfl rfl (hb hby d5_46)
        refine Go.of (fun _ k => st6 _ k) ?_
        show Go p e below T6 (mkF m 49 #[.val (.ref x0), .val (.int (fHh (g4 c0 c1 c2 c3) ss kk)), .val (.int (ss + Int32.ofNat kk))] [(.int (fHh (g4 c0 c1 c2 c3) ss kk))]) _
        refine Go.retI X6 hx hret hlk (hb hby d5_49) e6 (by decide) (by decide) ?_
        obtain rfl : kk = nL := by omega
        exact ⟨rfl, N5, KK, E_x0, F_bytes, F_start, F_end, F_hash⟩
      | succ d ih =>
        intro T3 h3 L3 kk X3 e3 N3 KK E_x0 F_bytes F_start F_end F_hash V_b hd
        obtain ⟨cl, A, Sz, Hat⟩ := own_open V_b
        have hk := own_idx (a := ss) (k := kk) b0 (by omega)
        show Go p e below T3 (mkF m 14 #[.val (.ref x0), .val (.int (fHh (g4 c0 c1 c2 c3) ss kk)), .val (.int (ss + Int32.ofNat kk))] []) _
        refine Go.of (fun _ k => XS.iloadN X3.here hx rfl (hb hby d5_14) rfl  k) ?_
        show Go p e below T3 (mkF m 15 #[.val (.ref x0), .val (.int (fHh (g4 c0 c1 c2 c3) ss kk)), .val (.int (ss + Int32.ofNat kk))] [(.int (ss + Int32.ofNat kk))]) _
        refine Go.of (fun _ k => XS.aloadN X3.here hx rfl (hb hby d5_15) rfl rfl  k) ?_
        show Go p e below T3 (mkF m 16 #[.val (.ref x0), .val (.int (fHh (g4 c0 c1 c2 c3) ss kk)), .val (.int (ss + Int32.ofNat kk))] [(.ref x0), (.int (ss + Int32.ofNat kk))]) _
        obtain ⟨T7, X7, e7, st7⟩ := getF X3 hx hZ hown (host := "") (Or.inl (hw _ (List.mem_of_getElem? (i := 15) rfl))) Via.refl e3 F_end (g := (mkF m 16 #[.val (.ref x0), .val (.int (fHh (g4 c0 c1 c2 c3) ss kk)), .val (.int (ss + Int32.ofNat kk))] [(.ref x0), (.int (ss + Int32.ofNat kk))])) rfl rfl (hb hby d5_16)
        refine Go.of (fun _ k => st7 _ k) ?_
        show Go p e below T7 (mkF m 19 #[.val (.ref x0), .val (.int (fHh (g4 c0 c1 c2 c3) ss kk)), .val (.int (ss + Int32.ofNat kk))] [(.int ee), (.int (ss + Int32.ofNat kk))]) _
        refine Go.of (fun _ k => XS.icmpNo X7.here hx rfl (hb hby d5_19) rfl (tlt (show (ss + Int32.ofNat kk) < ee from (by rw [own_lt, hk]; omega))).2.1 k) ?_
        show Go p e below T7 (mkF m 22 #[.val (.ref x0), .val (.int (fHh (g4 c0 c1 c2 c3) ss kk)), .val (.int (ss + Int32.ofNat kk))] []) _
        refine Go.of (fun _ k => XS.bipush X7.here hx rfl (hb hby d5_22) k) ?_
        show Go p e below T7 (mkF m 24 #[.val (.ref x0), .val (.int (fHh (g4 c0 c1 c2 c3) ss kk)), .val (.int (ss + Int32.ofNat kk))] [(.int (31 : Int32))]) _
        refine Go.of (fun _ k => XS.iloadN X7.here hx rfl (hb hby d5_24) rfl  k) ?_
        show Go p e below T7 (mkF m 25 #[.val (.ref x0), .val (.int (fHh (g4 c0 c1 c2 c3) ss kk)), .val (.int (ss + Int32.ofNat kk))] [(.int (fHh (g4 c0 c1 c2 c3) ss kk)), (.int (31 : Int32))]) _
        refine Go.of (fun _ k => XS.imul X7.here hx rfl (hb hby d5_25) rfl k) ?_
        show Go p e below T7 (mkF m 26 #[.val (.ref x0), .val (.int (fHh (g4 c0 c1 c2 c3) ss kk)), .val (.int (ss + Int32.ofNat kk))] [(.int ((31 : Int32) * (fHh (g4 c0 c1 c2 c3) ss kk)))]) _
        refine Go.of (fun _ k => XS.aloadN X7.here hx rfl (hb hby d5_26) rfl rfl  k) ?_
        show Go p e below T7 (mkF m 27 #[.val (.ref x0), .val (.int (fHh (g4 c0 c1 c2 c3) ss kk)), .val (.int (ss + Int32.ofNat kk))] [(.ref x0), (.int ((31 : Int32) * (fHh (g4 c0 c1 c2 c3) ss kk)))]) _
        obtain ⟨T8, X8, e8, st8⟩ := getF X7 hx hZ hown (host := "") (Or.inl (hw _ (List.mem_of_getElem? (i := 11) rfl))) Via.refl e7 F_bytes (g := (mkF m 27 #[.val (.ref x0), .val (.int (fHh (g4 c0 c1 c2 c3) ss kk)), .val (.int (ss + Int32.ofNat kk))] [(.ref x0), (.int ((31 : Int32) * (fHh (g4 c0 c1 c2 c3) ss kk)))])) rfl rfl (hb hby d5_27)
        refine Go.of (fun _ k => st8 _ k) ?_
        show Go p e below T8 (mkF m 30 #[.val (.ref x0), .val (.int (fHh (g4 c0 c1 c2 c3) ss kk)), .val (.int (ss + Int32.ofNat kk))] [(.ref aW), (.int ((31 : Int32) * (fHh (g4 c0 c1 c2 c3) ss kk)))]) _
        refine Go.of (fun _ k => XS.iloadN X8.here hx rfl (hb hby d5_30) rfl  k) ?_
        show Go p e below T8 (mkF m 31 #[.val (.ref x0), .val (.int (fHh (g4 c0 c1 c2 c3) ss kk)), .val (.int (ss + Int32.ofNat kk))] [(.int (ss + Int32.ofNat kk)), (.ref aW), (.int ((31 : Int32) * (fHh (g4 c0 c1 c2 c3) ss kk)))]) _
        have hj9 : ¬ (ss + Int32.ofNat kk) < 0 ∧ (ss + Int32.ofNat kk) < 4 := by rw [own_lt, own_lt, hk, k0, k4]; omega
        refine Go.of (fun _ k => X8.baloadBytes hx (j := (ss + Int32.ofNat kk)) (v := (.int ((g4 c0 c1 c2 c3) (ss + Int32.ofNat kk)))) (by rw [e8]; exact A.1) (State.isArrayOf_alike hZ.alike A.2.1) A.2.2 (inb_of (z := 4) Sz hj9) (Hat _ hj9.1 hj9.2) (g := (mkF m 31 #[.val (.ref x0), .val (.int (fHh (g4 c0 c1 c2 c3) ss kk)), .val (.int (ss + Int32.ofNat kk))] [(.int (ss + Int32.ofNat kk)), (.ref aW), (.int ((31 : Int32) * (fHh (g4 c0 c1 c2 c3) ss kk)))])) rfl rfl (hb hby d5_31) _ k) ?_
        show Go p e below T8 (mkF m 32 #[.val (.ref x0), .val (.int (fHh (g4 c0 c1 c2 c3) ss kk)), .val (.int (ss + Int32.ofNat kk))] [(.int ((g4 c0 c1 c2 c3) (ss + Int32.ofNat kk))), (.int ((31 : Int32) * (fHh (g4 c0 c1 c2 c3) ss kk)))]) _
        refine Go.of (fun _ k => XS.iadd X8.here hx rfl (hb hby d5_32) rfl k) ?_
        show Go p e below T8 (mkF m 33 #[.val (.ref x0), .val (.int (fHh (g4 c0 c1 c2 c3) ss kk)), .val (.int (ss + Int32.ofNat kk))] [(.int (((31 : Int32) * (fHh (g4 c0 c1 c2 c3) ss kk)) + ((g4 c0 c1 c2 c3) (ss + Int32.ofNat kk))))]) _
        refine Go.of (fun _ k => XS.istoreN X8.here hx rfl (hb hby d5_33) rfl (l' := #[.val (.ref x0), .val (.int (((31 : Int32) * (fHh (g4 c0 c1 c2 c3) ss kk)) + ((g4 c0 c1 c2 c3) (ss + Int32.ofNat kk)))), .val (.int (ss + Int32.ofNat kk))]) rfl k) ?_
        show Go p e below T8 (mkF m 34 #[.val (.ref x0), .val (.int (((31 : Int32) * (fHh (g4 c0 c1 c2 c3) ss kk)) + ((g4 c0 c1 c2 c3) (ss + Int32.ofNat kk)))), .val (.int (ss + Int32.ofNat kk))] []) _
        refine Go.of (fun _ k => XS.iinc X8.here hx rfl (hb hby d5_34) rfl (l' := #[.val (.ref x0), .val (.int (((31 : Int32) * (fHh (g4 c0 c1 c2 c3) ss kk)) + ((g4 c0 c1 c2 c3) (ss + Int32.ofNat kk)))), .val (.int ((ss + Int32.ofNat kk) + (1 : Int32)))]) rfl k) ?_
        show Go p e below T8 (mkF m 37 #[.val (.ref x0), .val (.int (((31 : Int32) * (fHh (g4 c0 c1 c2 c3) ss kk)) + ((g4 c0 c1 c2 c3) (ss + Int32.ofNat kk)))), .val (.int ((ss + Int32.ofNat kk) + (1 : Int32)))] []) _
        refine Go.of (fun _ k => XS.goto X8.here hx rfl (pc0 := 37) (pc' := 14) rfl (hb hby d5_37) (by decide) (by decide) k) ?_
        show Go p e below T8 (mkF m 14 #[.val (.ref x0), .val (.int (((31 : Int32) * (fHh (g4 c0 c1 c2 c3) ss kk)) + ((g4 c0 c1 c2 c3) (ss + Int32.ofNat kk)))), .val (.int ((ss + Int32.ofNat kk) + (1 : Int32)))] []) _
        rw [own_step ss kk, show (31 : Int32) * fHh (g4 c0 c1 c2 c3) ss kk + (g4 c0 c1 c2 c3) (ss + Int32.ofNat kk) = fHh (g4 c0 c1 c2 c3) ss (kk + 1) from rfl]
        exact ih _ _ _ (kk + 1) X8 e8 N3 KK E_x0 F_bytes F_start F_end F_hash V_b (by omega)
    refine Go.cast (g' := (mkF m 14 #[.val (.ref x0), .val (.int (1 : Int32)), .val (.int (ss + Int32.ofNat 0))] [])) (by rw [show ss + Int32.ofNat 0 = ss from Int32.add_zero ss]) ?_
    exact LP nL _ _ _ 0 X2 e2 N0 KK E_x0 F_bytes F_start F_end F_hash V_b (by omega)
  · refine Go.of (fun _ k => XS.ifYes X1.here hx rfl (pc0 := 4) (pc' := 45) rfl (hb hby d5_4) rfl ((if0 _ _).trans (feq hc4_0).2) (by decide) (by decide) k) ?_
    show Go p e below T1 (mkF m 45 #[.val (.ref x0), .unset, .unset] []) _
    refine Go.of (fun _ k => XS.aloadN X1.here hx rfl (hb hby d5_45) rfl rfl  k) ?_
    show Go p e below T1 (mkF m 46 #[.val (.ref x0), .unset, .unset] [(.ref x0)]) _
    obtain ⟨T10, X10, e10, st10⟩ := getF X1 hx hZ hown (host := "") (Or.inl (hw _ (List.mem_of_getElem? (i := 29) rfl))) Via.refl e1 F_hash (g := (mkF m 46 #[.val (.ref x0), .unset, .unset] [(.ref x0)])) rfl rfl (hb hby d5_46)
    refine Go.of (fun _ k => st10 _ k) ?_
    show Go p e below T10 (mkF m 49 #[.val (.ref x0), .unset, .unset] [(.int ww)]) _
    refine Go.retI X10 hx hret hlk (hb hby d5_49) e10 (by decide) (by decide) ?_
    obtain rfl := hw0.resolve_left hc4_0
    exact ⟨rfl, N0, KK, E_x0, F_bytes, F_start, F_end, F_hash⟩
theorem own_pd1 : parseMethodDescriptor "([BII)V" = some ⟨[(.array .byte), .int, .int], none⟩ := by decide +kernel
theorem own_pd2 : parseMethodDescriptor "([BIII)I" = some ⟨[(.array .byte), .int, .int, .int], some .int⟩ := by decide +kernel
theorem own_pd3 : parseMethodDescriptor "()I" = some ⟨[], some .int⟩ := by decide +kernel
theorem own_ef_rm0 (m : MethodId) (x0 : Int32) (x1 : Int32) : entryFrame m #[(.int x0), (.int x1)] maxLocals = mkF m 0 #[.val (.int x0), .val (.int x1), .unset, .unset, .unset, .unset, .unset, .unset, .unset, .unset] [] := by first | (simp [entryFrame, mkF, argsToLocals, Value.category, maxLocals]; done) | rfl
def Q_rm0 (Z : State) (x0 x1 : Int32) (h0 : Heap) (n0 : Nat) : Option Value → Heap → List Loc → Prop := fun v h L => v = some (.int 1) ∧ Fr n0 L
set_option maxRecDepth 65536 in
set_option maxHeartbeats 40000000 in
theorem rm0 (l : Launch) (Z : State) (a0 : Array Value) (hw : ∀ d ∈ tables_1, d.before a0 Z = true) (ws : List Jvm.Cond) (x0 x1 : Int32) (h0 : Heap) (n0 : Nat) (Z0 : n0 ≤ h0.size)  :
    Ctr l Z x code maxLocals ret ws room_1 #[(.int x0), (.int x1)] h0 (Q_rm0 Z x0 x1 h0 n0) := by
  refine Ctr.intro (plainFor_of_name own_pn1) ?_
  intro p e s m below meth c s₁ hx hby hml hown hnm hret hlk hZ X0 e0
  have hown : s.vm.findClass "com/example/cascadex/cascadex/Utf8HashCodePinLaw" = some m.cls := hown
  have hml : c.maxLocals = 10 := hml
  have N0 := Fr.nil n0
  refine Go.cast (own_ef_rm0 m x0 x1) ?_
  show Go p e below s₁ (mkF m 0 #[.val (.int x0), .val (.int x1), .unset, .unset, .unset, .unset, .unset, .unset, .unset, .unset] []) _
  refine Go.of (fun _ k => XS.iconst X0.here hx rfl (hb hby at_0) k) ?_
  show Go p e below s₁ (mkF m 1 #[.val (.int x0), .val (.int x1), .unset, .unset, .unset, .unset, .unset, .unset, .unset, .unset] [(.int (4 : Int32))]) _
  obtain ⟨T1, h1, kc1, X1, e1, E1, A1, st1⟩ := newP X0 hx hZ (hw _ (List.mem_of_getElem? (i := 0) rfl)) e0 (g := (mkF m 1 #[.val (.int x0), .val (.int x1), .unset, .unset, .unset, .unset, .unset, .unset, .unset, .unset] [(.int (4 : Int32))])) rfl (hb hby at_1) rfl (by decide) (cap := 4) (by decide) (by decide) (by decide) (by decide)
  obtain ⟨ad1, g1⟩ : ∃ z, z = h0.size := ⟨_, rfl⟩
  rw [← g1] at A1 st1
  have ge_ad1 : n0 ≤ ad1 := Nat.le_trans Z0 (Nat.le_of_eq g1.symm)
  have Z0 := Nat.le_trans Z0 E1.1
  have V_ad1 : Arv Z h1 ad1 kc1 .byte (4 : Int32) [(.int (0 : Int32)), (.int (0 : Int32)), (.int (0 : Int32)), (.int (0 : Int32))] (.int (0 : Int32)) := (Arv.new A1 (by decide)).pad (pad_rep [] (.int (0 : Int32)) 4)
  refine Go.of (fun _ k => st1 _ k) ?_
  show Go p e below T1 (mkF m 3 #[.val (.int x0), .val (.int x1), .unset, .unset, .unset, .unset, .unset, .unset, .unset, .unset] [(.ref ad1)]) _
  refine Go.of (fun _ k => XS.astoreN X1.here hx rfl (hb hby at_3) rfl rfl (l' := #[.val (.int x0), .val (.int x1), .val (.ref ad1), .unset, .unset, .unset, .unset, .unset, .unset, .unset]) rfl k) ?_
  show Go p e below T1 (mkF m 4 #[.val (.int x0), .val (.int x1), .val (.ref ad1), .unset, .unset, .unset, .unset, .unset, .unset, .unset] []) _
  refine Go.of (fun _ k => XS.aloadN X1.here hx rfl (hb hby at_4) rfl rfl  k) ?_
  show Go p e below T1 (mkF m 5 #[.val (.int x0), .val (.int x1), .val (.ref ad1), .unset, .unset, .unset, .unset, .unset, .unset, .unset] [(.ref ad1)]) _
  refine Go.of (fun _ k => XS.iconst X1.here hx rfl (hb hby at_5) k) ?_
  show Go p e below T1 (mkF m 6 #[.val (.int x0), .val (.int x1), .val (.ref ad1), .unset, .unset, .unset, .unset, .unset, .unset, .unset] [(.int (0 : Int32)), (.ref ad1)]) _
  refine Go.of (fun _ k => XS.iloadN X1.here hx rfl (hb hby at_6) rfl  k) ?_
  show Go p e below T1 (mkF m 7 #[.val (.int x0), .val (.int x1), .val (.ref ad1), .unset, .unset, .unset, .unset, .unset, .unset, .unset] [(.int x0), (.int (0 : Int32)), (.ref ad1)]) _
  refine Go.of (fun _ k => XS.i2b X1.here hx rfl (hb hby at_7) rfl k) ?_
  show Go p e below T1 (mkF m 8 #[.val (.int x0), .val (.int x1), .val (.ref ad1), .unset, .unset, .unset, .unset, .unset, .unset, .unset] [(.int (x0.toInt8.toInt32)), (.int (0 : Int32)), (.ref ad1)]) _
  obtain ⟨clq2, Arq2, qq2, Sq2, Nnq2, Hq2, Gq2⟩ := V_ad1
  have hin2 : ¬ ((0 : Int32) < 0 ∨ clq2.slots.size ≤ ((0 : Int32)).toNatClampNeg) := inb_of Sq2 ⟨by decide, by decide⟩
  obtain ⟨T2, h2, X2, e2, W2, st2⟩ := stB X1 hx hZ e1 Arq2 (j := (0 : Int32)) hin2 (g := (mkF m 8 #[.val (.int x0), .val (.int x1), .val (.ref ad1), .unset, .unset, .unset, .unset, .unset, .unset, .unset] [(.int (x0.toInt8.toInt32)), (.int (0 : Int32)), (.ref ad1)])) rfl rfl (hb hby at_8)
  have V_ad1 : Arv Z h2 ad1 kc1 .byte (4 : Int32) [(.int (nar .byte (x0.toInt8.toInt32))), (.int (0 : Int32)), (.int (0 : Int32)), (.int (0 : Int32))] (.int (0 : Int32)) := Arv.set Arq2 qq2 Sq2 Nnq2 Hq2 Gq2 (fits_nar_byte _) W2 0 rfl (Nat.le_of_ble_eq_true rfl)
  have N2 := Fr.snoc X2 N0 ge_ad1
  have Z0 := Nat.le_trans Z0 (Keep.of_wr W2).1
  refine Go.of (fun _ k => st2 _ k) ?_
  show Go p e below T2 (mkF m 9 #[.val (.int x0), .val (.int x1), .val (.ref ad1), .unset, .unset, .unset, .unset, .unset, .unset, .unset] []) _
  refine Go.of (fun _ k => XS.aloadN X2.here hx rfl (hb hby at_9) rfl rfl  k) ?_
  show Go p e below T2 (mkF m 10 #[.val (.int x0), .val (.int x1), .val (.ref ad1), .unset, .unset, .unset, .unset, .unset, .unset, .unset] [(.ref ad1)]) _
  refine Go.of (fun _ k => XS.iconst X2.here hx rfl (hb hby at_10) k) ?_
  show Go p e below T2 (mkF m 11 #[.val (.int x0), .val (.int x1), .val (.ref ad1), .unset, .unset, .unset, .unset, .unset, .unset, .unset] [(.int (1 : Int32)), (.ref ad1)]) _
  refine Go.of (fun _ k => XS.iloadN X2.here hx rfl (hb hby at_11) rfl  k) ?_
  show Go p e below T2 (mkF m 12 #[.val (.int x0), .val (.int x1), .val (.ref ad1), .unset, .unset, .unset, .unset, .unset, .unset, .unset] [(.int x0), (.int (1 : Int32)), (.ref ad1)]) _
  refine Go.of (fun _ k => XS.bipush X2.here hx rfl (hb hby at_12) k) ?_
  show Go p e below T2 (mkF m 14 #[.val (.int x0), .val (.int x1), .val (.ref ad1), .unset, .unset, .unset, .unset, .unset, .unset, .unset] [(.int (8 : Int32)), (.int x0), (.int (1 : Int32)), (.ref ad1)]) _
  refine Go.of (fun _ k => XS.ishr X2.here hx rfl (hb hby at_14) rfl k) ?_
  show Go p e below T2 (mkF m 15 #[.val (.int x0), .val (.int x1), .val (.ref ad1), .unset, .unset, .unset, .unset, .unset, .unset, .unset] [(.int (x0 >>> ((8 : Int32) &&& 31))), (.int (1 : Int32)), (.ref ad1)]) _
  refine Go.of (fun _ k => XS.i2b X2.here hx rfl (hb hby at_15) rfl k) ?_
  show Go p e below T2 (mkF m 16 #[.val (.int x0), .val (.int x1), .val (.ref ad1), .unset, .unset, .unset, .unset, .unset, .unset, .unset] [(.int ((x0 >>> ((8 : Int32) &&& 31)).toInt8.toInt32)), (.int (1 : Int32)), (.ref ad1)]) _
  obtain ⟨clq3, Arq3, qq3, Sq3, Nnq3, Hq3, Gq3⟩ := V_ad1
  have hin3 : ¬ ((1 : Int32) < 0 ∨ clq3.slots.size ≤ ((1 : Int32)).toNatClampNeg) := inb_of Sq3 ⟨by decide, by decide⟩
  obtain ⟨T3, h3, X3, e3, W3, st3⟩ := stB X2 hx hZ e2 Arq3 (j := (1 : Int32)) hin3 (g := (mkF m 16 #[.val (.int x0), .val (.int x1), .val (.ref ad1), .unset, .unset, .unset, .unset, .unset, .unset, .unset] [(.int ((x0 >>> ((8 : Int32) &&& 31)).toInt8.toInt32)), (.int (1 : Int32)), (.ref ad1)])) rfl rfl (hb hby at_16)
  have V_ad1 : Arv Z h3 ad1 kc1 .byte (4 : Int32) [(.int (nar .byte (x0.toInt8.toInt32))), (.int (nar .byte ((x0 >>> ((8 : Int32) &&& 31)).toInt8.toInt32))), (.int (0 : Int32)), (.int (0 : Int32))] (.int (0 : Int32)) := Arv.set Arq3 qq3 Sq3 Nnq3 Hq3 Gq3 (fits_nar_byte _) W3 1 rfl (Nat.le_of_ble_eq_true rfl)
  have N3 := Fr.snoc X3 N2 ge_ad1
  have Z0 := Nat.le_trans Z0 (Keep.of_wr W3).1
  refine Go.of (fun _ k => st3 _ k) ?_
  show Go p e below T3 (mkF m 17 #[.val (.int x0), .val (.int x1), .val (.ref ad1), .unset, .unset, .unset, .unset, .unset, .unset, .unset] []) _
  refine Go.of (fun _ k => XS.aloadN X3.here hx rfl (hb hby at_17) rfl rfl  k) ?_
  show Go p e below T3 (mkF m 18 #[.val (.int x0), .val (.int x1), .val (.ref ad1), .unset, .unset, .unset, .unset, .unset, .unset, .unset] [(.ref ad1)]) _
  refine Go.of (fun _ k => XS.iconst X3.here hx rfl (hb hby at_18) k) ?_
  show Go p e below T3 (mkF m 19 #[.val (.int x0), .val (.int x1), .val (.ref ad1), .unset, .unset, .unset, .unset, .unset, .unset, .unset] [(.int (2 : Int32)), (.ref ad1)]) _
  refine Go.of (fun _ k => XS.iloadN X3.here hx rfl (hb hby at_19) rfl  k) ?_
  show Go p e below T3 (mkF m 20 #[.val (.int x0), .val (.int x1), .val (.ref ad1), .unset, .unset, .unset, .unset, .unset, .unset, .unset] [(.int x0), (.int (2 : Int32)), (.ref ad1)]) _
  refine Go.of (fun _ k => XS.bipush X3.here hx rfl (hb hby at_20) k) ?_
  show Go p e below T3 (mkF m 22 #[.val (.int x0), .val (.int x1), .val (.ref ad1), .unset, .unset, .unset, .unset, .unset, .unset, .unset] [(.int (16 : Int32)), (.int x0), (.int (2 : Int32)), (.ref ad1)]) _
  refine Go.of (fun _ k => XS.ishr X3.here hx rfl (hb hby at_22) rfl k) ?_
  show Go p e below T3 (mkF m 23 #[.val (.int x0), .val (.int x1), .val (.ref ad1), .unset, .unset, .unset, .unset, .unset, .unset, .unset] [(.int (x0 >>> ((16 : Int32) &&& 31))), (.int (2 : Int32)), (.ref ad1)]) _
  refine Go.of (fun _ k => XS.i2b X3.here hx rfl (hb hby at_23) rfl k) ?_
  show Go p e below T3 (mkF m 24 #[.val (.int x0), .val (.int x1), .val (.ref ad1), .unset, .unset, .unset, .unset, .unset, .unset, .unset] [(.int ((x0 >>> ((16 : Int32) &&& 31)).toInt8.toInt32)), (.int (2 : Int32)), (.ref ad1)]) _
  obtain ⟨clq4, Arq4, qq4, Sq4, Nnq4, Hq4, Gq4⟩ := V_ad1
  have hin4 : ¬ ((2 : Int32) < 0 ∨ clq4.slots.size ≤ ((2 : Int32)).toNatClampNeg) := inb_of Sq4 ⟨by decide, by decide⟩
  obtain ⟨T4, h4, X4, e4, W4, st4⟩ := stB X3 hx hZ e3 Arq4 (j := (2 : Int32)) hin4 (g := (mkF m 24 #[.val (.int x0), .val (.int x1), .val (.ref ad1), .unset, .unset, .unset, .unset, .unset, .unset, .unset] [(.int ((x0 >>> ((16 : Int32) &&& 31)).toInt8.toInt32)), (.int (2 : Int32)), (.ref ad1)])) rfl rfl (hb hby at_24)
  have V_ad1 : Arv Z h4 ad1 kc1 .byte (4 : Int32) [(.int (nar .byte (x0.toInt8.toInt32))), (.int (nar .byte ((x0 >>> ((8 : Int32) &&& 31)).toInt8.toInt32))), (.int (nar .byte ((x0 >>> ((16 : Int32) &&& 31)).toInt8.toInt32))), (.int (0 : Int32))] (.int (0 : Int32)) := Arv.set Arq4 qq4 Sq4 Nnq4 Hq4 Gq4 (fits_nar_byte _) W4 2 rfl (Nat.le_of_ble_eq_true rfl)
  have N4 := Fr.snoc X4 N3 ge_ad1
  have Z0 := Nat.le_trans Z0 (Keep.of_wr W4).1
  refine Go.of (fun _ k => st4 _ k) ?_
  show Go p e below T4 (mkF m 25 #[.val (.int x0), .val (.int x1), .val (.ref ad1), .unset, .unset, .unset, .unset, .unset, .unset, .unset] []) _
  refine Go.of (fun _ k => XS.aloadN X4.here hx rfl (hb hby at_25) rfl rfl  k) ?_
  show Go p e below T4 (mkF m 26 #[.val (.int x0), .val (.int x1), .val (.ref ad1), .unset, .unset, .unset, .unset, .unset, .unset, .unset] [(.ref ad1)]) _
  refine Go.of (fun _ k => XS.iconst X4.here hx rfl (hb hby at_26) k) ?_
  show Go p e below T4 (mkF m 27 #[.val (.int x0), .val (.int x1), .val (.ref ad1), .unset, .unset, .unset, .unset, .unset, .unset, .unset] [(.int (3 : Int32)), (.ref ad1)]) _
  refine Go.of (fun _ k => XS.iloadN X4.here hx rfl (hb hby at_27) rfl  k) ?_
  show Go p e below T4 (mkF m 28 #[.val (.int x0), .val (.int x1), .val (.ref ad1), .unset, .unset, .unset, .unset, .unset, .unset, .unset] [(.int x0), (.int (3 : Int32)), (.ref ad1)]) _
  refine Go.of (fun _ k => XS.bipush X4.here hx rfl (hb hby at_28) k) ?_
  show Go p e below T4 (mkF m 30 #[.val (.int x0), .val (.int x1), .val (.ref ad1), .unset, .unset, .unset, .unset, .unset, .unset, .unset] [(.int (24 : Int32)), (.int x0), (.int (3 : Int32)), (.ref ad1)]) _
  refine Go.of (fun _ k => XS.ishr X4.here hx rfl (hb hby at_30) rfl k) ?_
  show Go p e below T4 (mkF m 31 #[.val (.int x0), .val (.int x1), .val (.ref ad1), .unset, .unset, .unset, .unset, .unset, .unset, .unset] [(.int (x0 >>> ((24 : Int32) &&& 31))), (.int (3 : Int32)), (.ref ad1)]) _
  refine Go.of (fun _ k => XS.i2b X4.here hx rfl (hb hby at_31) rfl k) ?_
  show Go p e below T4 (mkF m 32 #[.val (.int x0), .val (.int x1), .val (.ref ad1), .unset, .unset, .unset, .unset, .unset, .unset, .unset] [(.int ((x0 >>> ((24 : Int32) &&& 31)).toInt8.toInt32)), (.int (3 : Int32)), (.ref ad1)]) _
  obtain ⟨clq5, Arq5, qq5, Sq5, Nnq5, Hq5, Gq5⟩ := V_ad1
  have hin5 : ¬ ((3 : Int32) < 0 ∨ clq5.slots.size ≤ ((3 : Int32)).toNatClampNeg) := inb_of Sq5 ⟨by decide, by decide⟩
  obtain ⟨T5, h5, X5, e5, W5, st5⟩ := stB X4 hx hZ e4 Arq5 (j := (3 : Int32)) hin5 (g := (mkF m 32 #[.val (.int x0), .val (.int x1), .val (.ref ad1), .unset, .unset, .unset, .unset, .unset, .unset, .unset] [(.int ((x0 >>> ((24 : Int32) &&& 31)).toInt8.toInt32)), (.int (3 : Int32)), (.ref ad1)])) rfl rfl (hb hby at_32)
  have V_ad1 : Arv Z h5 ad1 kc1 .byte (4 : Int32) [(.int (nar .byte (x0.toInt8.toInt32))), (.int (nar .byte ((x0 >>> ((8 : Int32) &&& 31)).toInt8.toInt32))), (.int (nar .byte ((x0 >>> ((16 : Int32) &&& 31)).toInt8.toInt32))), (.int (nar .byte ((x0 >>> ((24 : Int32) &&& 31)).toInt8.toInt32)))] (.int (0 : Int32)) := Arv.set Arq5 qq5 Sq5 Nnq5 Hq5 Gq5 (fits_nar_byte _) W5 3 rfl (Nat.le_of_ble_eq_true rfl)
  have N5 := Fr.snoc X5 N4 ge_ad1
  have Z0 := Nat.le_trans Z0 (Keep.of_wr W5).1
  refine Go.of (fun _ k => st5 _ k) ?_
  show Go p e below T5 (mkF m 33 #[.val (.int x0), .val (.int x1), .val (.ref ad1), .unset, .unset, .unset, .unset, .unset, .unset, .unset] []) _
  obtain ⟨c0, hc0⟩ : ∃ c, c = (nar .byte (x0.toInt8.toInt32)) := ⟨_, rfl⟩
  obtain ⟨c1, hc1⟩ : ∃ c, c = (nar .byte ((x0 >>> ((8 : Int32) &&& 31)).toInt8.toInt32)) := ⟨_, rfl⟩
  obtain ⟨c2, hc2⟩ : ∃ c, c = (nar .byte ((x0 >>> ((16 : Int32) &&& 31)).toInt8.toInt32)) := ⟨_, rfl⟩
  obtain ⟨c3, hc3⟩ : ∃ c, c = (nar .byte ((x0 >>> ((24 : Int32) &&& 31)).toInt8.toInt32)) := ⟨_, rfl⟩
  rw [← hc0, ← hc1, ← hc2, ← hc3] at V_ad1
  refine Go.of (fun _ k => XS.iloadN X5.here hx rfl (hb hby at_33) rfl  k) ?_
  show Go p e below T5 (mkF m 34 #[.val (.int x0), .val (.int x1), .val (.ref ad1), .unset, .unset, .unset, .unset, .unset, .unset, .unset] [(.int x1)]) _
  refine Go.of (fun _ k => X5.ldcInt hx hown (mvT hZ (hw _ (List.mem_of_getElem? (i := 1) rfl))) (g := (mkF m 34 #[.val (.int x0), .val (.int x1), .val (.ref ad1), .unset, .unset, .unset, .unset, .unset, .unset, .unset] [(.int x1)])) rfl (hb hby at_34) _ k) ?_
  show Go p e below T5 (mkF m 36 #[.val (.int x0), .val (.int x1), .val (.ref ad1), .unset, .unset, .unset, .unset, .unset, .unset, .unset] [(.int (2147483647 : Int32)), (.int x1)]) _
  refine Go.of (fun _ k => XS.iand X5.here hx rfl (hb hby at_36) rfl k) ?_
  show Go p e below T5 (mkF m 37 #[.val (.int x0), .val (.int x1), .val (.ref ad1), .unset, .unset, .unset, .unset, .unset, .unset, .unset] [(.int (x1 &&& (2147483647 : Int32)))]) _
  refine Go.of (fun _ k => XS.iconst X5.here hx rfl (hb hby at_37) k) ?_
  show Go p e below T5 (mkF m 38 #[.val (.int x0), .val (.int x1), .val (.ref ad1), .unset, .unset, .unset, .unset, .unset, .unset, .unset] [(.int (5 : Int32)), (.int (x1 &&& (2147483647 : Int32)))]) _
  refine Go.of (fun _ k => iremM X5 hx rfl (hb hby at_38) rfl (by decide) k) ?_
  show Go p e below T5 (mkF m 39 #[.val (.int x0), .val (.int x1), .val (.ref ad1), .unset, .unset, .unset, .unset, .unset, .unset, .unset] [(.int ((x1 &&& (2147483647 : Int32)) % (5 : Int32)))]) _
  refine Go.of (fun _ k => XS.istoreN X5.here hx rfl (hb hby at_39) rfl (l' := #[.val (.int x0), .val (.int x1), .val (.ref ad1), .val (.int ((x1 &&& (2147483647 : Int32)) % (5 : Int32))), .unset, .unset, .unset, .unset, .unset, .unset]) rfl k) ?_
  show Go p e below T5 (mkF m 40 #[.val (.int x0), .val (.int x1), .val (.ref ad1), .val (.int ((x1 &&& (2147483647 : Int32)) % (5 : Int32))), .unset, .unset, .unset, .unset, .unset, .unset] []) _
  generalize h_aa : ((x1 &&& (2147483647 : Int32)) % (5 : Int32)) = aa
  have q1 := own_rem (x := x1 &&& 2147483647) (y := 5) (own_mask31 x1).1 (by decide)
  rw [h_aa, k5] at q1
  have q2 : ((5 : Int32) - aa).toInt = 5 - aa.toInt := by rw [Jvm.Kit.i32_sub (by rw [k5]; omega) (by rw [k5]; omega), k5]
  refine Go.of (fun _ k => XS.iloadN X5.here hx rfl (hb hby at_40) rfl  k) ?_
  show Go p e below T5 (mkF m 41 #[.val (.int x0), .val (.int x1), .val (.ref ad1), .val (.int aa), .unset, .unset, .unset, .unset, .unset, .unset] [(.int x1)]) _
  refine Go.of (fun _ k => XS.iconst X5.here hx rfl (hb hby at_41) k) ?_
  show Go p e below T5 (mkF m 42 #[.val (.int x0), .val (.int x1), .val (.ref ad1), .val (.int aa), .unset, .unset, .unset, .unset, .unset, .unset] [(.int (3 : Int32)), (.int x1)]) _
  refine Go.of (fun _ k => XS.iushr X5.here hx rfl (hb hby at_42) rfl k) ?_
  show Go p e below T5 (mkF m 43 #[.val (.int x0), .val (.int x1), .val (.ref ad1), .val (.int aa), .unset, .unset, .unset, .unset, .unset, .unset] [(.int ((x1.toUInt32 >>> ((3 : Int32) &&& 31).toUInt32).toInt32))]) _
  refine Go.of (fun _ k => X5.ldcInt hx hown (mvT hZ (hw _ (List.mem_of_getElem? (i := 1) rfl))) (g := (mkF m 43 #[.val (.int x0), .val (.int x1), .val (.ref ad1), .val (.int aa), .unset, .unset, .unset, .unset, .unset, .unset] [(.int ((x1.toUInt32 >>> ((3 : Int32) &&& 31).toUInt32).toInt32))])) rfl (hb hby at_43) _ k) ?_
  show Go p e below T5 (mkF m 45 #[.val (.int x0), .val (.int x1), .val (.ref ad1), .val (.int aa), .unset, .unset, .unset, .unset, .unset, .unset] [(.int (2147483647 : Int32)), (.int ((x1.toUInt32 >>> ((3 : Int32) &&& 31).toUInt32).toInt32))]) _
  refine Go.of (fun _ k => XS.iand X5.here hx rfl (hb hby at_45) rfl k) ?_
  show Go p e below T5 (mkF m 46 #[.val (.int x0), .val (.int x1), .val (.ref ad1), .val (.int aa), .unset, .unset, .unset, .unset, .unset, .unset] [(.int (((x1.toUInt32 >>> ((3 : Int32) &&& 31).toUInt32).toInt32) &&& (2147483647 : Int32)))]) _
  refine Go.of (fun _ k => XS.iconst X5.here hx rfl (hb hby at_46) k) ?_
  show Go p e below T5 (mkF m 47 #[.val (.int x0), .val (.int x1), .val (.ref ad1), .val (.int aa), .unset, .unset, .unset, .unset, .unset, .unset] [(.int (5 : Int32)), (.int (((x1.toUInt32 >>> ((3 : Int32) &&& 31).toUInt32).toInt32) &&& (2147483647 : Int32)))]) _
  refine Go.of (fun _ k => XS.iloadN X5.here hx rfl (hb hby at_47) rfl  k) ?_
  show Go p e below T5 (mkF m 48 #[.val (.int x0), .val (.int x1), .val (.ref ad1), .val (.int aa), .unset, .unset, .unset, .unset, .unset, .unset] [(.int aa), (.int (5 : Int32)), (.int (((x1.toUInt32 >>> ((3 : Int32) &&& 31).toUInt32).toInt32) &&& (2147483647 : Int32)))]) _
  refine Go.of (fun _ k => XS.isub X5.here hx rfl (hb hby at_48) rfl k) ?_
  show Go p e below T5 (mkF m 49 #[.val (.int x0), .val (.int x1), .val (.ref ad1), .val (.int aa), .unset, .unset, .unset, .unset, .unset, .unset] [(.int ((5 : Int32) - aa)), (.int (((x1.toUInt32 >>> ((3 : Int32) &&& 31).toUInt32).toInt32) &&& (2147483647 : Int32)))]) _
  refine Go.of (fun _ k => iremM X5 hx rfl (hb hby at_49) rfl (fun q => by rw [own_eq, q2, k0] at q; omega) k) ?_
  show Go p e below T5 (mkF m 50 #[.val (.int x0), .val (.int x1), .val (.ref ad1), .val (.int aa), .unset, .unset, .unset, .unset, .unset, .unset] [(.int ((((x1.toUInt32 >>> ((3 : Int32) &&& 31).toUInt32).toInt32) &&& (2147483647 : Int32)) % ((5 : Int32) - aa)))]) _
  refine Go.of (fun _ k => XS.istore X5.here hx rfl (hb hby at_50) rfl (l' := #[.val (.int x0), .val (.int x1), .val (.ref ad1), .val (.int aa), .val (.int ((((x1.toUInt32 >>> ((3 : Int32) &&& 31).toUInt32).toInt32) &&& (2147483647 : Int32)) % ((5 : Int32) - aa))), .unset, .unset, .unset, .unset, .unset]) rfl k) ?_
  show Go p e below T5 (mkF m 52 #[.val (.int x0), .val (.int x1), .val (.ref ad1), .val (.int aa), .val (.int ((((x1.toUInt32 >>> ((3 : Int32) &&& 31).toUInt32).toInt32) &&& (2147483647 : Int32)) % ((5 : Int32) - aa))), .unset, .unset, .unset, .unset, .unset] []) _
  generalize h_nn : ((((x1.toUInt32 >>> ((3 : Int32) &&& 31).toUInt32).toInt32) &&& (2147483647 : Int32)) % ((5 : Int32) - aa)) = nn
  have q3 := own_rem (x := ((x1.toUInt32 >>> ((3 : Int32) &&& 31).toUInt32).toInt32) &&& 2147483647) (y := 5 - aa) (own_mask31 _).1 (by rw [q2]; omega)
  rw [h_nn, q2] at q3
  refine Go.of (fun _ k => XS.iloadN X5.here hx rfl (hb hby at_52) rfl  k) ?_
  show Go p e below T5 (mkF m 53 #[.val (.int x0), .val (.int x1), .val (.ref ad1), .val (.int aa), .val (.int nn), .unset, .unset, .unset, .unset, .unset] [(.int aa)]) _
  refine Go.of (fun _ k => XS.iload X5.here hx rfl (hb hby at_53) rfl  k) ?_
  show Go p e below T5 (mkF m 55 #[.val (.int x0), .val (.int x1), .val (.ref ad1), .val (.int aa), .val (.int nn), .unset, .unset, .unset, .unset, .unset] [(.int nn), (.int aa)]) _
  refine Go.of (fun _ k => XS.iadd X5.here hx rfl (hb hby at_55) rfl k) ?_
  show Go p e below T5 (mkF m 56 #[.val (.int x0), .val (.int x1), .val (.ref ad1), .val (.int aa), .val (.int nn), .unset, .unset, .unset, .unset, .unset] [(.int (aa + nn))]) _
  refine Go.of (fun _ k => XS.istore X5.here hx rfl (hb hby at_56) rfl (l' := #[.val (.int x0), .val (.int x1), .val (.ref ad1), .val (.int aa), .val (.int nn), .val (.int (aa + nn)), .unset, .unset, .unset, .unset]) rfl k) ?_
  show Go p e below T5 (mkF m 58 #[.val (.int x0), .val (.int x1), .val (.ref ad1), .val (.int aa), .val (.int nn), .val (.int (aa + nn)), .unset, .unset, .unset, .unset] []) _
  generalize h_ee : (aa + nn) = ee
  have b1 : ee.toInt = aa.toInt + nn.toNatClampNeg := by rw [← h_ee, Jvm.Kit.i32_add (by omega) (by omega)]; simp only [Int32.toNatClampNeg]; omega
  have b2 : ee.toInt ≤ 4 := by simp only [Int32.toNatClampNeg] at b1; omega
  have hin : ∀ k : Int32, 0 ≤ k.toInt → k.toInt ≤ 3 → k < nn → ¬ (aa + k) < 0 ∧ (aa + k) < 4 := by
    intro k r1 r2 r3
    rw [own_lt] at r3
    rw [own_lt, own_lt, Jvm.Kit.i32_add (by omega) (by omega), k0, k4]
    omega
  obtain ⟨T6, h6, X6, e6, E6, A6, D6, -, st6⟩ := newO X5 hx hZ hown (hw _ (List.mem_of_getElem? (i := 2) rfl)) (hw _ (List.mem_of_getElem? (i := 3) rfl)) (hw _ (List.mem_of_getElem? (i := 4) rfl)) e5 (g := (mkF m 58 #[.val (.int x0), .val (.int x1), .val (.ref ad1), .val (.int aa), .val (.int nn), .val (.int ee), .unset, .unset, .unset, .unset] [])) rfl (hb hby at_58) (by decide) (by decide)
  obtain ⟨ad6, g6⟩ : ∃ z, z = h5.size := ⟨_, rfl⟩
  rw [← g6] at A6 D6 st6
  have ne_ad1_ad6 : ad1 ≠ ad6 := Nat.ne_of_lt (Nat.lt_of_lt_of_le V_ad1.lt (Nat.le_of_eq g6.symm))
  have ge_ad6 : n0 ≤ ad6 := Nat.le_trans Z0 (Nat.le_of_eq g6.symm)
  have Z0 := Nat.le_trans Z0 E6.1
  have V_ad1 := V_ad1.ext E6
  have E_ad6 := A6
  have F_bytes_ad6 : Fld Z h6 ad6 "com/example/cascadex/cascadex/Utf8" "bytes" "[B" .null := D6 (Or.inr (hw _ (List.mem_of_getElem? (i := 12) rfl))) (ty := (.array .byte)) (by decide)
  have F_start_ad6 : Fld Z h6 ad6 "com/example/cascadex/cascadex/Utf8" "start" "I" (.int (0 : Int32)) := D6 (Or.inr (hw _ (List.mem_of_getElem? (i := 14) rfl))) (ty := .int) (by decide)
  have F_end_ad6 : Fld Z h6 ad6 "com/example/cascadex/cascadex/Utf8" "end" "I" (.int (0 : Int32)) := D6 (Or.inr (hw _ (List.mem_of_getElem? (i := 16) rfl))) (ty := .int) (by decide)
  have F_hash_ad6 : Fld Z h6 ad6 "com/example/cascadex/cascadex/Utf8" "hash" "I" (.int (0 : Int32)) := D6 (Or.inl (hw _ (List.mem_of_getElem? (i := 30) rfl))) (ty := .int) (by decide)
  refine Go.of (fun _ k => st6 _ k) ?_
  show Go p e below T6 (mkF m 61 #[.val (.int x0), .val (.int x1), .val (.ref ad1), .val (.int aa), .val (.int nn), .val (.int ee), .unset, .unset, .unset, .unset] [(.ref ad6)]) _
  refine Go.of (fun _ k => XS.dup X6.here hx rfl (hb hby at_61) rfl rfl k) ?_
  show Go p e below T6 (mkF m 62 #[.val (.int x0), .val (.int x1), .val (.ref ad1), .val (.int aa), .val (.int nn), .val (.int ee), .unset, .unset, .unset, .unset] [(.ref ad6), (.ref ad6)]) _
  refine Go.of (fun _ k => XS.aloadN X6.here hx rfl (hb hby at_62) rfl rfl  k) ?_
  show Go p e below T6 (mkF m 63 #[.val (.int x0), .val (.int x1), .val (.ref ad1), .val (.int aa), .val (.int nn), .val (.int ee), .unset, .unset, .unset, .unset] [(.ref ad1), (.ref ad6), (.ref ad6)]) _
  refine Go.of (fun _ k => XS.iloadN X6.here hx rfl (hb hby at_63) rfl  k) ?_
  show Go p e below T6 (mkF m 64 #[.val (.int x0), .val (.int x1), .val (.ref ad1), .val (.int aa), .val (.int nn), .val (.int ee), .unset, .unset, .unset, .unset] [(.int aa), (.ref ad1), (.ref ad6), (.ref ad6)]) _
  refine Go.of (fun _ k => XS.iload X6.here hx rfl (hb hby at_64) rfl  k) ?_
  show Go p e below T6 (mkF m 66 #[.val (.int x0), .val (.int x1), .val (.ref ad1), .val (.int aa), .val (.int nn), .val (.int ee), .unset, .unset, .unset, .unset] [(.int ee), (.int aa), (.ref ad1), (.ref ad6), (.ref ad6)]) _
  obtain ⟨_, _, ⟨T7, L7, kq7, nq7⟩, -, X7, ⟨Lc7, hQ7, l7, y7, z7⟩, st7⟩ := X6.specialBack hx (y := (⟨"com/example/cascadex/cascadex/Utf8", "<init>", "([BII)V"⟩ : MethodName)) rfl hown (mvT hZ (hw _ (List.mem_of_getElem? (i := 5) rfl))) (mvT hZ (hw _ (List.mem_of_getElem? (i := 6) rfl))) (mvT hZ (hw _ (List.mem_of_getElem? (i := 7) rfl))) (by decide) (backOf (W := 1) (rm1 l Z a0 hw [] ad6 ad1 aa ee h6 n0 Z0 ge_ad6 E_ad6 F_bytes_ad6 F_start_ad6 F_end_ad6 F_hash_ad6) hZ (hw _ (List.mem_of_getElem? (i := 7) rfl)) (hw _ (List.mem_of_getElem? (i := 4) rfl)) (by decide) (by decide)) (g := (mkF m 66 #[.val (.int x0), .val (.int x1), .val (.ref ad1), .val (.int aa), .val (.int nn), .val (.int ee), .unset, .unset, .unset, .unset] [(.int ee), (.int aa), (.ref ad1), (.ref ad6), (.ref ad6)])) rfl (by rw [hml]; rfl) (Steps.refl _) (a := ad6) (argsL := [(.ref ad1), (.int aa), (.int ee)]) (rest := [(.ref ad6)]) (lenOf own_pd1 rfl) rfl (by show 2 * 0 + _ ≤ _; exact Nat.le_of_eq rfl) (hb hby at_66) (fun _ _ => ⟨rfl, e6, (by decide : 2 + 0 ≤ _), (by decide : 9 + 0 ≤ _)⟩)
  dsimp only [Pt.U, Pt.locs, Pt.cells, Pt.slots] at X7 l7 y7 z7 st7 hQ7
  subst l7 y7 z7
  obtain ⟨rfl, Nq7, Kq7, fq7_0, fq7_1, fq7_2, fq7_3, fq7_4⟩ := hQ7
  have N7 := Fr.app N5 Nq7
  have Z0 := Nat.le_trans Z0 Kq7.1
  have V_ad1 := V_ad1.keep Kq7 (ninS ne_ad1_ad6 nin0)
  have E_ad6 := fq7_0
  have F_bytes_ad6 := fq7_1
  have F_start_ad6 := fq7_2
  have F_end_ad6 := fq7_3
  have F_hash_ad6 := fq7_4
  refine Go.of (fun _ k => st7.trans k) ?_
  show Go p e below T7 (mkF m 69 #[.val (.int x0), .val (.int x1), .val (.ref ad1), .val (.int aa), .val (.int nn), .val (.int ee), .unset, .unset, .unset, .unset] [(.ref ad6)]) _
  refine Go.of (fun _ k => XS.astore X7.here hx rfl (hb hby at_69) rfl rfl (l' := #[.val (.int x0), .val (.int x1), .val (.ref ad1), .val (.int aa), .val (.int nn), .val (.int ee), .val (.ref ad6), .unset, .unset, .unset]) rfl k) ?_
  show Go p e below T7 (mkF m 71 #[.val (.int x0), .val (.int x1), .val (.ref ad1), .val (.int aa), .val (.int nn), .val (.int ee), .val (.ref ad6), .unset, .unset, .unset] []) _
  refine Go.of (fun _ k => XS.iload X7.here hx rfl (hb hby at_71) rfl  k) ?_
  show Go p e below T7 (mkF m 73 #[.val (.int x0), .val (.int x1), .val (.ref ad1), .val (.int aa), .val (.int nn), .val (.int ee), .val (.ref ad6), .unset, .unset, .unset] [(.int nn)]) _
  obtain ⟨_, _, ⟨T8, L8, kq8, nq8⟩, -, X8, ⟨Lc8, hQ8, l8, y8, z8⟩, st8⟩ := Jvm.LawKit.callS X7 hx (y := (⟨"com/example/cascadex/cascadex/Utf8HashCodePinLaw", "pow31", "(I)I"⟩ : MethodName)) hown (mvT hZ (hw _ (List.mem_of_getElem? (i := 17) rfl))) (mvT hZ (hw _ (List.mem_of_getElem? (i := 18) rfl))) (mvT hZ (hw _ (List.mem_of_getElem? (i := 19) rfl))) (mvT hZ (hw _ (List.mem_of_getElem? (i := 20) rfl))) (by decide) (backOf (W := 0) (rm3 l Z a0 hw [] nn T7.heap n0 Z0 ) hZ (hw _ (List.mem_of_getElem? (i := 20) rfl)) (hw _ (List.mem_of_getElem? (i := 19) rfl)) (by decide) (by decide)) (g := (mkF m 73 #[.val (.int x0), .val (.int x1), .val (.ref ad1), .val (.int aa), .val (.int nn), .val (.int ee), .val (.ref ad6), .unset, .unset, .unset] [(.int nn)])) rfl (by rw [hml]; rfl) (argsL := [(.int nn)]) (rest := []) (lenOf own_pd0 rfl) rfl (by show 2 * 0 + _ ≤ _; exact Nat.le_of_eq rfl) (hb hby at_73) (fun _ _ => ⟨rfl, rfl, (by decide : 2 + 0 ≤ _), (by decide : 9 + 0 ≤ _)⟩)
  dsimp only [Pt.U, Pt.locs, Pt.cells, Pt.slots] at X8 l8 y8 z8 st8 hQ8
  subst l8 y8 z8
  obtain ⟨rfl, Nq8, e8⟩ := hQ8
  have e8 := e8.trans rfl
  have N8 := Fr.app N7 Nq8
  refine Go.of (fun _ k => st8 _ k) ?_
  show Go p e below T8 (mkF m 76 #[.val (.int x0), .val (.int x1), .val (.ref ad1), .val (.int aa), .val (.int nn), .val (.int ee), .val (.ref ad6), .unset, .unset, .unset] [(.int (fP nn))]) _
  refine Go.of (fun _ k => XS.aloadN X8.here hx rfl (hb hby at_76) rfl rfl  k) ?_
  show Go p e below T8 (mkF m 77 #[.val (.int x0), .val (.int x1), .val (.ref ad1), .val (.int aa), .val (.int nn), .val (.int ee), .val (.ref ad6), .unset, .unset, .unset] [(.ref ad1), (.int (fP nn))]) _
  refine Go.of (fun _ k => XS.iloadN X8.here hx rfl (hb hby at_77) rfl  k) ?_
  show Go p e below T8 (mkF m 78 #[.val (.int x0), .val (.int x1), .val (.ref ad1), .val (.int aa), .val (.int nn), .val (.int ee), .val (.ref ad6), .unset, .unset, .unset] [(.int aa), (.ref ad1), (.int (fP nn))]) _
  refine Go.of (fun _ k => XS.iload X8.here hx rfl (hb hby at_78) rfl  k) ?_
  show Go p e below T8 (mkF m 80 #[.val (.int x0), .val (.int x1), .val (.ref ad1), .val (.int aa), .val (.int nn), .val (.int ee), .val (.ref ad6), .unset, .unset, .unset] [(.int nn), (.int aa), (.ref ad1), (.int (fP nn))]) _
  refine Go.of (fun _ k => XS.iconst X8.here hx rfl (hb hby at_80) k) ?_
  show Go p e below T8 (mkF m 81 #[.val (.int x0), .val (.int x1), .val (.ref ad1), .val (.int aa), .val (.int nn), .val (.int ee), .val (.ref ad6), .unset, .unset, .unset] [(.int (0 : Int32)), (.int nn), (.int aa), (.ref ad1), (.int (fP nn))]) _
  obtain ⟨_, _, ⟨T9, L9, kq9, nq9⟩, -, X9, ⟨Lc9, hQ9, l9, y9, z9⟩, st9⟩ := Jvm.LawKit.callS X8 hx (y := (⟨"com/example/cascadex/cascadex/Utf8HashCodePinLaw", "term", "([BIII)I"⟩ : MethodName)) hown (mvT hZ (hw _ (List.mem_of_getElem? (i := 21) rfl))) (mvT hZ (hw _ (List.mem_of_getElem? (i := 22) rfl))) (mvT hZ (hw _ (List.mem_of_getElem? (i := 19) rfl))) (mvT hZ (hw _ (List.mem_of_getElem? (i := 23) rfl))) (by decide) (backOf (W := 1) (rm4 l Z a0 hw [] ad1 aa nn (0 : Int32) c0 c1 c2 c3 kc1 T7.heap n0 Z0 V_ad1 (hin _ (by decide) (by decide))) hZ (hw _ (List.mem_of_getElem? (i := 23) rfl)) (hw _ (List.mem_of_getElem? (i := 19) rfl)) (by decide) (by decide)) (g := (mkF m 81 #[.val (.int x0), .val (.int x1), .val (.ref ad1), .val (.int aa), .val (.int nn), .val (.int ee), .val (.ref ad6), .unset, .unset, .unset] [(.int (0 : Int32)), (.int nn), (.int aa), (.ref ad1), (.int (fP nn))])) rfl (by rw [hml]; rfl) (argsL := [(.ref ad1), (.int aa), (.int nn), (.int (0 : Int32))]) (rest := [(.int (fP nn))]) (lenOf own_pd2 rfl) rfl (by show 2 * 0 + _ ≤ _; exact Nat.le_of_eq rfl) (hb hby at_81) (fun _ _ => ⟨rfl, e8, (by decide : 2 + 0 ≤ _), (by decide : 9 + 0 ≤ _)⟩)
  dsimp only [Pt.U, Pt.locs, Pt.cells, Pt.slots] at X9 l9 y9 z9 st9 hQ9
  subst l9 y9 z9
  obtain ⟨rfl, Nq9, e9⟩ := hQ9
  have e9 := e9.trans rfl
  have N9 := Fr.app N8 Nq9
  refine Go.of (fun _ k => st9 _ k) ?_
  show Go p e below T9 (mkF m 84 #[.val (.int x0), .val (.int x1), .val (.ref ad1), .val (.int aa), .val (.int nn), .val (.int ee), .val (.ref ad6), .unset, .unset, .unset] [(.int (fTm (g4 c0 c1 c2 c3) aa nn (0 : Int32))), (.int (fP nn))]) _
  refine Go.of (fun _ k => XS.iadd X9.here hx rfl (hb hby at_84) rfl k) ?_
  show Go p e below T9 (mkF m 85 #[.val (.int x0), .val (.int x1), .val (.ref ad1), .val (.int aa), .val (.int nn), .val (.int ee), .val (.ref ad6), .unset, .unset, .unset] [(.int ((fP nn) + (fTm (g4 c0 c1 c2 c3) aa nn (0 : Int32))))]) _
  refine Go.of (fun _ k => XS.aloadN X9.here hx rfl (hb hby at_85) rfl rfl  k) ?_
  show Go p e below T9 (mkF m 86 #[.val (.int x0), .val (.int x1), .val (.ref ad1), .val (.int aa), .val (.int nn), .val (.int ee), .val (.ref ad6), .unset, .unset, .unset] [(.ref ad1), (.int ((fP nn) + (fTm (g4 c0 c1 c2 c3) aa nn (0 : Int32))))]) _
  refine Go.of (fun _ k => XS.iloadN X9.here hx rfl (hb hby at_86) rfl  k) ?_
  show Go p e below T9 (mkF m 87 #[.val (.int x0), .val (.int x1), .val (.ref ad1), .val (.int aa), .val (.int nn), .val (.int ee), .val (.ref ad6), .unset, .unset, .unset] [(.int aa), (.ref ad1), (.int ((fP nn) + (fTm (g4 c0 c1 c2 c3) aa nn (0 : Int32))))]) _
  refine Go.of (fun _ k => XS.iload X9.here hx rfl (hb hby at_87) rfl  k) ?_
  show Go p e below T9 (mkF m 89 #[.val (.int x0), .val (.int x1), .val (.ref ad1), .val (.int aa), .val (.int nn), .val (.int ee), .val (.ref ad6), .unset, .unset, .unset] [(.int nn), (.int aa), (.ref ad1), (.int ((fP nn) + (fTm (g4 c0 c1 c2 c3) aa nn (0 : Int32))))]) _
  refine Go.of (fun _ k => XS.iconst X9.here hx rfl (hb hby at_89) k) ?_
  show Go p e below T9 (mkF m 90 #[.val (.int x0), .val (.int x1), .val (.ref ad1), .val (.int aa), .val (.int nn), .val (.int ee), .val (.ref ad6), .unset, .unset, .unset] [(.int (1 : Int32)), (.int nn), (.int aa), (.ref ad1), (.int ((fP nn) + (fTm (g4 c0 c1 c2 c3) aa nn (0 : Int32))))]) _
  obtain ⟨_, _, ⟨T10, L10, kq10, nq10⟩, -, X10, ⟨Lc10, hQ10, l10, y10, z10⟩, st10⟩ := Jvm.LawKit.callS X9 hx (y := (⟨"com/example/cascadex/cascadex/Utf8HashCodePinLaw", "term", "([BIII)I"⟩ : MethodName)) hown (mvT hZ (hw _ (List.mem_of_getElem? (i := 21) rfl))) (mvT hZ (hw _ (List.mem_of_getElem? (i := 22) rfl))) (mvT hZ (hw _ (List.mem_of_getElem? (i := 19) rfl))) (mvT hZ (hw _ (List.mem_of_getElem? (i := 23) rfl))) (by decide) (backOf (W := 1) (rm4 l Z a0 hw [] ad1 aa nn (1 : Int32) c0 c1 c2 c3 kc1 T7.heap n0 Z0 V_ad1 (hin _ (by decide) (by decide))) hZ (hw _ (List.mem_of_getElem? (i := 23) rfl)) (hw _ (List.mem_of_getElem? (i := 19) rfl)) (by decide) (by decide)) (g := (mkF m 90 #[.val (.int x0), .val (.int x1), .val (.ref ad1), .val (.int aa), .val (.int nn), .val (.int ee), .val (.ref ad6), .unset, .unset, .unset] [(.int (1 : Int32)), (.int nn), (.int aa), (.ref ad1), (.int ((fP nn) + (fTm (g4 c0 c1 c2 c3) aa nn (0 : Int32))))])) rfl (by rw [hml]; rfl) (argsL := [(.ref ad1), (.int aa), (.int nn), (.int (1 : Int32))]) (rest := [(.int ((fP nn) + (fTm (g4 c0 c1 c2 c3) aa nn (0 : Int32))))]) (lenOf own_pd2 rfl) rfl (by show 2 * 0 + _ ≤ _; exact Nat.le_of_eq rfl) (hb hby at_90) (fun _ _ => ⟨rfl, e9, (by decide : 2 + 0 ≤ _), (by decide : 9 + 0 ≤ _)⟩)
  dsimp only [Pt.U, Pt.locs, Pt.cells, Pt.slots] at X10 l10 y10 z10 st10 hQ10
  subst l10 y10 z10
  obtain ⟨rfl, Nq10, e10⟩ := hQ10
  have e10 := e10.trans rfl
  have N10 := Fr.app N9 Nq10
  refine Go.of (fun _ k => st10 _ k) ?_
  show Go p e below T10 (mkF m 93 #[.val (.int x0), .val (.int x1), .val (.ref ad1), .val (.int aa), .val (.int nn), .val (.int ee), .val (.ref ad6), .unset, .unset, .unset] [(.int (fTm (g4 c0 c1 c2 c3) aa nn (1 : Int32))), (.int ((fP nn) + (fTm (g4 c0 c1 c2 c3) aa nn (0 : Int32))))]) _
  refine Go.of (fun _ k => XS.iadd X10.here hx rfl (hb hby at_93) rfl k) ?_
  show Go p e below T10 (mkF m 94 #[.val (.int x0), .val (.int x1), .val (.ref ad1), .val (.int aa), .val (.int nn), .val (.int ee), .val (.ref ad6), .unset, .unset, .unset] [(.int (((fP nn) + (fTm (g4 c0 c1 c2 c3) aa nn (0 : Int32))) + (fTm (g4 c0 c1 c2 c3) aa nn (1 : Int32))))]) _
  refine Go.of (fun _ k => XS.aloadN X10.here hx rfl (hb hby at_94) rfl rfl  k) ?_
  show Go p e below T10 (mkF m 95 #[.val (.int x0), .val (.int x1), .val (.ref ad1), .val (.int aa), .val (.int nn), .val (.int ee), .val (.ref ad6), .unset, .unset, .unset] [(.ref ad1), (.int (((fP nn) + (fTm (g4 c0 c1 c2 c3) aa nn (0 : Int32))) + (fTm (g4 c0 c1 c2 c3) aa nn (1 : Int32))))]) _
  refine Go.of (fun _ k => XS.iloadN X10.here hx rfl (hb hby at_95) rfl  k) ?_
  show Go p e below T10 (mkF m 96 #[.val (.int x0), .val (.int x1), .val (.ref ad1), .val (.int aa), .val (.int nn), .val (.int ee), .val (.ref ad6), .unset, .unset, .unset] [(.int aa), (.ref ad1), (.int (((fP nn) + (fTm (g4 c0 c1 c2 c3) aa nn (0 : Int32))) + (fTm (g4 c0 c1 c2 c3) aa nn (1 : Int32))))]) _
  refine Go.of (fun _ k => XS.iload X10.here hx rfl (hb hby at_96) rfl  k) ?_
  show Go p e below T10 (mkF m 98 #[.val (.int x0), .val (.int x1), .val (.ref ad1), .val (.int aa), .val (.int nn), .val (.int ee), .val (.ref ad6), .unset, .unset, .unset] [(.int nn), (.int aa), (.ref ad1), (.int (((fP nn) + (fTm (g4 c0 c1 c2 c3) aa nn (0 : Int32))) + (fTm (g4 c0 c1 c2 c3) aa nn (1 : Int32))))]) _
  refine Go.of (fun _ k => XS.iconst X10.here hx rfl (hb hby at_98) k) ?_
  show Go p e below T10 (mkF m 99 #[.val (.int x0), .val (.int x1), .val (.ref ad1), .val (.int aa), .val (.int nn), .val (.int ee), .val (.ref ad6), .unset, .unset, .unset] [(.int (2 : Int32)), (.int nn), (.int aa), (.ref ad1), (.int (((fP nn) + (fTm (g4 c0 c1 c2 c3) aa nn (0 : Int32))) + (fTm (g4 c0 c1 c2 c3) aa nn (1 : Int32))))]) _
  obtain ⟨_, _, ⟨T11, L11, kq11, nq11⟩, -, X11, ⟨Lc11, hQ11, l11, y11, z11⟩, st11⟩ := Jvm.LawKit.callS X10 hx (y := (⟨"com/example/cascadex/cascadex/Utf8HashCodePinLaw", "term", "([BIII)I"⟩ : MethodName)) hown (mvT hZ (hw _ (List.mem_of_getElem? (i := 21) rfl))) (mvT hZ (hw _ (List.mem_of_getElem? (i := 22) rfl))) (mvT hZ (hw _ (List.mem_of_getElem? (i := 19) rfl))) (mvT hZ (hw _ (List.mem_of_getElem? (i := 23) rfl))) (by decide) (backOf (W := 1) (rm4 l Z a0 hw [] ad1 aa nn (2 : Int32) c0 c1 c2 c3 kc1 T7.heap n0 Z0 V_ad1 (hin _ (by decide) (by decide))) hZ (hw _ (List.mem_of_getElem? (i := 23) rfl)) (hw _ (List.mem_of_getElem? (i := 19) rfl)) (by decide) (by decide)) (g := (mkF m 99 #[.val (.int x0), .val (.int x1), .val (.ref ad1), .val (.int aa), .val (.int nn), .val (.int ee), .val (.ref ad6), .unset, .unset, .unset] [(.int (2 : Int32)), (.int nn), (.int aa), (.ref ad1), (.int (((fP nn) + (fTm (g4 c0 c1 c2 c3) aa nn (0 : Int32))) + (fTm (g4 c0 c1 c2 c3) aa nn (1 : Int32))))])) rfl (by rw [hml]; rfl) (argsL := [(.ref ad1), (.int aa), (.int nn), (.int (2 : Int32))]) (rest := [(.int (((fP nn) + (fTm (g4 c0 c1 c2 c3) aa nn (0 : Int32))) + (fTm (g4 c0 c1 c2 c3) aa nn (1 : Int32))))]) (lenOf own_pd2 rfl) rfl (by show 2 * 0 + _ ≤ _; exact Nat.le_of_eq rfl) (hb hby at_99) (fun _ _ => ⟨rfl, e10, (by decide : 2 + 0 ≤ _), (by decide : 9 + 0 ≤ _)⟩)
  dsimp only [Pt.U, Pt.locs, Pt.cells, Pt.slots] at X11 l11 y11 z11 st11 hQ11
  subst l11 y11 z11
  obtain ⟨rfl, Nq11, e11⟩ := hQ11
  have e11 := e11.trans rfl
  have N11 := Fr.app N10 Nq11
  refine Go.of (fun _ k => st11 _ k) ?_
  show Go p e below T11 (mkF m 102 #[.val (.int x0), .val (.int x1), .val (.ref ad1), .val (.int aa), .val (.int nn), .val (.int ee), .val (.ref ad6), .unset, .unset, .unset] [(.int (fTm (g4 c0 c1 c2 c3) aa nn (2 : Int32))), (.int (((fP nn) + (fTm (g4 c0 c1 c2 c3) aa nn (0 : Int32))) + (fTm (g4 c0 c1 c2 c3) aa nn (1 : Int32))))]) _
  refine Go.of (fun _ k => XS.iadd X11.here hx rfl (hb hby at_102) rfl k) ?_
  show Go p e below T11 (mkF m 103 #[.val (.int x0), .val (.int x1), .val (.ref ad1), .val (.int aa), .val (.int nn), .val (.int ee), .val (.ref ad6), .unset, .unset, .unset] [(.int ((((fP nn) + (fTm (g4 c0 c1 c2 c3) aa nn (0 : Int32))) + (fTm (g4 c0 c1 c2 c3) aa nn (1 : Int32))) + (fTm (g4 c0 c1 c2 c3) aa nn (2 : Int32))))]) _
  refine Go.of (fun _ k => XS.aloadN X11.here hx rfl (hb hby at_103) rfl rfl  k) ?_
  show Go p e below T11 (mkF m 104 #[.val (.int x0), .val (.int x1), .val (.ref ad1), .val (.int aa), .val (.int nn), .val (.int ee), .val (.ref ad6), .unset, .unset, .unset] [(.ref ad1), (.int ((((fP nn) + (fTm (g4 c0 c1 c2 c3) aa nn (0 : Int32))) + (fTm (g4 c0 c1 c2 c3) aa nn (1 : Int32))) + (fTm (g4 c0 c1 c2 c3) aa nn (2 : Int32))))]) _
  refine Go.of (fun _ k => XS.iloadN X11.here hx rfl (hb hby at_104) rfl  k) ?_
  show Go p e below T11 (mkF m 105 #[.val (.int x0), .val (.int x1), .val (.ref ad1), .val (.int aa), .val (.int nn), .val (.int ee), .val (.ref ad6), .unset, .unset, .unset] [(.int aa), (.ref ad1), (.int ((((fP nn) + (fTm (g4 c0 c1 c2 c3) aa nn (0 : Int32))) + (fTm (g4 c0 c1 c2 c3) aa nn (1 : Int32))) + (fTm (g4 c0 c1 c2 c3) aa nn (2 : Int32))))]) _
  refine Go.of (fun _ k => XS.iload X11.here hx rfl (hb hby at_105) rfl  k) ?_
  show Go p e below T11 (mkF m 107 #[.val (.int x0), .val (.int x1), .val (.ref ad1), .val (.int aa), .val (.int nn), .val (.int ee), .val (.ref ad6), .unset, .unset, .unset] [(.int nn), (.int aa), (.ref ad1), (.int ((((fP nn) + (fTm (g4 c0 c1 c2 c3) aa nn (0 : Int32))) + (fTm (g4 c0 c1 c2 c3) aa nn (1 : Int32))) + (fTm (g4 c0 c1 c2 c3) aa nn (2 : Int32))))]) _
  refine Go.of (fun _ k => XS.iconst X11.here hx rfl (hb hby at_107) k) ?_
  show Go p e below T11 (mkF m 108 #[.val (.int x0), .val (.int x1), .val (.ref ad1), .val (.int aa), .val (.int nn), .val (.int ee), .val (.ref ad6), .unset, .unset, .unset] [(.int (3 : Int32)), (.int nn), (.int aa), (.ref ad1), (.int ((((fP nn) + (fTm (g4 c0 c1 c2 c3) aa nn (0 : Int32))) + (fTm (g4 c0 c1 c2 c3) aa nn (1 : Int32))) + (fTm (g4 c0 c1 c2 c3) aa nn (2 : Int32))))]) _
  obtain ⟨_, _, ⟨T12, L12, kq12, nq12⟩, -, X12, ⟨Lc12, hQ12, l12, y12, z12⟩, st12⟩ := Jvm.LawKit.callS X11 hx (y := (⟨"com/example/cascadex/cascadex/Utf8HashCodePinLaw", "term", "([BIII)I"⟩ : MethodName)) hown (mvT hZ (hw _ (List.mem_of_getElem? (i := 21) rfl))) (mvT hZ (hw _ (List.mem_of_getElem? (i := 22) rfl))) (mvT hZ (hw _ (List.mem_of_getElem? (i := 19) rfl))) (mvT hZ (hw _ (List.mem_of_getElem? (i := 23) rfl))) (by decide) (backOf (W := 1) (rm4 l Z a0 hw [] ad1 aa nn (3 : Int32) c0 c1 c2 c3 kc1 T7.heap n0 Z0 V_ad1 (hin _ (by decide) (by decide))) hZ (hw _ (List.mem_of_getElem? (i := 23) rfl)) (hw _ (List.mem_of_getElem? (i := 19) rfl)) (by decide) (by decide)) (g := (mkF m 108 #[.val (.int x0), .val (.int x1), .val (.ref ad1), .val (.int aa), .val (.int nn), .val (.int ee), .val (.ref ad6), .unset, .unset, .unset] [(.int (3 : Int32)), (.int nn), (.int aa), (.ref ad1), (.int ((((fP nn) + (fTm (g4 c0 c1 c2 c3) aa nn (0 : Int32))) + (fTm (g4 c0 c1 c2 c3) aa nn (1 : Int32))) + (fTm (g4 c0 c1 c2 c3) aa nn (2 : Int32))))])) rfl (by rw [hml]; rfl) (argsL := [(.ref ad1), (.int aa), (.int nn), (.int (3 : Int32))]) (rest := [(.int ((((fP nn) + (fTm (g4 c0 c1 c2 c3) aa nn (0 : Int32))) + (fTm (g4 c0 c1 c2 c3) aa nn (1 : Int32))) + (fTm (g4 c0 c1 c2 c3) aa nn (2 : Int32))))]) (lenOf own_pd2 rfl) rfl (by show 2 * 0 + _ ≤ _; exact Nat.le_of_eq rfl) (hb hby at_108) (fun _ _ => ⟨rfl, e11, (by decide : 2 + 0 ≤ _), (by decide : 9 + 0 ≤ _)⟩)
  dsimp only [Pt.U, Pt.locs, Pt.cells, Pt.slots] at X12 l12 y12 z12 st12 hQ12
  subst l12 y12 z12
  obtain ⟨rfl, Nq12, e12⟩ := hQ12
  have e12 := e12.trans rfl
  have N12 := Fr.app N11 Nq12
  refine Go.of (fun _ k => st12 _ k) ?_
  show Go p e below T12 (mkF m 111 #[.val (.int x0), .val (.int x1), .val (.ref ad1), .val (.int aa), .val (.int nn), .val (.int ee), .val (.ref ad6), .unset, .unset, .unset] [(.int (fTm (g4 c0 c1 c2 c3) aa nn (3 : Int32))), (.int ((((fP nn) + (fTm (g4 c0 c1 c2 c3) aa nn (0 : Int32))) + (fTm (g4 c0 c1 c2 c3) aa nn (1 : Int32))) + (fTm (g4 c0 c1 c2 c3) aa nn (2 : Int32))))]) _
  refine Go.of (fun _ k => XS.iadd X12.here hx rfl (hb hby at_111) rfl k) ?_
  show Go p e below T12 (mkF m 112 #[.val (.int x0), .val (.int x1), .val (.ref ad1), .val (.int aa), .val (.int nn), .val (.int ee), .val (.ref ad6), .unset, .unset, .unset] [(.int (((((fP nn) + (fTm (g4 c0 c1 c2 c3) aa nn (0 : Int32))) + (fTm (g4 c0 c1 c2 c3) aa nn (1 : Int32))) + (fTm (g4 c0 c1 c2 c3) aa nn (2 : Int32))) + (fTm (g4 c0 c1 c2 c3) aa nn (3 : Int32))))]) _
  refine Go.of (fun _ k => XS.istore X12.here hx rfl (hb hby at_112) rfl (l' := #[.val (.int x0), .val (.int x1), .val (.ref ad1), .val (.int aa), .val (.int nn), .val (.int ee), .val (.ref ad6), .val (.int (((((fP nn) + (fTm (g4 c0 c1 c2 c3) aa nn (0 : Int32))) + (fTm (g4 c0 c1 c2 c3) aa nn (1 : Int32))) + (fTm (g4 c0 c1 c2 c3) aa nn (2 : Int32))) + (fTm (g4 c0 c1 c2 c3) aa nn (3 : Int32)))), .unset, .unset]) rfl k) ?_
  show Go p e below T12 (mkF m 114 #[.val (.int x0), .val (.int x1), .val (.ref ad1), .val (.int aa), .val (.int nn), .val (.int ee), .val (.ref ad6), .val (.int (((((fP nn) + (fTm (g4 c0 c1 c2 c3) aa nn (0 : Int32))) + (fTm (g4 c0 c1 c2 c3) aa nn (1 : Int32))) + (fTm (g4 c0 c1 c2 c3) aa nn (2 : Int32))) + (fTm (g4 c0 c1 c2 c3) aa nn (3 : Int32)))), .unset, .unset] []) _
  refine Go.of (fun _ k => XS.aload X12.here hx rfl (hb hby at_114) rfl rfl  k) ?_
  show Go p e below T12 (mkF m 116 #[.val (.int x0), .val (.int x1), .val (.ref ad1), .val (.int aa), .val (.int nn), .val (.int ee), .val (.ref ad6), .val (.int (((((fP nn) + (fTm (g4 c0 c1 c2 c3) aa nn (0 : Int32))) + (fTm (g4 c0 c1 c2 c3) aa nn (1 : Int32))) + (fTm (g4 c0 c1 c2 c3) aa nn (2 : Int32))) + (fTm (g4 c0 c1 c2 c3) aa nn (3 : Int32)))), .unset, .unset] [(.ref ad6)]) _
  obtain ⟨cq13, kq13, q13a, q13b, q13c⟩ := isOf hZ e12 E_ad6
  obtain ⟨_, _, ⟨T13, L13, kq13, nq13⟩, -, X13, ⟨Lc13, hQ13, l13, y13, z13⟩, st13⟩ := X12.virtualBack hx (y := (⟨"com/example/cascadex/cascadex/Utf8", "hashCode", "()I"⟩ : MethodName)) (z := (⟨"com/example/cascadex/cascadex/Utf8", "hashCode", "()I"⟩ : MethodName)) hown (mvT hZ (hw _ (List.mem_of_getElem? (i := 24) rfl))) (mvT hZ (hw _ (List.mem_of_getElem? (i := 25) rfl))) (notFace_of_selects (args := #[]) (mvT hZ (hw _ (List.mem_of_getElem? (i := 27) rfl)))) (mvT hZ (hw _ (List.mem_of_getElem? (i := 27) rfl))) (mvT hZ (hw _ (List.mem_of_getElem? (i := 26) rfl))) (by decide) (backOf (W := 0) (rm5 l Z a0 hw [] ad6 ad1 aa ee (0 : Int32) nn.toNatClampNeg c0 c1 c2 c3 kc1 T7.heap n0 Z0 ge_ad6 ne_ad1_ad6 E_ad6 F_bytes_ad6 F_start_ad6 F_end_ad6 F_hash_ad6 V_ad1 q1.1 b1 b2 (Or.inl rfl)) hZ (hw _ (List.mem_of_getElem? (i := 28) rfl)) (hw _ (List.mem_of_getElem? (i := 4) rfl)) (by decide) (by decide)) q13a q13c (g := (mkF m 116 #[.val (.int x0), .val (.int x1), .val (.ref ad1), .val (.int aa), .val (.int nn), .val (.int ee), .val (.ref ad6), .val (.int (((((fP nn) + (fTm (g4 c0 c1 c2 c3) aa nn (0 : Int32))) + (fTm (g4 c0 c1 c2 c3) aa nn (1 : Int32))) + (fTm (g4 c0 c1 c2 c3) aa nn (2 : Int32))) + (fTm (g4 c0 c1 c2 c3) aa nn (3 : Int32)))), .unset, .unset] [(.ref ad6)])) rfl (by rw [hml]; rfl) (Steps.refl _) (argsL := []) (rest := []) (lenOf own_pd3 rfl) rfl (by show 2 * 0 + _ ≤ _; exact Nat.le_of_eq rfl) (hb hby at_116) (fun _ _ => ⟨rfl, e12, (by decide : 2 + 0 ≤ _), (by decide : 9 + 0 ≤ _)⟩)
  dsimp only [Pt.U, Pt.locs, Pt.cells, Pt.slots] at X13 l13 y13 z13 st13 hQ13
  subst l13 y13 z13
  obtain ⟨rfl, Nq13, Kq13, fq13_0, fq13_1, fq13_2, fq13_3, fq13_4⟩ := hQ13
  have N13 := Fr.app N12 Nq13
  have Z0 := Nat.le_trans Z0 Kq13.1
  have V_ad1 := V_ad1.keep Kq13 (ninS ne_ad1_ad6 nin0)
  have E_ad6 := fq13_0
  have F_bytes_ad6 := fq13_1
  have F_start_ad6 := fq13_2
  have F_end_ad6 := fq13_3
  have F_hash_ad6 := fq13_4
  refine Go.of (fun _ k => st13.trans k) ?_
  show Go p e below T13 (mkF m 119 #[.val (.int x0), .val (.int x1), .val (.ref ad1), .val (.int aa), .val (.int nn), .val (.int ee), .val (.ref ad6), .val (.int (((((fP nn) + (fTm (g4 c0 c1 c2 c3) aa nn (0 : Int32))) + (fTm (g4 c0 c1 c2 c3) aa nn (1 : Int32))) + (fTm (g4 c0 c1 c2 c3) aa nn (2 : Int32))) + (fTm (g4 c0 c1 c2 c3) aa nn (3 : Int32)))), .unset, .unset] [(.int (fHh (g4 c0 c1 c2 c3) aa nn.toNatClampNeg))]) _
  refine Go.of (fun _ k => XS.istore X13.here hx rfl (hb hby at_119) rfl (l' := #[.val (.int x0), .val (.int x1), .val (.ref ad1), .val (.int aa), .val (.int nn), .val (.int ee), .val (.ref ad6), .val (.int (((((fP nn) + (fTm (g4 c0 c1 c2 c3) aa nn (0 : Int32))) + (fTm (g4 c0 c1 c2 c3) aa nn (1 : Int32))) + (fTm (g4 c0 c1 c2 c3) aa nn (2 : Int32))) + (fTm (g4 c0 c1 c2 c3) aa nn (3 : Int32)))), .val (.int (fHh (g4 c0 c1 c2 c3) aa nn.toNatClampNeg)), .unset]) rfl k) ?_
  show Go p e below T13 (mkF m 121 #[.val (.int x0), .val (.int x1), .val (.ref ad1), .val (.int aa), .val (.int nn), .val (.int ee), .val (.ref ad6), .val (.int (((((fP nn) + (fTm (g4 c0 c1 c2 c3) aa nn (0 : Int32))) + (fTm (g4 c0 c1 c2 c3) aa nn (1 : Int32))) + (fTm (g4 c0 c1 c2 c3) aa nn (2 : Int32))) + (fTm (g4 c0 c1 c2 c3) aa nn (3 : Int32)))), .val (.int (fHh (g4 c0 c1 c2 c3) aa nn.toNatClampNeg)), .unset] []) _
  refine Go.of (fun _ k => XS.aload X13.here hx rfl (hb hby at_121) rfl rfl  k) ?_
  show Go p e below T13 (mkF m 123 #[.val (.int x0), .val (.int x1), .val (.ref ad1), .val (.int aa), .val (.int nn), .val (.int ee), .val (.ref ad6), .val (.int (((((fP nn) + (fTm (g4 c0 c1 c2 c3) aa nn (0 : Int32))) + (fTm (g4 c0 c1 c2 c3) aa nn (1 : Int32))) + (fTm (g4 c0 c1 c2 c3) aa nn (2 : Int32))) + (fTm (g4 c0 c1 c2 c3) aa nn (3 : Int32)))), .val (.int (fHh (g4 c0 c1 c2 c3) aa nn.toNatClampNeg)), .unset] [(.ref ad6)]) _
  obtain ⟨cq14, kq14, q14a, q14b, q14c⟩ := isOf hZ rfl E_ad6
  obtain ⟨_, _, ⟨T14, L14, kq14, nq14⟩, -, X14, ⟨Lc14, hQ14, l14, y14, z14⟩, st14⟩ := X13.virtualBack hx (y := (⟨"com/example/cascadex/cascadex/Utf8", "hashCode", "()I"⟩ : MethodName)) (z := (⟨"com/example/cascadex/cascadex/Utf8", "hashCode", "()I"⟩ : MethodName)) hown (mvT hZ (hw _ (List.mem_of_getElem? (i := 24) rfl))) (mvT hZ (hw _ (List.mem_of_getElem? (i := 25) rfl))) (notFace_of_selects (args := #[]) (mvT hZ (hw _ (List.mem_of_getElem? (i := 27) rfl)))) (mvT hZ (hw _ (List.mem_of_getElem? (i := 27) rfl))) (mvT hZ (hw _ (List.mem_of_getElem? (i := 26) rfl))) (by decide) (backOf (W := 0) (rm5 l Z a0 hw [] ad6 ad1 aa ee (fHh (g4 c0 c1 c2 c3) aa nn.toNatClampNeg) nn.toNatClampNeg c0 c1 c2 c3 kc1 T13.heap n0 Z0 ge_ad6 ne_ad1_ad6 E_ad6 F_bytes_ad6 F_start_ad6 F_end_ad6 F_hash_ad6 V_ad1 q1.1 b1 b2 (Or.inr rfl)) hZ (hw _ (List.mem_of_getElem? (i := 28) rfl)) (hw _ (List.mem_of_getElem? (i := 4) rfl)) (by decide) (by decide)) q14a q14c (g := (mkF m 123 #[.val (.int x0), .val (.int x1), .val (.ref ad1), .val (.int aa), .val (.int nn), .val (.int ee), .val (.ref ad6), .val (.int (((((fP nn) + (fTm (g4 c0 c1 c2 c3) aa nn (0 : Int32))) + (fTm (g4 c0 c1 c2 c3) aa nn (1 : Int32))) + (fTm (g4 c0 c1 c2 c3) aa nn (2 : Int32))) + (fTm (g4 c0 c1 c2 c3) aa nn (3 : Int32)))), .val (.int (fHh (g4 c0 c1 c2 c3) aa nn.toNatClampNeg)), .unset] [(.ref ad6)])) rfl (by rw [hml]; rfl) (Steps.refl _) (argsL := []) (rest := []) (lenOf own_pd3 rfl) rfl (by show 2 * 0 + _ ≤ _; exact Nat.le_of_eq rfl) (hb hby at_123) (fun _ _ => ⟨rfl, rfl, (by decide : 2 + 0 ≤ _), (by decide : 9 + 0 ≤ _)⟩)
  dsimp only [Pt.U, Pt.locs, Pt.cells, Pt.slots] at X14 l14 y14 z14 st14 hQ14
  subst l14 y14 z14
  obtain ⟨rfl, Nq14, Kq14, fq14_0, fq14_1, fq14_2, fq14_3, fq14_4⟩ := hQ14
  have N14 := Fr.app N13 Nq14
  have Z0 := Nat.le_trans Z0 Kq14.1
  have V_ad1 := V_ad1.keep Kq14 (ninS ne_ad1_ad6 nin0)
  have E_ad6 := fq14_0
  have F_bytes_ad6 := fq14_1
  have F_start_ad6 := fq14_2
  have F_end_ad6 := fq14_3
  have F_hash_ad6 := fq14_4
  refine Go.of (fun _ k => st14.trans k) ?_
  show Go p e below T14 (mkF m 126 #[.val (.int x0), .val (.int x1), .val (.ref ad1), .val (.int aa), .val (.int nn), .val (.int ee), .val (.ref ad6), .val (.int (((((fP nn) + (fTm (g4 c0 c1 c2 c3) aa nn (0 : Int32))) + (fTm (g4 c0 c1 c2 c3) aa nn (1 : Int32))) + (fTm (g4 c0 c1 c2 c3) aa nn (2 : Int32))) + (fTm (g4 c0 c1 c2 c3) aa nn (3 : Int32)))), .val (.int (fHh (g4 c0 c1 c2 c3) aa nn.toNatClampNeg)), .unset] [(.int (fHh (g4 c0 c1 c2 c3) aa nn.toNatClampNeg))]) _
  refine Go.of (fun _ k => XS.istore X14.here hx rfl (hb hby at_126) rfl (l' := #[.val (.int x0), .val (.int x1), .val (.ref ad1), .val (.int aa), .val (.int nn), .val (.int ee), .val (.ref ad6), .val (.int (((((fP nn) + (fTm (g4 c0 c1 c2 c3) aa nn (0 : Int32))) + (fTm (g4 c0 c1 c2 c3) aa nn (1 : Int32))) + (fTm (g4 c0 c1 c2 c3) aa nn (2 : Int32))) + (fTm (g4 c0 c1 c2 c3) aa nn (3 : Int32)))), .val (.int (fHh (g4 c0 c1 c2 c3) aa nn.toNatClampNeg)), .val (.int (fHh (g4 c0 c1 c2 c3) aa nn.toNatClampNeg))]) rfl k) ?_
  show Go p e below T14 (mkF m 128 #[.val (.int x0), .val (.int x1), .val (.ref ad1), .val (.int aa), .val (.int nn), .val (.int ee), .val (.ref ad6), .val (.int (((((fP nn) + (fTm (g4 c0 c1 c2 c3) aa nn (0 : Int32))) + (fTm (g4 c0 c1 c2 c3) aa nn (1 : Int32))) + (fTm (g4 c0 c1 c2 c3) aa nn (2 : Int32))) + (fTm (g4 c0 c1 c2 c3) aa nn (3 : Int32)))), .val (.int (fHh (g4 c0 c1 c2 c3) aa nn.toNatClampNeg)), .val (.int (fHh (g4 c0 c1 c2 c3) aa nn.toNatClampNeg))] []) _
  refine Go.of (fun _ k => XS.iload X14.here hx rfl (hb hby at_128) rfl  k) ?_
  show Go p e below T14 (mkF m 130 #[.val (.int x0), .val (.int x1), .val (.ref ad1), .val (.int aa), .val (.int nn), .val (.int ee), .val (.ref ad6), .val (.int (((((fP nn) + (fTm (g4 c0 c1 c2 c3) aa nn (0 : Int32))) + (fTm (g4 c0 c1 c2 c3) aa nn (1 : Int32))) + (fTm (g4 c0 c1 c2 c3) aa nn (2 : Int32))) + (fTm (g4 c0 c1 c2 c3) aa nn (3 : Int32)))), .val (.int (fHh (g4 c0 c1 c2 c3) aa nn.toNatClampNeg)), .val (.int (fHh (g4 c0 c1 c2 c3) aa nn.toNatClampNeg))] [(.int (fHh (g4 c0 c1 c2 c3) aa nn.toNatClampNeg))]) _
  refine Go.of (fun _ k => XS.iload X14.here hx rfl (hb hby at_130) rfl  k) ?_
  show Go p e below T14 (mkF m 132 #[.val (.int x0), .val (.int x1), .val (.ref ad1), .val (.int aa), .val (.int nn), .val (.int ee), .val (.ref ad6), .val (.int (((((fP nn) + (fTm (g4 c0 c1 c2 c3) aa nn (0 : Int32))) + (fTm (g4 c0 c1 c2 c3) aa nn (1 : Int32))) + (fTm (g4 c0 c1 c2 c3) aa nn (2 : Int32))) + (fTm (g4 c0 c1 c2 c3) aa nn (3 : Int32)))), .val (.int (fHh (g4 c0 c1 c2 c3) aa nn.toNatClampNeg)), .val (.int (fHh (g4 c0 c1 c2 c3) aa nn.toNatClampNeg))] [(.int (((((fP nn) + (fTm (g4 c0 c1 c2 c3) aa nn (0 : Int32))) + (fTm (g4 c0 c1 c2 c3) aa nn (1 : Int32))) + (fTm (g4 c0 c1 c2 c3) aa nn (2 : Int32))) + (fTm (g4 c0 c1 c2 c3) aa nn (3 : Int32)))), (.int (fHh (g4 c0 c1 c2 c3) aa nn.toNatClampNeg))]) _
  refine Go.of (fun _ k => XS.icmpNo X14.here hx rfl (hb hby at_132) rfl (teq (show (fHh (g4 c0 c1 c2 c3) aa nn.toNatClampNeg) = (((((fP nn) + (fTm (g4 c0 c1 c2 c3) aa nn (0 : Int32))) + (fTm (g4 c0 c1 c2 c3) aa nn (1 : Int32))) + (fTm (g4 c0 c1 c2 c3) aa nn (2 : Int32))) + (fTm (g4 c0 c1 c2 c3) aa nn (3 : Int32))) from (own_sum (g4 c0 c1 c2 c3) aa nn q3.1 (by omega)))).2 k) ?_
  show Go p e below T14 (mkF m 135 #[.val (.int x0), .val (.int x1), .val (.ref ad1), .val (.int aa), .val (.int nn), .val (.int ee), .val (.ref ad6), .val (.int (((((fP nn) + (fTm (g4 c0 c1 c2 c3) aa nn (0 : Int32))) + (fTm (g4 c0 c1 c2 c3) aa nn (1 : Int32))) + (fTm (g4 c0 c1 c2 c3) aa nn (2 : Int32))) + (fTm (g4 c0 c1 c2 c3) aa nn (3 : Int32)))), .val (.int (fHh (g4 c0 c1 c2 c3) aa nn.toNatClampNeg)), .val (.int (fHh (g4 c0 c1 c2 c3) aa nn.toNatClampNeg))] []) _
  refine Go.of (fun _ k => XS.iload X14.here hx rfl (hb hby at_135) rfl  k) ?_
  show Go p e below T14 (mkF m 137 #[.val (.int x0), .val (.int x1), .val (.ref ad1), .val (.int aa), .val (.int nn), .val (.int ee), .val (.ref ad6), .val (.int (((((fP nn) + (fTm (g4 c0 c1 c2 c3) aa nn (0 : Int32))) + (fTm (g4 c0 c1 c2 c3) aa nn (1 : Int32))) + (fTm (g4 c0 c1 c2 c3) aa nn (2 : Int32))) + (fTm (g4 c0 c1 c2 c3) aa nn (3 : Int32)))), .val (.int (fHh (g4 c0 c1 c2 c3) aa nn.toNatClampNeg)), .val (.int (fHh (g4 c0 c1 c2 c3) aa nn.toNatClampNeg))] [(.int (fHh (g4 c0 c1 c2 c3) aa nn.toNatClampNeg))]) _
  refine Go.of (fun _ k => XS.iload X14.here hx rfl (hb hby at_137) rfl  k) ?_
  show Go p e below T14 (mkF m 139 #[.val (.int x0), .val (.int x1), .val (.ref ad1), .val (.int aa), .val (.int nn), .val (.int ee), .val (.ref ad6), .val (.int (((((fP nn) + (fTm (g4 c0 c1 c2 c3) aa nn (0 : Int32))) + (fTm (g4 c0 c1 c2 c3) aa nn (1 : Int32))) + (fTm (g4 c0 c1 c2 c3) aa nn (2 : Int32))) + (fTm (g4 c0 c1 c2 c3) aa nn (3 : Int32)))), .val (.int (fHh (g4 c0 c1 c2 c3) aa nn.toNatClampNeg)), .val (.int (fHh (g4 c0 c1 c2 c3) aa nn.toNatClampNeg))] [(.int (((((fP nn) + (fTm (g4 c0 c1 c2 c3) aa nn (0 : Int32))) + (fTm (g4 c0 c1 c2 c3) aa nn (1 : Int32))) + (fTm (g4 c0 c1 c2 c3) aa nn (2 : Int32))) + (fTm (g4 c0 c1 c2 c3) aa nn (3 : Int32)))), (.int (fHh (g4 c0 c1 c2 c3) aa nn.toNatClampNeg))]) _
  refine Go.of (fun _ k => XS.icmpNo X14.here hx rfl (hb hby at_139) rfl (teq (show (fHh (g4 c0 c1 c2 c3) aa nn.toNatClampNeg) = (((((fP nn) + (fTm (g4 c0 c1 c2 c3) aa nn (0 : Int32))) + (fTm (g4 c0 c1 c2 c3) aa nn (1 : Int32))) + (fTm (g4 c0 c1 c2 c3) aa nn (2 : Int32))) + (fTm (g4 c0 c1 c2 c3) aa nn (3 : Int32))) from (own_sum (g4 c0 c1 c2 c3) aa nn q3.1 (by omega)))).2 k) ?_
  show Go p e below T14 (mkF m 142 #[.val (.int x0), .val (.int x1), .val (.ref ad1), .val (.int aa), .val (.int nn), .val (.int ee), .val (.ref ad6), .val (.int (((((fP nn) + (fTm (g4 c0 c1 c2 c3) aa nn (0 : Int32))) + (fTm (g4 c0 c1 c2 c3) aa nn (1 : Int32))) + (fTm (g4 c0 c1 c2 c3) aa nn (2 : Int32))) + (fTm (g4 c0 c1 c2 c3) aa nn (3 : Int32)))), .val (.int (fHh (g4 c0 c1 c2 c3) aa nn.toNatClampNeg)), .val (.int (fHh (g4 c0 c1 c2 c3) aa nn.toNatClampNeg))] []) _
  refine Go.of (fun _ k => XS.iconst X14.here hx rfl (hb hby at_142) k) ?_
  show Go p e below T14 (mkF m 143 #[.val (.int x0), .val (.int x1), .val (.ref ad1), .val (.int aa), .val (.int nn), .val (.int ee), .val (.ref ad6), .val (.int (((((fP nn) + (fTm (g4 c0 c1 c2 c3) aa nn (0 : Int32))) + (fTm (g4 c0 c1 c2 c3) aa nn (1 : Int32))) + (fTm (g4 c0 c1 c2 c3) aa nn (2 : Int32))) + (fTm (g4 c0 c1 c2 c3) aa nn (3 : Int32)))), .val (.int (fHh (g4 c0 c1 c2 c3) aa nn.toNatClampNeg)), .val (.int (fHh (g4 c0 c1 c2 c3) aa nn.toNatClampNeg))] [(.int (1 : Int32))]) _
  refine Go.of (fun _ k => XS.goto X14.here hx rfl (pc0 := 143) (pc' := 147) rfl (hb hby at_143) (by decide) (by decide) k) ?_
  show Go p e below T14 (mkF m 147 #[.val (.int x0), .val (.int x1), .val (.ref ad1), .val (.int aa), .val (.int nn), .val (.int ee), .val (.ref ad6), .val (.int (((((fP nn) + (fTm (g4 c0 c1 c2 c3) aa nn (0 : Int32))) + (fTm (g4 c0 c1 c2 c3) aa nn (1 : Int32))) + (fTm (g4 c0 c1 c2 c3) aa nn (2 : Int32))) + (fTm (g4 c0 c1 c2 c3) aa nn (3 : Int32)))), .val (.int (fHh (g4 c0 c1 c2 c3) aa nn.toNatClampNeg)), .val (.int (fHh (g4 c0 c1 c2 c3) aa nn.toNatClampNeg))] [(.int (1 : Int32))]) _
  refine Go.retN X14 hx (t := .boolean) hret hlk (by simp) (hb hby at_147) rfl (by decide) (by decide) ?_
  exact ⟨rfl, N14⟩
set_option maxRecDepth 65536 in
set_option maxHeartbeats 40000000 in
theorem comes_1 {Post : Tables → Env → Array Value → State → Outcome → State → Prop} (hpost : ∀ tb e args s v u, (limb_1_1.after args s (.returned v) u = true ∧ limb_1_2.after args s (.returned v) u = true ∧ True) → FrameEnd s (.returned v) u (Jvm.fieldLocs frame_1_writes args s ++ Jvm.arrayLocs frame_1_arrays args s ++ Jvm.staticLocs frame_1_statics s) 16 128 → Post tb e args s (.returned v) u) :
    ArmFor flags0 classFile x code maxLocals ret World_1 tables_1 room_1 Calls_1 rest_1 Pre_1 Post := by
  intro l hfl _ _ p e ha hc hk s m args below hf hA hF happ hP
  obtain ⟨hcalls, hrest, hpre⟩ := hP
  obtain ⟨-, -, -, hnamed, -, -, -, hat⟩ := (Spec.applies_iff hf).mp happ
  obtain ⟨hg, hn⟩ := and_e (Cond.before_iff.mp (show (Jvm.Cond.and given_1 narrow_1).before args s = true from hpre))
  obtain ⟨g1, g2⟩ := and_e hg
  obtain ⟨g3, g4⟩ := and_e g2
  obtain ⟨w0, w1, rfl⟩ : ∃ w0 w1 : Value, args = #[w0, w1] := by
    have hs : args.size = 2 := by simpa [Cond.value, given_1] using g1
    obtain ⟨L⟩ := args
    match L, hs with
    | [w0, w1], _ => exact ⟨w0, w1, rfl⟩
  have hw := fun d (hd : d ∈ tables_1) => atoms_spec (ws := Jvm.Cond.code x code maxLocals ret :: tables_1) hat d (List.mem_cons_of_mem _ hd)
  have hfit : Fit s := fun {y c} hc i hi => by
    obtain ⟨ha, rfl⟩ := Array.getElem?_eq_some_iff.mp hc
    have q := List.all_eq_true.mp ((Array.all_eq_true_iff_forall_mem.mp hF) _ (Array.getElem_mem ha)) i (List.mem_range.mpr hi)
    simpa [Array.getElem?_eq_getElem hi] using q
  obtain ⟨i0, ei0⟩ := is_v g3
  obtain rfl : w0 = (.int i0) := Option.some.inj ei0
  obtain ⟨i1, ei1⟩ := is_v g4
  obtain rfl : w1 = (.int i1) := Option.some.inj ei1
  obtain ⟨n, o, h1, h2, h3, _, L, rfl, ⟨rfl, N⟩, hq⟩ := rm0 l s _ hw tables_1 i0 i1 s.heap s.heap.size (Nat.le_refl _)  p e ha hc hk s m _ below hf ((Spec.applies_iff_loose hf).mp happ).1 ⟨rfl, State.Warmed39.refl s, rfl⟩ trivial
  refine ⟨n, _, h1, h2, h3, hpost _ _ _ _ _ _ ⟨Cond.after_iff.mpr rfl, Cond.after_iff.mpr (eq_i res_at (Term.int_eval (1)) rfl), trivial⟩ ⟨hq.1, hq.2.1, (hq.2.2.sift fun y hy => Or.inr (N y hy)).mono (by decide) (by decide)⟩⟩
theorem main_1_1 : Claimed_1_1 := comes_1 fun _ _ _ _ _ _ h hF => ⟨h.1, hF⟩
theorem main_1_2 : Claimed_1_2 := comes_1 fun _ _ _ _ _ _ h hF => ⟨h.2.1, hF⟩
end Jvm.Pilot.@@N@@
namespace Jvm.Pilot.@@N@@
open Jvm Jvm.ClassFile Sem Op Lib Jvm.Free Jvm.Stand Jvm.Pilot.@@N@@.Jvm.D
/-! MADE BY PROGRAM (witnessworld.py) out of the Statement's table words and the real class files: 9 classes; the members and pool entries that the words name. The judged class is class 1, her method 1. -/
namespace start1
open Jvm.ClassFile
def u (s : String) : CpInfo := .utf8 (stringToUtf16 s)
/-- a pool by its gaps: so many unusable entries, then the entry; so many at the end -/
def gap : Nat → List CpInfo → List CpInfo
  | 0, r => r
  | n + 1, r => .unusable :: gap n r
def poolList (es : List (Nat × CpInfo)) (last : Nat) : List CpInfo := es.foldr (fun e r => gap e.1 (e.2 :: r)) (gap last [])
def pool (es : List (Nat × CpInfo)) (last : Nat) : Array CpInfo := ⟨poolList es last⟩
def fileOf (pool : Array CpInfo) (this : Nat) (attrs : Array Attribute := #[]) (ms : Array MethodInfo := #[]) (fl : Nat := 33) (sup : Nat := 0) (ifs : Array Nat := #[]) (fds : Array FieldInfo := #[]) : ClassFile where
  minorVersion := 0
  majorVersion := 65
  constantPool := pool
  accessFlags := fl
  thisClass := this
  superClass := sup
  interfaces := ifs
  fields := fds
  methods := ms
  attributes := attrs
def plain (name : String) (sup : Option ClassId) : Class where
  name := name
  kind := .ordinary
  loader := none
  accessFlags := 33
  super := sup
  interfaces := #[]
  cf := none
  fields := #[]
  methods := #[]
  instanceTypes := #[]
  staticTypes := #[]
  resolved := #[]
  callSites := []
  init := .initialized
  statics := none
  mirror := none

def pool0 : Array CpInfo := pool [(5, u "<init>"), (0, u "()V"), (1, .class_ 10), (1, u "java/lang/Object")] 113

def k0c0 : Code := { maxStack := 0, maxLocals := 1, code := object_method_1_code, exceptionTable := #[], attributes := #[] }
def k0m0 : Method := { name := "<init>", desc := "()V", sig := { parameters := [], returnType := none }, accessFlags := 1, code := some k0c0 }
/-- java/lang/Object -/
def k0 : Class := { plain "java/lang/Object" none with
  accessFlags := 33
  interfaces := #[]
  cf := some (fileOf pool0 8 #[] #[{ accessFlags := 1, nameIndex := 5, descriptorIndex := 6, attributes := #[] }] 33 0 #[] #[])
  fields := #[]
  methods := #[k0m0]
  instanceTypes := #[]
  staticTypes := #[]
  resolved := Array.replicate 124 none
  statics := none }

def pool1 : Array CpInfo := pool [(2, .class_ 4), (1, u "java/lang/Object"), (0, u "<init>"), (0, u "()V"), (0, .integer 2147483647), (0, .class_ 9), (0, u "com/example/cascadex/cascadex/Utf8"), (0, .methodref 8 11), (0, .nameAndType 5 12), (0, u "([BII)V"), (0, .methodref 14 15), (0, .class_ 16), (0, .nameAndType 17 18), (0, u "com/example/cascadex/cascadex/Utf8HashCodePinLaw"), (0, u "pow31"), (0, u "(I)I"), (0, .methodref 14 20), (0, .nameAndType 21 22), (0, u "term"), (0, u "([BIII)I"), (0, .methodref 8 24), (0, .nameAndType 25 26), (0, u "hashCode"), (0, u "()I"), (0, .integer 923521), (2, u "law"), (0, u "(II)Z")] 5

def k1m0 : Method := { name := "<init>", desc := "()V", sig := { parameters := [], returnType := none }, accessFlags := 1, code := none }
def k1c1 : Code := { maxStack := 5, maxLocals := 10, code := code, exceptionTable := #[], attributes := #[] }
def k1m1 : Method := { name := "law", desc := "(II)Z", sig := { parameters := [.int, .int], returnType := some .boolean }, accessFlags := 9, code := some k1c1 }
def k1c2 : Code := { maxStack := 2, maxLocals := 1, code := method_3_code, exceptionTable := #[], attributes := #[] }
def k1m2 : Method := { name := "pow31", desc := "(I)I", sig := { parameters := [.int], returnType := some .int }, accessFlags := 10, code := some k1c2 }
def k1c3 : Code := { maxStack := 3, maxLocals := 4, code := method_4_code, exceptionTable := #[], attributes := #[] }
def k1m3 : Method := { name := "term", desc := "([BIII)I", sig := { parameters := [(.array .byte), .int, .int, .int], returnType := some .int }, accessFlags := 10, code := some k1c3 }
/-- com/example/cascadex/cascadex/Utf8HashCodePinLaw -/
def k1 : Class := { plain "com/example/cascadex/cascadex/Utf8HashCodePinLaw" (some 0) with
  accessFlags := 49
  interfaces := #[]
  cf := some (fileOf pool1 14 #[] #[{ accessFlags := 1, nameIndex := 5, descriptorIndex := 6, attributes := #[] }, { accessFlags := 9, nameIndex := 30, descriptorIndex := 31, attributes := #[] }, { accessFlags := 10, nameIndex := 17, descriptorIndex := 18, attributes := #[] }, { accessFlags := 10, nameIndex := 21, descriptorIndex := 22, attributes := #[] }] 49 2 #[] #[])
  fields := #[]
  methods := #[k1m0, k1m1, k1m2, k1m3]
  instanceTypes := #[]
  staticTypes := #[]
  resolved := Array.replicate 37 none
  statics := none }

def pool2 : Array CpInfo := pool [(1, .methodref 2 3), (0, .class_ 4), (0, .nameAndType 5 6), (0, u "java/lang/Object"), (0, u "<init>"), (0, u "()V"), (0, .fieldref 8 9), (0, .class_ 10), (0, .nameAndType 11 12), (0, u "com/example/cascadex/cascadex/Utf8"), (0, u "bytes"), (0, u "[B"), (0, .fieldref 8 14), (0, .nameAndType 15 16), (0, u "start"), (0, u "I"), (0, .fieldref 8 18), (0, .nameAndType 19 16), (0, u "end"), (14, u "([BII)V"), (2, u "decoded"), (0, u "Ljava/lang/String;"), (37, .fieldref 8 77), (0, .nameAndType 78 16), (0, u "hash"), (2, u "EMPTY"), (0, u "Lcom/example/cascadex/cascadex/Utf8;"), (11, u "()I"), (4, u "hashCode")] 3

def k2c0 : Code := { maxStack := 2, maxLocals := 4, code := prog_95_method_1_code, exceptionTable := #[], attributes := #[] }
def k2m0 : Method := { name := "<init>", desc := "([BII)V", sig := { parameters := [(.array .byte), .int, .int], returnType := none }, accessFlags := 0, code := some k2c0 }
def k2c1 : Code := { maxStack := 3, maxLocals := 3, code := prog_95_method_10_code, exceptionTable := #[], attributes := #[] }
def k2m1 : Method := { name := "hashCode", desc := "()I", sig := { parameters := [], returnType := some .int }, accessFlags := 1, code := some k2c1 }
/-- com/example/cascadex/cascadex/Utf8 -/
def k2 : Class := { plain "com/example/cascadex/cascadex/Utf8" (some 0) with
  accessFlags := 48
  interfaces := #[]
  cf := some (fileOf pool2 8 #[] #[{ accessFlags := 0, nameIndex := 5, descriptorIndex := 34, attributes := #[] }, { accessFlags := 1, nameIndex := 99, descriptorIndex := 94, attributes := #[] }] 48 2 #[] #[{ accessFlags := 24, nameIndex := 81, descriptorIndex := 82, attributes := #[] }, { accessFlags := 18, nameIndex := 11, descriptorIndex := 12, attributes := #[] }, { accessFlags := 18, nameIndex := 15, descriptorIndex := 16, attributes := #[] }, { accessFlags := 18, nameIndex := 19, descriptorIndex := 16, attributes := #[] }, { accessFlags := 2, nameIndex := 37, descriptorIndex := 38, attributes := #[] }, { accessFlags := 2, nameIndex := 78, descriptorIndex := 16, attributes := #[] }])
  fields := #[{ name := "EMPTY", type := (.object "com/example/cascadex/cascadex/Utf8"), accessFlags := 24, slot := 0, constantValue := 0 }, { name := "bytes", type := (.array .byte), accessFlags := 18, slot := 0, constantValue := 0 }, { name := "start", type := .int, accessFlags := 18, slot := 1, constantValue := 0 }, { name := "end", type := .int, accessFlags := 18, slot := 2, constantValue := 0 }, { name := "decoded", type := (.object "java/lang/String"), accessFlags := 2, slot := 3, constantValue := 0 }, { name := "hash", type := .int, accessFlags := 2, slot := 4, constantValue := 0 }]
  methods := #[k2m0, k2m1]
  instanceTypes := #[(.array .byte), .int, .int, (.object "java/lang/String"), .int]
  staticTypes := #[(.object "com/example/cascadex/cascadex/Utf8")]
  resolved := Array.replicate 103 none
  statics := none }

def pool3 : Array CpInfo := pool [(1, u "java/lang/Cloneable"), (0, .class_ 1), (0, u "java/lang/Object"), (0, .class_ 3)] 3

/-- java/lang/Cloneable -/
def k3 : Class := { plain "java/lang/Cloneable" (some 0) with
  accessFlags := 1537
  interfaces := #[]
  cf := some (fileOf pool3 2 #[] #[] 1537 4 #[] #[])
  fields := #[]
  methods := #[]
  instanceTypes := #[]
  staticTypes := #[]
  resolved := Array.replicate 8 none
  statics := none }

def pool4 : Array CpInfo := pool [(1, u "java/io/Serializable"), (0, .class_ 1), (0, u "java/lang/Object"), (0, .class_ 3)] 3

/-- java/io/Serializable -/
def k4 : Class := { plain "java/io/Serializable" (some 0) with
  accessFlags := 1537
  interfaces := #[]
  cf := some (fileOf pool4 2 #[] #[] 1537 4 #[] #[])
  fields := #[]
  methods := #[]
  instanceTypes := #[]
  staticTypes := #[]
  resolved := Array.replicate 8 none
  statics := none }

/-- the primitive byte -/
def k5 : Class := { plain "byte" none with kind := .primitive 'B', accessFlags := 0x411 }
/-- [B -/
def k6 : Class := { plain "[B" (some 0) with kind := .array 5 .byte, interfaces := #[3, 4], accessFlags := 1041 }

/-- the primitive int -/
def k7 : Class := { plain "int" none with kind := .primitive 'I', accessFlags := 0x411 }
/-- [I -/
def k8 : Class := { plain "[I" (some 0) with kind := .array 7 .int, interfaces := #[3, 4], accessFlags := 1041 }

def heap : Heap := #[]
def classes : Array Class := #[k0, k1, k2, k3, k4, k5, k6, k7, k8]
def interned : List (Array UInt16 × Addr) := []
def slotsUsed : Nat := 0
def theMethod : MethodId := ⟨1, 1⟩
def args0 : Array Value := #[.int 5, .int 7]
def aboutOver (below : List Frame) : State where
  vm := { classes := classes, interned := interned.toArray }
  heap := heap
  slotsUsed := slotsUsed
  threads := #[{ frames := .invoking theMethod args0 :: below }]
def below0 : List Frame := [.native { method := ⟨0, 0⟩, args := #[] }]
def about1 : State := aboutOver below0
def p0 : Program := .bare "" "" ""
def e0 : Env := launch0.env 0 0 0
theorem w_frames : about1.frames = Frame.invoking theMethod args0 :: below0 := rfl
set_option maxRecDepth 65536 in
theorem w_args : argsFit about1.vm theMethod args0 = true := by decide +kernel
set_option maxRecDepth 65536 in
theorem w_heap : heapFits about1 = true := by decide +kernel
set_option maxRecDepth 65536 in
theorem w_runnable : about1.curStatus? = some .runnable := by decide +kernel
set_option maxRecDepth 65536 in
theorem w_alone : about1.alone = true := by decide +kernel
set_option maxRecDepth 65536 in
theorem w_named : about1.methodNamed? x = some theMethod := by decide +kernel
set_option maxRecDepth 65536 in
theorem w_hears : about1.hears theMethod below0 = true := by decide +kernel
set_option maxRecDepth 65536 in
theorem w_ripe : about1.ripe theMethod args0 below0 = true := by decide +kernel
theorem w_running : about1.status = .running := rfl
set_option maxRecDepth 65536 in
theorem w_room : about1.hasRoom e0.platform room_1 = true :=
  launch0.hasRoom_least _ room_1 (by decide +kernel) (by decide +kernel) (by decide +kernel) (by decide +kernel) (by decide +kernel) (by decide +kernel)
theorem allAtoms_all (ts : List Jvm.Cond) (a : Array Jvm.Value) (st : Jvm.State) : (allAtoms ts).before a st = ts.all (fun c => c.before a st) := by
  induction ts with
  | nil => rfl
  | cons c t ih =>
    show (Jvm.Cond.and c (allAtoms t)).before a st = _
    rw [Jvm.Cond.before_and, ih, List.all_cons]
def words1 : List Jvm.Cond := Jvm.Cond.code x code maxLocals ret :: tables_1
/-- a 'code' word, met by the world's own term for the bytes: nothing is compared byte by byte -/
theorem code_word {y : MethodName} {bytes : ByteArray} {mx : Nat} {rt : Option FieldType} {a : Array Value} {s : State} {m : MethodId} {meth : Method} {c : Code} (h1 : s.methodNamed? y = some m) (h2 : s.vm.method? m = some meth) (h3 : meth.code = some c) (h4 : c.code = bytes)
    (h5 : (c.maxLocals == mx && c.exceptionTable.isEmpty && decide (c.maxStack ≤ mostOperands) && decide (meth.sig.returnType = rt) && !meth.locks && decide (parseMethodDescriptor y.desc = some meth.sig)) = true) : (Jvm.Cond.code y bytes mx rt).before a s = true := by
  simp only [Bool.and_eq_true, beq_iff_eq, Bool.not_eq_true', decide_eq_true_eq] at h5
  obtain ⟨⟨⟨⟨⟨g1, g2⟩, g3⟩, g4⟩, g5⟩, g6⟩ := h5
  simp [Cond.before, Cond.holds, Cond.value, h1, h2, h3, h4, g1, g2, g3, g4, g5, g6]
def isCode : Jvm.Cond → Bool
  | .code _ _ _ _ => true
  | _ => false
theorem all_split {L : List Jvm.Cond} {P : Jvm.Cond → Bool} (h1 : L.all (fun c => isCode c || P c) = true) (h2 : ∀ c ∈ L.filter isCode, P c = true) : L.all P = true := by
  refine List.all_eq_true.mpr fun c hc => ?_
  have h := List.all_eq_true.mp h1 c hc
  rcases Bool.eq_false_or_eq_true (isCode c) with hi | hi
  · exact h2 c (List.mem_filter.mpr ⟨hc, hi⟩)
  · simpa [hi] using h
set_option maxRecDepth 65536 in
theorem w_c0 : (Jvm.Cond.code x code maxLocals ret).before args0 about1 = true := code_word (m := ⟨1, 1⟩) (meth := k1m1) (c := k1c1) (by decide +kernel) rfl rfl rfl (by decide +kernel)
set_option maxRecDepth 65536 in
theorem w_c1 : (Jvm.Cond.code ({ cls := "com/example/cascadex/cascadex/Utf8", name := "<init>", desc := "([BII)V" } : Jvm.MethodName) prog_95_method_1_code (4 : Nat) (Option.none : Option Jvm.ClassFile.FieldType)).before args0 about1 = true := code_word (m := ⟨2, 0⟩) (meth := k2m0) (c := k2c0) (by decide +kernel) rfl rfl rfl (by decide +kernel)
set_option maxRecDepth 65536 in
theorem w_c2 : (Jvm.Cond.code ({ cls := "java/lang/Object", name := "<init>", desc := "()V" } : Jvm.MethodName) object_method_1_code (1 : Nat) (Option.none : Option Jvm.ClassFile.FieldType)).before args0 about1 = true := code_word (m := ⟨0, 0⟩) (meth := k0m0) (c := k0c0) (by decide +kernel) rfl rfl rfl (by decide +kernel)
set_option maxRecDepth 65536 in
theorem w_c3 : (Jvm.Cond.code ({ cls := "com/example/cascadex/cascadex/Utf8HashCodePinLaw", name := "pow31", desc := "(I)I" } : Jvm.MethodName) method_3_code (1 : Nat) (Option.some Jvm.ClassFile.FieldType.int)).before args0 about1 = true := code_word (m := ⟨1, 2⟩) (meth := k1m2) (c := k1c2) (by decide +kernel) rfl rfl rfl (by decide +kernel)
set_option maxRecDepth 65536 in
theorem w_c4 : (Jvm.Cond.code ({ cls := "com/example/cascadex/cascadex/Utf8HashCodePinLaw", name := "term", desc := "([BIII)I" } : Jvm.MethodName) method_4_code (4 : Nat) (Option.some Jvm.ClassFile.FieldType.int)).before args0 about1 = true := code_word (m := ⟨1, 3⟩) (meth := k1m3) (c := k1c3) (by decide +kernel) rfl rfl rfl (by decide +kernel)
set_option maxRecDepth 65536 in
theorem w_c5 : (Jvm.Cond.code ({ cls := "com/example/cascadex/cascadex/Utf8", name := "hashCode", desc := "()I" } : Jvm.MethodName) prog_95_method_10_code (3 : Nat) (Option.some Jvm.ClassFile.FieldType.int)).before args0 about1 = true := code_word (m := ⟨2, 1⟩) (meth := k2m1) (c := k2c1) (by decide +kernel) rfl rfl rfl (by decide +kernel)
def codes1 : List Jvm.Cond := [Jvm.Cond.code x code maxLocals ret, Jvm.Cond.code ({ cls := "com/example/cascadex/cascadex/Utf8", name := "<init>", desc := "([BII)V" } : Jvm.MethodName) prog_95_method_1_code (4 : Nat) (Option.none : Option Jvm.ClassFile.FieldType), Jvm.Cond.code ({ cls := "java/lang/Object", name := "<init>", desc := "()V" } : Jvm.MethodName) object_method_1_code (1 : Nat) (Option.none : Option Jvm.ClassFile.FieldType), Jvm.Cond.code ({ cls := "com/example/cascadex/cascadex/Utf8HashCodePinLaw", name := "pow31", desc := "(I)I" } : Jvm.MethodName) method_3_code (1 : Nat) (Option.some Jvm.ClassFile.FieldType.int), Jvm.Cond.code ({ cls := "com/example/cascadex/cascadex/Utf8HashCodePinLaw", name := "term", desc := "([BIII)I" } : Jvm.MethodName) method_4_code (4 : Nat) (Option.some Jvm.ClassFile.FieldType.int), Jvm.Cond.code ({ cls := "com/example/cascadex/cascadex/Utf8", name := "hashCode", desc := "()I" } : Jvm.MethodName) prog_95_method_10_code (3 : Nat) (Option.some Jvm.ClassFile.FieldType.int)]
set_option maxRecDepth 65536 in
theorem codes_eq : words1.filter isCode = codes1 := rfl
theorem w_codes : ∀ c ∈ words1.filter isCode, c.before args0 about1 = true := by
  rw [codes_eq]
  intro c hc
  simp only [codes1, List.mem_cons, List.not_mem_nil, or_false] at hc
  rcases hc with rfl | rfl | rfl | rfl | rfl | rfl
  · exact w_c0
  · exact w_c1
  · exact w_c2
  · exact w_c3
  · exact w_c4
  · exact w_c5
set_option maxRecDepth 65536 in
theorem w_t1 : (words1.take 24).all (fun c => isCode c || c.before args0 about1) = true := by decide +kernel
set_option maxRecDepth 65536 in
theorem w_t2 : (words1.drop 24).all (fun c => isCode c || c.before args0 about1) = true := by decide +kernel
theorem w_tables : (allAtoms (Jvm.Cond.code x code maxLocals ret :: tables_1)).before args0 about1 = true := by
  rw [allAtoms_all]
  show words1.all (fun c => c.before args0 about1) = true
  refine all_split ?_ w_codes
  rw [← List.take_append_drop 24 words1, List.all_append, w_t1, w_t2]
  rfl
set_option maxRecDepth 65536 in
theorem w_case : (Jvm.Cond.and given_1 narrow_1).before args0 about1 = true := by decide +kernel
theorem w_applies : (headSpec (Jvm.Cond.code x code maxLocals ret :: tables_1) room_1).applies x e0.platform about1 = true :=
  (Spec.applies_iff w_frames).mpr ⟨w_running, w_runnable, w_alone, w_named, w_hears, w_ripe, w_room, w_tables⟩
theorem atStart : AtStart classFile x code maxLocals ret World_1 tables_1 room_1 Calls_1 rest_1 Pre_1 launch0 p0 e0 about1 theMethod args0 below0 :=
  ⟨lists_1, trivial, launch0.admits_env _ _ _, launch0.least_env, fairChoices_fair.cas, fairChoices_fair.clock, w_frames, w_args, w_heap, w_applies, trivial, trivial, w_case⟩
end start1
theorem witness_1 : WitnessClaimed_1 := ⟨start1.p0, start1.e0, start1.about1, start1.theMethod, start1.args0, start1.below0, start1.atStart⟩
end Jvm.Pilot.@@N@@
