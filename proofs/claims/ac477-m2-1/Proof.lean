import JvmDerived
import JvmDerived.Pilot.@@N@@Statement
import JvmDerived.Pilot.@@N@@Code
set_option linter.unusedVariables false
set_option linter.unusedSimpArgs false
@@BLOCK:NumsL.lean.txt@@
namespace Jvm.Pilot.@@N@@
open Jvm Jvm.ClassFile Sem Op Lib Jvm.Free Jvm.Stand Jvm.LawKit Jvm.RoadKit Bundle Jvm.Pilot.@@N@@.Jvm.D
section own_kit
variable {p : Program} {l : Launch} {e : Env} {R : Room} {s : State} {m : MethodId} {args : Array Value} {below : List Frame} {meth : Method} {c : Code} {T T' : State} {locs : List Loc} {cells slots : Nat}
/-- from the frame g over the state T the run comes to an end of which K speaks -/
def Go (p : Program) (e : Env) (below : List Frame) (T : State) (g : JFrame) (K : Outcome → State → Prop) : Prop :=
  ∃ s₂ o, Steps p.tables e below (T.setTop g) s₂ ∧ s₂.status = .running ∧ Ended s₂ below o ∧ K o s₂
def KQ (s : State) (Q : Option Value → Heap → List Loc → Prop) (k n : Nat) (o : Outcome) (U : State) : Prop :=
  ∃ v L, o = .returned v ∧ Q v U.heap L ∧ FrameEnd s o U L k n
theorem Go.of {g g' : JFrame} {K : Outcome → State → Prop} (h : ∀ t, Steps p.tables e below (T'.setTop g') t → Steps p.tables e below (T.setTop g) t) (k : Go p e below T' g' K) : Go p e below T g K := by
  obtain ⟨s₂, o, h1, h2⟩ := k
  exact ⟨s₂, o, h _ h1, h2⟩
theorem Go.cast {g g' : JFrame} {K : Outcome → State → Prop} (q : g = g') (k : Go p e below T g' K) : Go p e below T g K := q ▸ k
theorem Go.ret0 (X : Stand p l e R s m args below meth c T locs cells slots) (hx : p.tables.exec = Jvm.exec) (hret : meth.sig.returnType = none) (hlk : meth.locks = false) {pc : Nat} {Ls : Array Slot} {Q : Option Value → Heap → List Loc → Prop} {k n : Nat} {h : Heap}
    (hd : decode c.code pc = .ok (.return_, 1)) (eT : T.heap = h) (hk : cells ≤ k) (hn : slots ≤ n) (hq : Q none h locs) : Go p e below T (mkF m pc Ls []) (KQ s Q k n) := by
  obtain ⟨fs, hr, hrun, hended, hW, hsame⟩ := X.leave (v := none) (fun _ => rfl) hlk
  exact ⟨_, _, X.returnOut hx hret hd hr, hrun, hended, _, _, rfl, by show Q none T.heap _; rw [eT]; exact hq, ⟨_, rfl⟩, hW, hsame.mono hk hn⟩
theorem Go.retV (X : Stand p l e R s m args below meth c T locs cells slots) (hx : p.tables.exec = Jvm.exec) {t : FieldType} {w : Value} {i : Instr} {rest : List Value} (hret : meth.sig.returnType = some t) (hlk : meth.locks = false) {pc : Nat} {Ls : Array Slot} {Q : Option Value → Heap → List Loc → Prop} {k n : Nat} {h : Heap} (hn0 : narrow t w = w)
    (hi : (i = .ireturn ∧ (t = .int ∨ t = .boolean ∨ t = .byte ∨ t = .char ∨ t = .short) ∧ ∃ z, w = .int z) ∨ (i = .lreturn ∧ t = .long ∧ ∃ z, w = .long z) ∨ (i = .dreturn ∧ t = .double ∧ ∃ z, w = .double z) ∨ (i = .freturn ∧ t = .float ∧ ∃ z, w = .float z) ∨ (i = .areturn ∧ t.isReference = true ∧ w.isRef = true))
    (hd : decode c.code pc = .ok (i, 1)) (eT : T.heap = h) (hk : cells ≤ k) (hn : slots ≤ n) (hq : Q (some w) h locs) : Go p e below T (mkF m pc Ls (w :: rest)) (KQ s Q k n) := by
  obtain ⟨fs, hr, hrun, hended, hW, hsame⟩ := X.leave (v := some w) (fun h => by rw [hret] at h; cases h) hlk
  exact ⟨_, _, retOut X hx hret hn0 hi hd hr, hrun, hended, _, _, rfl, by show Q (some w) T.heap _; rw [eT]; exact hq, ⟨_, rfl⟩, hW, hsame.mono hk hn⟩
theorem Go.retI (X : Stand p l e R s m args below meth c T locs cells slots) (hx : p.tables.exec = Jvm.exec) {z : Int32} {rest : List Value} (hret : meth.sig.returnType = some .int) (hlk : meth.locks = false) {pc : Nat} {Ls : Array Slot} {Q : Option Value → Heap → List Loc → Prop} {k n : Nat} {h : Heap}
    (hd : decode c.code pc = .ok (.ireturn, 1)) (eT : T.heap = h) (hk : cells ≤ k) (hn : slots ≤ n) (hq : Q (some (.int z)) h locs) : Go p e below T (mkF m pc Ls (.int z :: rest)) (KQ s Q k n) :=
  Go.retV X hx hret hlk rfl (Or.inl ⟨rfl, Or.inl rfl, z, rfl⟩) hd eT hk hn hq
theorem Go.retJ (X : Stand p l e R s m args below meth c T locs cells slots) (hx : p.tables.exec = Jvm.exec) {z : Int64} {rest : List Value} (hret : meth.sig.returnType = some .long) (hlk : meth.locks = false) {pc : Nat} {Ls : Array Slot} {Q : Option Value → Heap → List Loc → Prop} {k n : Nat} {h : Heap}
    (hd : decode c.code pc = .ok (.lreturn, 1)) (eT : T.heap = h) (hk : cells ≤ k) (hn : slots ≤ n) (hq : Q (some (.long z)) h locs) : Go p e below T (mkF m pc Ls (.long z :: rest)) (KQ s Q k n) :=
  Go.retV X hx hret hlk rfl (Or.inr (Or.inl ⟨rfl, rfl, z, rfl⟩)) hd eT hk hn hq
theorem narrow_ref {t : FieldType} {w : Value} (ht : t.isReference = true) (hw : w.isRef = true) : narrow t w = w := by
  rcases ref_cases hw with rfl | ⟨z, rfl⟩ <;> cases t <;> first | rfl | (cases ht; done)
theorem Go.retA (X : Stand p l e R s m args below meth c T locs cells slots) (hx : p.tables.exec = Jvm.exec) {t : FieldType} {w : Value} {rest : List Value} (hret : meth.sig.returnType = some t) (hlk : meth.locks = false) {pc : Nat} {Ls : Array Slot} {Q : Option Value → Heap → List Loc → Prop} {k n : Nat} {h : Heap} (ht : t.isReference = true) (hw : w.isRef = true)
    (hd : decode c.code pc = .ok (.areturn, 1)) (eT : T.heap = h) (hk : cells ≤ k) (hn : slots ≤ n) (hq : Q (some w) h locs) : Go p e below T (mkF m pc Ls (w :: rest)) (KQ s Q k n) :=
  Go.retV X hx hret hlk (narrow_ref ht hw) (Or.inr (Or.inr (Or.inr (Or.inr ⟨rfl, ht, hw⟩)))) hd eT hk hn hq
theorem Go.retN (X : Stand p l e R s m args below meth c T locs cells slots) (hx : p.tables.exec = Jvm.exec) {t : FieldType} {z : Int32} {rest : List Value} (hret : meth.sig.returnType = some t) (hlk : meth.locks = false) {pc : Nat} {Ls : Array Slot} {Q : Option Value → Heap → List Loc → Prop} {k n : Nat} {h : Heap} (ht : t = .boolean ∨ t = .byte ∨ t = .char ∨ t = .short)
    (hd : decode c.code pc = .ok (.ireturn, 1)) (eT : T.heap = h) (hk : cells ≤ k) (hn : slots ≤ n) (hq : Q (some (.int (nar t z))) h locs) : Go p e below T (mkF m pc Ls (.int z :: rest)) (KQ s Q k n) := by
  obtain ⟨fs, hr, hrun, hended, hW, hsame⟩ := X.leave (v := some (.int (nar t z))) (fun h => by rw [hret] at h; cases h) hlk
  exact ⟨_, _, Jvm.RoadKit.retN X hx hret ht hd hr, hrun, hended, _, _, rfl, by show Q _ T.heap _; rw [eT]; exact hq, ⟨_, rfl⟩, hW, hsame.mono hk hn⟩
/-- the contract of one body, at the arguments as and the heap h0 -/
abbrev Ctr (l : Launch) (Z : State) (y : MethodName) (bytes : ByteArray) (mx : Nat) (rt : Option FieldType) (ws : List Jvm.Cond) (R : Room) (as : Array Value) (h0 : Heap) (Q : Option Value → Heap → List Loc → Prop) : Prop :=
  MetFree l y (head1 (Jvm.Cond.code y bytes mx rt :: ws) R) (fun a U => a = as ∧ Z.Warmed39 U.vm ∧ U.heap = h0) (fun _ _ _ _ _ => True) (fun _ U o U' => ∃ v L, o = .returned v ∧ Q v U'.heap L ∧ FrameEnd U o U' L R.cells R.slots)
theorem Ctr.intro {Z : State} {y : MethodName} {bytes : ByteArray} {mx : Nat} {rt : Option FieldType} {ws : List Jvm.Cond} {as : Array Value} {h0 : Heap} {Q : Option Value → Heap → List Loc → Prop} (hpl : plainFor y = true)
    (body : ∀ (p : Program) (e : Env) (s : State) (m : MethodId) (below : List Frame) (meth : Method) (c : Code) (s₁ : State), p.tables.exec = Jvm.exec → c.code = bytes → c.maxLocals = mx → s.vm.findClass y.cls = some m.cls → meth.name = y.name → meth.sig.returnType = rt → meth.locks = false → Z.Warmed39 s.vm →
      Stand p l e R s m as below meth c s₁ [] 0 0 → s₁.heap = h0 → Go p e below s₁ (entryFrame m as mx) (KQ s Q R.cells R.slots)) : Ctr l Z y bytes mx rt ws R as h0 Q := by
  refine MetFree.of_bodySF hpl hisR ?_
  intro p e s m args below meth c s₁ Bd hml0 hP hK
  obtain ⟨rfl, hZ, hh⟩ := hP
  obtain ⟨s₂, o, h1, h2, h3, h4⟩ := body p e s m below meth c s₁ Bd.exec Bd.bytes hml0 (findClass_of_methodNamed Bd.named) (name_of_methodNamed Bd.named Bd.method).1 Bd.returns Bd.notSynchronized hZ (Stand.of_body Bd) (by rw [← hh, Bd.state]; rfl)
  exact ⟨s₂, o, h1, h2, h3, h4⟩
end own_kit
theorem own_mask31 (x : Int32) : 0 ≤ (x &&& 2147483647).toInt ∧ (x &&& 2147483647).toInt < 2 ^ 31 := by
  have e : (x &&& 2147483647).toInt = x.toInt % 2 ^ 31 := Jvm.Kit.i32_mask x 2147483647 (k := 31) (by decide) (by decide)
  omega
theorem own_rem {x y : Int32} (hx : 0 ≤ x.toInt) (hy : 0 < y.toInt) : 0 ≤ (x % y).toInt ∧ (x % y).toInt < y.toInt := by
  have e : (x % y).toInt = x.toInt.tmod y.toInt := Int32.toInt_mod x y
  rw [Int.tmod_eq_emod_of_nonneg hx] at e
  have h1 := Int.emod_nonneg x.toInt (show y.toInt ≠ 0 by omega)
  have h2 := Int.emod_lt_of_pos x.toInt hy
  omega
theorem own_lt {a b : Int32} : a < b ↔ a.toInt < b.toInt := Int32.lt_iff_toInt_lt
theorem own_eq {a b : Int32} : a = b ↔ a.toInt = b.toInt := Int32.toInt_inj.symm
theorem own_or' {args : Array Value} {first s : State} {o : Option Outcome} {idx : List Nat} {G Y : Jvm.Cond} {P : Prop} [Decidable P] (h : (Jvm.Cond.or G Y).value args first o s idx = some true) (hG : G.value args first o s idx = some (decide P)) (hn : ¬ P) : Y.value args first o s idx = some true := by
  simpa [Cond.value, hG, hn] using h
theorem own_len {Z : State} {args : Array Value} {t : Term} {a : Addr} {cl : Cell} {ty : FieldType} {n : Int32} (ea : t.eval args Z none [] Z = some (.ref a)) (A : Arr Z Z.heap a cl ty) (h : (Term.length t).eval args Z none [] Z = some (.int n)) : cl.slots.size = n.toNatClampNeg ∧ ¬ n < 0 := by
  have ha := A.fin (Vm.Alike.refl _)
  by_cases p : cl.slots.size < 2 ^ 31
  · have e := (len_f ea ha p).symm.trans h
    have e2 : cl.slots.size.toInt32 = n := Value.int.inj (Option.some.inj e)
    have e3 := len_toInt p
    rw [e2] at e3
    refine ⟨by simp only [Int32.toNatClampNeg, e3]; rfl, by rw [Int32.lt_iff_toInt_lt, e3]; simp⟩
  · simp [Term.eval, ea, ha, p] at h
theorem own_at {Z : State} {args : Array Value} {t F : Term} {a : Addr} {cl : Cell} {ty : FieldType} {j y : Int32} (et : ∀ idx, t.eval args Z none idx Z = some (.ref a)) (A : Arr Z Z.heap a cl ty) (nn : ¬ j < 0) (hF : F.eval args Z none [j.toNatClampNeg] Z = some (.int y))
    (h : (Jvm.Cond.eq (.elem t (.index 0)) F).value args Z none Z [j.toNatClampNeg] = some true) : cl.slots[j.toNatClampNeg]? = some (.int y) :=
  (elem_f (et _) (idx_at nn) (A.fin (Vm.Alike.refl _)) nn).symm.trans (eqv_i hF h)
theorem own_nlt {a b : Int32} : ¬ a < b ↔ b.toInt ≤ a.toInt := by rw [own_lt]; omega
theorem own_le {a b : Int32} : a ≤ b ↔ a.toInt ≤ b.toInt := Int32.le_iff_toInt_le
theorem own_clamp {j n : Int32} {k : Nat} (h0 : ¬ j < 0) (h1 : j < n) (hk : k = n.toNatClampNeg) : j.toNatClampNeg < k := by
  rw [own_lt] at h0 h1; subst hk
  have : (0 : Int32).toInt = 0 := by decide
  simp only [Int32.toNatClampNeg]; omega

theorem km1 : (-1 : Int32).toInt = -1 := by decide
theorem k0 : (0 : Int32).toInt = 0 := by decide
theorem k1 : (1 : Int32).toInt = 1 := by decide
theorem k7 : (7 : Int32).toInt = 7 := by decide
theorem k8 : (8 : Int32).toInt = 8 := by decide
theorem k9 : (9 : Int32).toInt = 9 := by decide
def fE (a b : Int32) : Int32 := if a = b then 1 else 0
theorem d1_0 : decode prog_95_method_1_code 0 = .ok (.aload_n 0, 1) := by decide +kernel
theorem d1_1 : decode prog_95_method_1_code 1 = .ok (.invokespecial 1, 3) := by decide +kernel
theorem d1_4 : decode prog_95_method_1_code 4 = .ok (.aload_n 0, 1) := by decide +kernel
theorem d1_5 : decode prog_95_method_1_code 5 = .ok (.aload_n 1, 1) := by decide +kernel
theorem d1_6 : decode prog_95_method_1_code 6 = .ok (.putfield 7, 3) := by decide +kernel
theorem d1_9 : decode prog_95_method_1_code 9 = .ok (.aload_n 0, 1) := by decide +kernel
theorem d1_10 : decode prog_95_method_1_code 10 = .ok (.iload_n 2, 1) := by decide +kernel
theorem d1_11 : decode prog_95_method_1_code 11 = .ok (.putfield 13, 3) := by decide +kernel
theorem d1_14 : decode prog_95_method_1_code 14 = .ok (.aload_n 0, 1) := by decide +kernel
theorem d1_15 : decode prog_95_method_1_code 15 = .ok (.iload_n 3, 1) := by decide +kernel
theorem d1_16 : decode prog_95_method_1_code 16 = .ok (.putfield 17, 3) := by decide +kernel
theorem d1_19 : decode prog_95_method_1_code 19 = .ok (.return_, 1) := by decide +kernel
theorem own_pn0 : plainName "com/example/cascadex/cascadex/Utf8" = true := by first | (simp [plainName, overriddenIn]; done) | decide +kernel
theorem own_ef_rm1 (m : MethodId) (x0 : Addr) (x1 : Addr) (x2 : Int32) (x3 : Int32) : entryFrame m #[(.ref x0), (.ref x1), (.int x2), (.int x3)] 4 = mkF m 0 #[.val (.ref x0), .val (.ref x1), .val (.int x2), .val (.int x3)] [] := by first | (simp [entryFrame, mkF, argsToLocals, Value.category]; done) | rfl
def Q_rm1 (Z : State) (x0 x1 : Addr) (x2 x3 : Int32) (h0 : Heap) (n0 : Nat) : Option Value → Heap → List Loc → Prop := fun v h L => v = none ∧ Fr n0 L ∧ Keep h0 h [x0] ∧ Exa Z h x0 "com/example/cascadex/cascadex/Utf8" ∧ Fld Z h x0 "com/example/cascadex/cascadex/Utf8" "bytes" "[B" (.ref x1) ∧ Fld Z h x0 "com/example/cascadex/cascadex/Utf8" "start" "I" (.int x2) ∧ Fld Z h x0 "com/example/cascadex/cascadex/Utf8" "end" "I" (.int x3)
set_option maxRecDepth 65536 in
set_option maxHeartbeats 40000000 in
theorem rm1 (l : Launch) (Z : State) (a0 : Array Value) (hw : ∀ d ∈ tables_1, d.before a0 Z = true) (ws : List Jvm.Cond) (x0 x1 : Addr) (x2 x3 : Int32) (h0 : Heap) (n0 : Nat) (Z0 : n0 ≤ h0.size) (g0 : n0 ≤ x0) (E_x0 : Exa Z h0 x0 "com/example/cascadex/cascadex/Utf8") (F_bytes : Fld Z h0 x0 "com/example/cascadex/cascadex/Utf8" "bytes" "[B" .null) (F_start : Fld Z h0 x0 "com/example/cascadex/cascadex/Utf8" "start" "I" (.int 0)) (F_end : Fld Z h0 x0 "com/example/cascadex/cascadex/Utf8" "end" "I" (.int 0)) :
    Ctr l Z (⟨"com/example/cascadex/cascadex/Utf8", "<init>", "([BII)V"⟩ : MethodName) prog_95_method_1_code 4 none ws ({ frames := 1, cells := 0, slots := 0, locals := 12 } : Room) #[(.ref x0), (.ref x1), (.int x2), (.int x3)] h0 (Q_rm1 Z x0 x1 x2 x3 h0 n0) := by
  refine Ctr.intro (plainFor_of_name own_pn0) ?_
  intro p e s m below meth c s₁ hx hby hml hown hnm hret hlk hZ X0 e0
  have hown : s.vm.findClass "com/example/cascadex/cascadex/Utf8" = some m.cls := hown
  have hml : c.maxLocals = 4 := hml
  have N0 := Fr.nil n0
  refine Go.cast (own_ef_rm1 m x0 x1 x2 x3) ?_
  have KK := Keep.refl h0 [x0]
  show Go p e below s₁ (mkF m 0 #[.val (.ref x0), .val (.ref x1), .val (.int x2), .val (.int x3)] []) _
  refine Go.of (fun _ k => XS.aloadN X0.here hx rfl (hb hby d1_0) rfl rfl  k) ?_
  show Go p e below s₁ (mkF m 1 #[.val (.ref x0), .val (.ref x1), .val (.int x2), .val (.int x3)] [(.ref x0)]) _
  obtain ⟨T1, X1, e1, st1⟩ := initO X0 hx hZ hown (hw _ (List.mem_of_getElem? (i := 8) rfl)) (hw _ (List.mem_of_getElem? (i := 9) rfl)) (hw _ (List.mem_of_getElem? (i := 10) rfl)) e0 (g := (mkF m 1 #[.val (.ref x0), .val (.ref x1), .val (.int x2), .val (.int x3)] [(.ref x0)])) rfl (by rw [hml]; rfl) rfl (hb hby d1_1) (by decide) (W := 0) (by show 2 * 0 + _ ≤ _; exact Nat.le_of_eq rfl) (by decide)
  refine Go.of (fun _ k => st1 _ k) ?_
  show Go p e below T1 (mkF m 4 #[.val (.ref x0), .val (.ref x1), .val (.int x2), .val (.int x3)] []) _
  refine Go.of (fun _ k => XS.aloadN X1.here hx rfl (hb hby d1_4) rfl rfl  k) ?_
  show Go p e below T1 (mkF m 5 #[.val (.ref x0), .val (.ref x1), .val (.int x2), .val (.int x3)] [(.ref x0)]) _
  refine Go.of (fun _ k => XS.aloadN X1.here hx rfl (hb hby d1_5) rfl rfl  k) ?_
  show Go p e below T1 (mkF m 6 #[.val (.ref x0), .val (.ref x1), .val (.int x2), .val (.int x3)] [(.ref x1), (.ref x0)]) _
  obtain ⟨T2, h2, X2, e2, W2, st2⟩ := putF X1 hx hZ hown (host := "") (Or.inl (hw _ (List.mem_of_getElem? (i := 11) rfl))) Via.refl e1 F_bytes E_x0 (Or.inr ⟨(hw _ (List.mem_of_getElem? (i := 12) rfl)), rfl, hnm⟩) (hw _ (List.mem_of_getElem? (i := 3) rfl)) (ty := (.array .byte)) (by decide) rfl rfl (g := (mkF m 6 #[.val (.ref x0), .val (.ref x1), .val (.int x2), .val (.int x3)] [(.ref x1), (.ref x0)])) rfl rfl (hb hby d1_6)
  have N2 := Fr.snoc X2 N0 g0
  have F_bytes := F_bytes.same W2
  have KK := KK.wr W2 (Or.inl (List.mem_of_getElem? (i := 0) rfl))
  have E_x0 := E_x0.wr W2
  have F_start := F_start.other W2 (Or.inr (slot_ne (Or.inr (hw _ (List.mem_of_getElem? (i := 14) rfl))) (Or.inr (hw _ (List.mem_of_getElem? (i := 12) rfl))) (by decide) (t := .int) (t' := (.array .byte)) (by decide) (by decide)))
  have F_end := F_end.other W2 (Or.inr (slot_ne (Or.inr (hw _ (List.mem_of_getElem? (i := 16) rfl))) (Or.inr (hw _ (List.mem_of_getElem? (i := 12) rfl))) (by decide) (t := .int) (t' := (.array .byte)) (by decide) (by decide)))
  refine Go.of (fun _ k => st2 _ k) ?_
  show Go p e below T2 (mkF m 9 #[.val (.ref x0), .val (.ref x1), .val (.int x2), .val (.int x3)] []) _
  refine Go.of (fun _ k => XS.aloadN X2.here hx rfl (hb hby d1_9) rfl rfl  k) ?_
  show Go p e below T2 (mkF m 10 #[.val (.ref x0), .val (.ref x1), .val (.int x2), .val (.int x3)] [(.ref x0)]) _
  refine Go.of (fun _ k => XS.iloadN X2.here hx rfl (hb hby d1_10) rfl  k) ?_
  show Go p e below T2 (mkF m 11 #[.val (.ref x0), .val (.ref x1), .val (.int x2), .val (.int x3)] [(.int x2), (.ref x0)]) _
  obtain ⟨T3, h3, X3, e3, W3, st3⟩ := putF X2 hx hZ hown (host := "") (Or.inl (hw _ (List.mem_of_getElem? (i := 13) rfl))) Via.refl e2 F_start E_x0 (Or.inr ⟨(hw _ (List.mem_of_getElem? (i := 14) rfl)), rfl, hnm⟩) (hw _ (List.mem_of_getElem? (i := 3) rfl)) (ty := .int) (by decide) rfl rfl (g := (mkF m 11 #[.val (.ref x0), .val (.ref x1), .val (.int x2), .val (.int x3)] [(.int x2), (.ref x0)])) rfl rfl (hb hby d1_11)
  have N3 := Fr.snoc X3 N2 g0
  have F_start := F_start.same W3
  have KK := KK.wr W3 (Or.inl (List.mem_of_getElem? (i := 0) rfl))
  have E_x0 := E_x0.wr W3
  have F_bytes := F_bytes.other W3 (Or.inr (slot_ne (Or.inr (hw _ (List.mem_of_getElem? (i := 12) rfl))) (Or.inr (hw _ (List.mem_of_getElem? (i := 14) rfl))) (by decide) (t := (.array .byte)) (t' := .int) (by decide) (by decide)))
  have F_end := F_end.other W3 (Or.inr (slot_ne (Or.inr (hw _ (List.mem_of_getElem? (i := 16) rfl))) (Or.inr (hw _ (List.mem_of_getElem? (i := 14) rfl))) (by decide) (t := .int) (t' := .int) (by decide) (by decide)))
  refine Go.of (fun _ k => st3 _ k) ?_
  show Go p e below T3 (mkF m 14 #[.val (.ref x0), .val (.ref x1), .val (.int x2), .val (.int x3)] []) _
  refine Go.of (fun _ k => XS.aloadN X3.here hx rfl (hb hby d1_14) rfl rfl  k) ?_
  show Go p e below T3 (mkF m 15 #[.val (.ref x0), .val (.ref x1), .val (.int x2), .val (.int x3)] [(.ref x0)]) _
  refine Go.of (fun _ k => XS.iloadN X3.here hx rfl (hb hby d1_15) rfl  k) ?_
  show Go p e below T3 (mkF m 16 #[.val (.ref x0), .val (.ref x1), .val (.int x2), .val (.int x3)] [(.int x3), (.ref x0)]) _
  obtain ⟨T4, h4, X4, e4, W4, st4⟩ := putF X3 hx hZ hown (host := "") (Or.inl (hw _ (List.mem_of_getElem? (i := 15) rfl))) Via.refl e3 F_end E_x0 (Or.inr ⟨(hw _ (List.mem_of_getElem? (i := 16) rfl)), rfl, hnm⟩) (hw _ (List.mem_of_getElem? (i := 3) rfl)) (ty := .int) (by decide) rfl rfl (g := (mkF m 16 #[.val (.ref x0), .val (.ref x1), .val (.int x2), .val (.int x3)] [(.int x3), (.ref x0)])) rfl rfl (hb hby d1_16)
  have N4 := Fr.snoc X4 N3 g0
  have F_end := F_end.same W4
  have KK := KK.wr W4 (Or.inl (List.mem_of_getElem? (i := 0) rfl))
  have E_x0 := E_x0.wr W4
  have F_bytes := F_bytes.other W4 (Or.inr (slot_ne (Or.inr (hw _ (List.mem_of_getElem? (i := 12) rfl))) (Or.inr (hw _ (List.mem_of_getElem? (i := 16) rfl))) (by decide) (t := (.array .byte)) (t' := .int) (by decide) (by decide)))
  have F_start := F_start.other W4 (Or.inr (slot_ne (Or.inr (hw _ (List.mem_of_getElem? (i := 14) rfl))) (Or.inr (hw _ (List.mem_of_getElem? (i := 16) rfl))) (by decide) (t := .int) (t' := .int) (by decide) (by decide)))
  refine Go.of (fun _ k => st4 _ k) ?_
  show Go p e below T4 (mkF m 19 #[.val (.ref x0), .val (.ref x1), .val (.int x2), .val (.int x3)] []) _
  refine Go.ret0 X4 hx hret hlk (hb hby d1_19) e4 (by decide) (by decide) ?_
  exact ⟨rfl, N4, KK, E_x0, F_bytes, F_start, F_end⟩
theorem d3_0 : decode prog_95_method_7_code 0 = .ok (.aload_n 0, 1) := by decide +kernel
theorem d3_1 : decode prog_95_method_7_code 1 = .ok (.getfield 13, 3) := by decide +kernel
theorem d3_4 : decode prog_95_method_7_code 4 = .ok (.aload_n 0, 1) := by decide +kernel
theorem d3_5 : decode prog_95_method_7_code 5 = .ok (.getfield 17, 3) := by decide +kernel
theorem d3_8 : decode prog_95_method_7_code 8 = .ok (.if_icmp .ne 7, 3) := by decide +kernel
theorem d3_11 : decode prog_95_method_7_code 11 = .ok (.iconst 1, 1) := by decide +kernel
theorem d3_12 : decode prog_95_method_7_code 12 = .ok (.goto 4, 3) := by decide +kernel
theorem d3_16 : decode prog_95_method_7_code 16 = .ok (.ireturn, 1) := by decide +kernel
theorem d3_15 : decode prog_95_method_7_code 15 = .ok (.iconst 0, 1) := by decide +kernel
theorem own_ef_rm3 (m : MethodId) (x0 : Addr) : entryFrame m #[(.ref x0)] 1 = mkF m 0 #[.val (.ref x0)] [] := by first | (simp [entryFrame, mkF, argsToLocals, Value.category]; done) | rfl
def Q_rm3 (Z : State) (x0 aW : Addr) (ss ee : Int32) (h0 : Heap) (n0 : Nat) : Option Value → Heap → List Loc → Prop := fun v h L => v = some (.int (fE ss ee)) ∧ Fr n0 L ∧ h = h0
set_option maxRecDepth 65536 in
set_option maxHeartbeats 40000000 in
theorem rm3 (l : Launch) (Z : State) (a0 : Array Value) (hw : ∀ d ∈ tables_1, d.before a0 Z = true) (ws : List Jvm.Cond) (x0 aW : Addr) (ss ee : Int32) (h0 : Heap) (n0 : Nat) (Z0 : n0 ≤ h0.size) (F_bytes : Fld Z h0 x0 "com/example/cascadex/cascadex/Utf8" "bytes" "[B" (.ref aW)) (F_start : Fld Z h0 x0 "com/example/cascadex/cascadex/Utf8" "start" "I" (.int ss)) (F_end : Fld Z h0 x0 "com/example/cascadex/cascadex/Utf8" "end" "I" (.int ee)) :
    Ctr l Z (⟨"com/example/cascadex/cascadex/Utf8", "isEmpty", "()Z"⟩ : MethodName) prog_95_method_7_code 1 (some .boolean) ws ({ frames := 0, cells := 0, slots := 0, locals := 0 } : Room) #[(.ref x0)] h0 (Q_rm3 Z x0 aW ss ee h0 n0) := by
  refine Ctr.intro (plainFor_of_name own_pn0) ?_
  intro p e s m below meth c s₁ hx hby hml hown hnm hret hlk hZ X0 e0
  have hown : s.vm.findClass "com/example/cascadex/cascadex/Utf8" = some m.cls := hown
  have hml : c.maxLocals = 1 := hml
  have N0 := Fr.nil n0
  refine Go.cast (own_ef_rm3 m x0) ?_
  show Go p e below s₁ (mkF m 0 #[.val (.ref x0)] []) _
  refine Go.of (fun _ k => XS.aloadN X0.here hx rfl (hb hby d3_0) rfl rfl  k) ?_
  show Go p e below s₁ (mkF m 1 #[.val (.ref x0)] [(.ref x0)]) _
  obtain ⟨T1, X1, e1, st1⟩ := getF X0 hx hZ hown (host := "") (Or.inl (hw _ (List.mem_of_getElem? (i := 13) rfl))) Via.refl e0 F_start (g := (mkF m 1 #[.val (.ref x0)] [(.ref x0)])) rfl rfl (hb hby d3_1)
  refine Go.of (fun _ k => st1 _ k) ?_
  show Go p e below T1 (mkF m 4 #[.val (.ref x0)] [(.int ss)]) _
  refine Go.of (fun _ k => XS.aloadN X1.here hx rfl (hb hby d3_4) rfl rfl  k) ?_
  show Go p e below T1 (mkF m 5 #[.val (.ref x0)] [(.ref x0), (.int ss)]) _
  obtain ⟨T2, X2, e2, st2⟩ := getF X1 hx hZ hown (host := "") (Or.inl (hw _ (List.mem_of_getElem? (i := 15) rfl))) Via.refl e1 F_end (g := (mkF m 5 #[.val (.ref x0)] [(.ref x0), (.int ss)])) rfl rfl (hb hby d3_5)
  refine Go.of (fun _ k => st2 _ k) ?_
  show Go p e below T2 (mkF m 8 #[.val (.ref x0)] [(.int ee), (.int ss)]) _
  by_cases hc8_0 : ss = ee
  · refine Go.of (fun _ k => XS.icmpNo X2.here hx rfl (hb hby d3_8) rfl (teq hc8_0).2 k) ?_
    show Go p e below T2 (mkF m 11 #[.val (.ref x0)] []) _
    refine Go.of (fun _ k => XS.iconst X2.here hx rfl (hb hby d3_11) k) ?_
    show Go p e below T2 (mkF m 12 #[.val (.ref x0)] [(.int (1 : Int32))]) _
    refine Go.of (fun _ k => XS.goto X2.here hx rfl (pc0 := 12) (pc' := 16) rfl (hb hby d3_12) (by decide) (by decide) k) ?_
    show Go p e below T2 (mkF m 16 #[.val (.ref x0)] [(.int (1 : Int32))]) _
    refine Go.retN X2 hx (t := .boolean) hret hlk (by simp) (hb hby d3_16) e2 (by decide) (by decide) ?_
    exact ⟨show some (Value.int (1 : Int32)) = _ from by simp [fE, *], N0, rfl⟩
  · refine Go.of (fun _ k => XS.icmpYes X2.here hx rfl (pc0 := 8) (pc' := 15) rfl (hb hby d3_8) rfl (feq hc8_0).2 (by decide) (by decide) k) ?_
    show Go p e below T2 (mkF m 15 #[.val (.ref x0)] []) _
    refine Go.of (fun _ k => XS.iconst X2.here hx rfl (hb hby d3_15) k) ?_
    show Go p e below T2 (mkF m 16 #[.val (.ref x0)] [(.int (0 : Int32))]) _
    refine Go.retN X2 hx (t := .boolean) hret hlk (by simp) (hb hby d3_16) e2 (by decide) (by decide) ?_
    exact ⟨show some (Value.int (0 : Int32)) = _ from by simp [fE, *], N0, rfl⟩
theorem d6_0 : decode jdk_65_method_30_code 0 = .ok (.iload_n 1, 1) := by decide +kernel
theorem d6_1 : decode jdk_65_method_30_code 1 = .ok (.iload_n 2, 1) := by decide +kernel
theorem d6_2 : decode jdk_65_method_30_code 2 = .ok (.if_icmp .le 44, 3) := by decide +kernel
theorem d6_46 : decode jdk_65_method_30_code 46 = .ok (.iload_n 1, 1) := by decide +kernel
theorem d6_47 : decode jdk_65_method_30_code 47 = .ok (.ifCond .ge 12, 3) := by decide +kernel
theorem d6_59 : decode jdk_65_method_30_code 59 = .ok (.iload_n 2, 1) := by decide +kernel
theorem d6_60 : decode jdk_65_method_30_code 60 = .ok (.iload_n 0, 1) := by decide +kernel
theorem d6_61 : decode jdk_65_method_30_code 61 = .ok (.if_icmp .le 12, 3) := by decide +kernel
theorem d6_73 : decode jdk_65_method_30_code 73 = .ok (.return_, 1) := by decide +kernel
theorem own_pn1 : plainName "java/util/Arrays" = true := by first | (simp [plainName, overriddenIn]; done) | decide +kernel
theorem own_ef_rm6 (m : MethodId) (x0 : Int32) (x1 : Int32) (x2 : Int32) : entryFrame m #[(.int x0), (.int x1), (.int x2)] 3 = mkF m 0 #[.val (.int x0), .val (.int x1), .val (.int x2)] [] := by first | (simp [entryFrame, mkF, argsToLocals, Value.category]; done) | rfl
def Q_rm6 (Z : State) (x0 x1 x2 : Int32) (h0 : Heap) (n0 : Nat) : Option Value → Heap → List Loc → Prop := fun v h L => v = none ∧ Fr n0 L ∧ h = h0
set_option maxRecDepth 65536 in
set_option maxHeartbeats 40000000 in
theorem rm6 (l : Launch) (Z : State) (a0 : Array Value) (hw : ∀ d ∈ tables_1, d.before a0 Z = true) (ws : List Jvm.Cond) (x0 x1 x2 : Int32) (h0 : Heap) (n0 : Nat) (Z0 : n0 ≤ h0.size) (r1 : ¬ (x2 < x1)) (r2 : ¬ (x1 < 0)) (r3 : ¬ (x0 < x2)) :
    Ctr l Z (⟨"java/util/Arrays", "rangeCheck", "(III)V"⟩ : MethodName) jdk_65_method_30_code 3 none ws ({ frames := 0, cells := 0, slots := 0, locals := 0 } : Room) #[(.int x0), (.int x1), (.int x2)] h0 (Q_rm6 Z x0 x1 x2 h0 n0) := by
  refine Ctr.intro (plainFor_of_name own_pn1) ?_
  intro p e s m below meth c s₁ hx hby hml hown hnm hret hlk hZ X0 e0
  have hown : s.vm.findClass "java/util/Arrays" = some m.cls := hown
  have hml : c.maxLocals = 3 := hml
  have N0 := Fr.nil n0
  refine Go.cast (own_ef_rm6 m x0 x1 x2) ?_
  show Go p e below s₁ (mkF m 0 #[.val (.int x0), .val (.int x1), .val (.int x2)] []) _
  refine Go.of (fun _ k => XS.iloadN X0.here hx rfl (hb hby d6_0) rfl  k) ?_
  show Go p e below s₁ (mkF m 1 #[.val (.int x0), .val (.int x1), .val (.int x2)] [(.int x1)]) _
  refine Go.of (fun _ k => XS.iloadN X0.here hx rfl (hb hby d6_1) rfl  k) ?_
  show Go p e below s₁ (mkF m 2 #[.val (.int x0), .val (.int x1), .val (.int x2)] [(.int x2), (.int x1)]) _
  refine Go.of (fun _ k => XS.icmpYes X0.here hx rfl (pc0 := 2) (pc' := 46) rfl (hb hby d6_2) rfl (flt (show ¬ (x2 < x1) from r1)).2.2.2 (by decide) (by decide) k) ?_
  show Go p e below s₁ (mkF m 46 #[.val (.int x0), .val (.int x1), .val (.int x2)] []) _
  refine Go.of (fun _ k => XS.iloadN X0.here hx rfl (hb hby d6_46) rfl  k) ?_
  show Go p e below s₁ (mkF m 47 #[.val (.int x0), .val (.int x1), .val (.int x2)] [(.int x1)]) _
  refine Go.of (fun _ k => XS.ifYes X0.here hx rfl (pc0 := 47) (pc' := 59) rfl (hb hby d6_47) rfl ((if0 _ _).trans (flt (show ¬ (x1 < (0 : Int32)) from r2)).2.1) (by decide) (by decide) k) ?_
  show Go p e below s₁ (mkF m 59 #[.val (.int x0), .val (.int x1), .val (.int x2)] []) _
  refine Go.of (fun _ k => XS.iloadN X0.here hx rfl (hb hby d6_59) rfl  k) ?_
  show Go p e below s₁ (mkF m 60 #[.val (.int x0), .val (.int x1), .val (.int x2)] [(.int x2)]) _
  refine Go.of (fun _ k => XS.iloadN X0.here hx rfl (hb hby d6_60) rfl  k) ?_
  show Go p e below s₁ (mkF m 61 #[.val (.int x0), .val (.int x1), .val (.int x2)] [(.int x0), (.int x2)]) _
  refine Go.of (fun _ k => XS.icmpYes X0.here hx rfl (pc0 := 61) (pc' := 73) rfl (hb hby d6_61) rfl (flt (show ¬ (x0 < x2) from r3)).2.2.2 (by decide) (by decide) k) ?_
  show Go p e below s₁ (mkF m 73 #[.val (.int x0), .val (.int x1), .val (.int x2)] []) _
  refine Go.ret0 X0 hx hret hlk (hb hby d6_73) e0 (by decide) (by decide) ?_
  exact ⟨rfl, N0, rfl⟩
theorem d7_0 : decode jdk_48_method_14_code 0 = .ok (.iconst 0, 1) := by decide +kernel
theorem d7_1 : decode jdk_48_method_14_code 1 = .ok (.istore 5, 2) := by decide +kernel
theorem d7_3 : decode jdk_48_method_14_code 3 = .ok (.iload 4, 2) := by decide +kernel
theorem d7_5 : decode jdk_48_method_14_code 5 = .ok (.bipush 7, 2) := by decide +kernel
theorem d7_7 : decode jdk_48_method_14_code 7 = .ok (.if_icmp .le 63, 3) := by decide +kernel
theorem d7_70 : decode jdk_48_method_14_code 70 = .ok (.iload 5, 2) := by decide +kernel
theorem d7_72 : decode jdk_48_method_14_code 72 = .ok (.iload 4, 2) := by decide +kernel
theorem d7_74 : decode jdk_48_method_14_code 74 = .ok (.if_icmp .ge 27, 3) := by decide +kernel
theorem d7_101 : decode jdk_48_method_14_code 101 = .ok (.iconst (-1), 1) := by decide +kernel
theorem d7_102 : decode jdk_48_method_14_code 102 = .ok (.ireturn, 1) := by decide +kernel
theorem own_pn2 : plainName "jdk/internal/util/ArraysSupport" = true := by first | (simp [plainName, overriddenIn]; done) | decide +kernel
theorem own_ef_rm7 (m : MethodId) (x0 : Addr) (x1 : Int32) (x2 : Addr) (x3 : Int32) (x4 : Int32) : entryFrame m #[(.ref x0), (.int x1), (.ref x2), (.int x3), (.int x4)] 8 = mkF m 0 #[.val (.ref x0), .val (.int x1), .val (.ref x2), .val (.int x3), .val (.int x4), .unset, .unset, .unset] [] := by first | (simp [entryFrame, mkF, argsToLocals, Value.category]; done) | rfl
def Q_rm7 (Z : State) (x0 : Addr) (x1 : Int32) (x2 : Addr) (x3 x4 : Int32) (h0 : Heap) (n0 : Nat) : Option Value → Heap → List Loc → Prop := fun v h L => v = some (.int (-1)) ∧ Fr n0 L ∧ h = h0
set_option maxRecDepth 65536 in
set_option maxHeartbeats 40000000 in
theorem rm7 (l : Launch) (Z : State) (a0 : Array Value) (hw : ∀ d ∈ tables_1, d.before a0 Z = true) (ws : List Jvm.Cond) (x0 : Addr) (x1 : Int32) (x2 : Addr) (x3 x4 : Int32) (h0 : Heap) (n0 : Nat) (Z0 : n0 ≤ h0.size) (h4 : x4 = 0) :
    Ctr l Z (⟨"jdk/internal/util/ArraysSupport", "mismatch", "([BI[BII)I"⟩ : MethodName) jdk_48_method_14_code 8 (some .int) ws ({ frames := 0, cells := 0, slots := 0, locals := 0 } : Room) #[(.ref x0), (.int x1), (.ref x2), (.int x3), (.int x4)] h0 (Q_rm7 Z x0 x1 x2 x3 x4 h0 n0) := by
  refine Ctr.intro (plainFor_of_name own_pn2) ?_
  intro p e s m below meth c s₁ hx hby hml hown hnm hret hlk hZ X0 e0
  have hown : s.vm.findClass "jdk/internal/util/ArraysSupport" = some m.cls := hown
  have hml : c.maxLocals = 8 := hml
  have N0 := Fr.nil n0
  refine Go.cast (own_ef_rm7 m x0 x1 x2 x3 x4) ?_
  show Go p e below s₁ (mkF m 0 #[.val (.ref x0), .val (.int x1), .val (.ref x2), .val (.int x3), .val (.int x4), .unset, .unset, .unset] []) _
  refine Go.of (fun _ k => XS.iconst X0.here hx rfl (hb hby d7_0) k) ?_
  show Go p e below s₁ (mkF m 1 #[.val (.ref x0), .val (.int x1), .val (.ref x2), .val (.int x3), .val (.int x4), .unset, .unset, .unset] [(.int (0 : Int32))]) _
  refine Go.of (fun _ k => XS.istore X0.here hx rfl (hb hby d7_1) rfl (l' := #[.val (.ref x0), .val (.int x1), .val (.ref x2), .val (.int x3), .val (.int x4), .val (.int (0 : Int32)), .unset, .unset]) rfl k) ?_
  show Go p e below s₁ (mkF m 3 #[.val (.ref x0), .val (.int x1), .val (.ref x2), .val (.int x3), .val (.int x4), .val (.int (0 : Int32)), .unset, .unset] []) _
  refine Go.of (fun _ k => XS.iload X0.here hx rfl (hb hby d7_3) rfl  k) ?_
  show Go p e below s₁ (mkF m 5 #[.val (.ref x0), .val (.int x1), .val (.ref x2), .val (.int x3), .val (.int x4), .val (.int (0 : Int32)), .unset, .unset] [(.int x4)]) _
  refine Go.of (fun _ k => XS.bipush X0.here hx rfl (hb hby d7_5) k) ?_
  show Go p e below s₁ (mkF m 7 #[.val (.ref x0), .val (.int x1), .val (.ref x2), .val (.int x3), .val (.int x4), .val (.int (0 : Int32)), .unset, .unset] [(.int (7 : Int32)), (.int x4)]) _
  refine Go.of (fun _ k => XS.icmpYes X0.here hx rfl (pc0 := 7) (pc' := 70) rfl (hb hby d7_7) rfl (flt (show ¬ ((7 : Int32) < x4) from (by rw [h4]; decide))).2.2.2 (by decide) (by decide) k) ?_
  show Go p e below s₁ (mkF m 70 #[.val (.ref x0), .val (.int x1), .val (.ref x2), .val (.int x3), .val (.int x4), .val (.int (0 : Int32)), .unset, .unset] []) _
  refine Go.of (fun _ k => XS.iload X0.here hx rfl (hb hby d7_70) rfl  k) ?_
  show Go p e below s₁ (mkF m 72 #[.val (.ref x0), .val (.int x1), .val (.ref x2), .val (.int x3), .val (.int x4), .val (.int (0 : Int32)), .unset, .unset] [(.int (0 : Int32))]) _
  refine Go.of (fun _ k => XS.iload X0.here hx rfl (hb hby d7_72) rfl  k) ?_
  show Go p e below s₁ (mkF m 74 #[.val (.ref x0), .val (.int x1), .val (.ref x2), .val (.int x3), .val (.int x4), .val (.int (0 : Int32)), .unset, .unset] [(.int x4), (.int (0 : Int32))]) _
  refine Go.of (fun _ k => XS.icmpYes X0.here hx rfl (pc0 := 74) (pc' := 101) rfl (hb hby d7_74) rfl (flt (show ¬ ((0 : Int32) < x4) from (by rw [h4]; decide))).2.1 (by decide) (by decide) k) ?_
  show Go p e below s₁ (mkF m 101 #[.val (.ref x0), .val (.int x1), .val (.ref x2), .val (.int x3), .val (.int x4), .val (.int (0 : Int32)), .unset, .unset] []) _
  refine Go.of (fun _ k => XS.iconst X0.here hx rfl (hb hby d7_101) k) ?_
  show Go p e below s₁ (mkF m 102 #[.val (.ref x0), .val (.int x1), .val (.ref x2), .val (.int x3), .val (.int x4), .val (.int (0 : Int32)), .unset, .unset] [(.int (-1 : Int32))]) _
  refine Go.retI X0 hx hret hlk (hb hby d7_102) e0 (by decide) (by decide) ?_
  exact ⟨rfl, N0, rfl⟩
theorem d5_0 : decode jdk_65_method_90_code 0 = .ok (.aload_n 0, 1) := by decide +kernel
theorem d5_1 : decode jdk_65_method_90_code 1 = .ok (.arraylength, 1) := by decide +kernel
theorem d5_2 : decode jdk_65_method_90_code 2 = .ok (.iload_n 1, 1) := by decide +kernel
theorem d5_3 : decode jdk_65_method_90_code 3 = .ok (.iload_n 2, 1) := by decide +kernel
theorem d5_4 : decode jdk_65_method_90_code 4 = .ok (.invokestatic 13, 3) := by decide +kernel
theorem own_pd0 : parseMethodDescriptor "(III)V" = some ⟨[.int, .int, .int], none⟩ := by decide +kernel
theorem d5_7 : decode jdk_65_method_90_code 7 = .ok (.aload_n 3, 1) := by decide +kernel
theorem d5_8 : decode jdk_65_method_90_code 8 = .ok (.arraylength, 1) := by decide +kernel
theorem d5_9 : decode jdk_65_method_90_code 9 = .ok (.iload 4, 2) := by decide +kernel
theorem d5_11 : decode jdk_65_method_90_code 11 = .ok (.iload 5, 2) := by decide +kernel
theorem d5_13 : decode jdk_65_method_90_code 13 = .ok (.invokestatic 13, 3) := by decide +kernel
theorem d5_16 : decode jdk_65_method_90_code 16 = .ok (.iload_n 2, 1) := by decide +kernel
theorem d5_17 : decode jdk_65_method_90_code 17 = .ok (.iload_n 1, 1) := by decide +kernel
theorem d5_18 : decode jdk_65_method_90_code 18 = .ok (.isub, 1) := by decide +kernel
theorem d5_19 : decode jdk_65_method_90_code 19 = .ok (.istore 6, 2) := by decide +kernel
theorem d5_21 : decode jdk_65_method_90_code 21 = .ok (.iload 5, 2) := by decide +kernel
theorem d5_23 : decode jdk_65_method_90_code 23 = .ok (.iload 4, 2) := by decide +kernel
theorem d5_25 : decode jdk_65_method_90_code 25 = .ok (.isub, 1) := by decide +kernel
theorem d5_26 : decode jdk_65_method_90_code 26 = .ok (.istore 7, 2) := by decide +kernel
theorem d5_28 : decode jdk_65_method_90_code 28 = .ok (.iload 6, 2) := by decide +kernel
theorem d5_30 : decode jdk_65_method_90_code 30 = .ok (.iload 7, 2) := by decide +kernel
theorem d5_32 : decode jdk_65_method_90_code 32 = .ok (.if_icmp .eq 5, 3) := by decide +kernel
theorem d5_37 : decode jdk_65_method_90_code 37 = .ok (.aload_n 0, 1) := by decide +kernel
theorem d5_38 : decode jdk_65_method_90_code 38 = .ok (.iload_n 1, 1) := by decide +kernel
theorem d5_39 : decode jdk_65_method_90_code 39 = .ok (.aload_n 3, 1) := by decide +kernel
theorem d5_40 : decode jdk_65_method_90_code 40 = .ok (.iload 4, 2) := by decide +kernel
theorem d5_42 : decode jdk_65_method_90_code 42 = .ok (.iload 6, 2) := by decide +kernel
theorem d5_44 : decode jdk_65_method_90_code 44 = .ok (.invokestatic 275, 3) := by decide +kernel
theorem own_pd1 : parseMethodDescriptor "([BI[BII)I" = some ⟨[(.array .byte), .int, (.array .byte), .int, .int], some .int⟩ := by decide +kernel
theorem d5_47 : decode jdk_65_method_90_code 47 = .ok (.ifCond .ge 7, 3) := by decide +kernel
theorem d5_50 : decode jdk_65_method_90_code 50 = .ok (.iconst 1, 1) := by decide +kernel
theorem d5_51 : decode jdk_65_method_90_code 51 = .ok (.goto 4, 3) := by decide +kernel
theorem d5_55 : decode jdk_65_method_90_code 55 = .ok (.ireturn, 1) := by decide +kernel
theorem own_ef_rm5 (m : MethodId) (a1 : Addr) (ss : Int32) (ee : Int32) (a2 : Addr) (x4 : Int32) (x5 : Int32) : entryFrame m #[(.ref a1), (.int ss), (.int ee), (.ref a2), (.int x4), (.int x5)] 8 = mkF m 0 #[.val (.ref a1), .val (.int ss), .val (.int ee), .val (.ref a2), .val (.int x4), .val (.int x5), .unset, .unset] [] := by first | (simp [entryFrame, mkF, argsToLocals, Value.category]; done) | rfl
def Q_rm5 (Z : State) (a1 : Addr) (ss ee : Int32) (a2 : Addr) (x4 x5 : Int32) (cl1 cl2 : Cell) (h0 : Heap) (n0 : Nat) : Option Value → Heap → List Loc → Prop := fun v h L => v = some (.int 1) ∧ Fr n0 L ∧ h = h0
set_option maxRecDepth 65536 in
set_option maxHeartbeats 40000000 in
theorem rm5 (l : Launch) (Z : State) (a0 : Array Value) (hw : ∀ d ∈ tables_1, d.before a0 Z = true) (ws : List Jvm.Cond) (a1 : Addr) (ss ee : Int32) (a2 : Addr) (x4 x5 : Int32) (cl1 cl2 : Cell) (h0 : Heap) (n0 : Nat) (Z0 : n0 ≤ h0.size) (A1 : Arr Z h0 a1 cl1 .byte) (S1 : cl1.slots.size = (8 : Int32).toNatClampNeg) (A2 : Arr Z h0 a2 cl2 .byte) (S2 : cl2.slots.size = (0 : Int32).toNatClampNeg) (b0 : 0 ≤ ss.toInt) (b1 : ss.toInt ≤ ee.toInt) (b2 : ee.toInt ≤ 8) (b3 : ee - ss = 0) (h4 : x4 = 0) (h5 : x5 = 0) :
    Ctr l Z (⟨"java/util/Arrays", "equals", "([BII[BII)Z"⟩ : MethodName) jdk_65_method_90_code 8 (some .boolean) ws ({ frames := 1, cells := 0, slots := 0, locals := 19 } : Room) #[(.ref a1), (.int ss), (.int ee), (.ref a2), (.int x4), (.int x5)] h0 (Q_rm5 Z a1 ss ee a2 x4 x5 cl1 cl2 h0 n0) := by
  refine Ctr.intro (plainFor_of_name own_pn1) ?_
  intro p e s m below meth c s₁ hx hby hml hown hnm hret hlk hZ X0 e0
  have hown : s.vm.findClass "java/util/Arrays" = some m.cls := hown
  have hml : c.maxLocals = 8 := hml
  have N0 := Fr.nil n0
  refine Go.cast (own_ef_rm5 m a1 ss ee a2 x4 x5) ?_
  show Go p e below s₁ (mkF m 0 #[.val (.ref a1), .val (.int ss), .val (.int ee), .val (.ref a2), .val (.int x4), .val (.int x5), .unset, .unset] []) _
  refine Go.of (fun _ k => XS.aloadN X0.here hx rfl (hb hby d5_0) rfl rfl  k) ?_
  show Go p e below s₁ (mkF m 1 #[.val (.ref a1), .val (.int ss), .val (.int ee), .val (.ref a2), .val (.int x4), .val (.int x5), .unset, .unset] [(.ref a1)]) _
  refine Go.of (fun _ k => X0.arraylength hx (by rw [e0]; exact A1.1) (State.isArrayOf_alike hZ.alike A1.2.1) (g := (mkF m 1 #[.val (.ref a1), .val (.int ss), .val (.int ee), .val (.ref a2), .val (.int x4), .val (.int x5), .unset, .unset] [(.ref a1)])) rfl rfl (hb hby d5_1) _ k) ?_
  rw [len_of S1 (by decide)]
  show Go p e below s₁ (mkF m 2 #[.val (.ref a1), .val (.int ss), .val (.int ee), .val (.ref a2), .val (.int x4), .val (.int x5), .unset, .unset] [(.int (8 : Int32))]) _
  refine Go.of (fun _ k => XS.iloadN X0.here hx rfl (hb hby d5_2) rfl  k) ?_
  show Go p e below s₁ (mkF m 3 #[.val (.ref a1), .val (.int ss), .val (.int ee), .val (.ref a2), .val (.int x4), .val (.int x5), .unset, .unset] [(.int ss), (.int (8 : Int32))]) _
  refine Go.of (fun _ k => XS.iloadN X0.here hx rfl (hb hby d5_3) rfl  k) ?_
  show Go p e below s₁ (mkF m 4 #[.val (.ref a1), .val (.int ss), .val (.int ee), .val (.ref a2), .val (.int x4), .val (.int x5), .unset, .unset] [(.int ee), (.int ss), (.int (8 : Int32))]) _
  obtain ⟨_, _, ⟨T1, L1, kq1, nq1⟩, -, X1, ⟨Lc1, hQ1, l1, y1, z1⟩, st1⟩ := Jvm.LawKit.callS X0 hx (y := (⟨"java/util/Arrays", "rangeCheck", "(III)V"⟩ : MethodName)) hown (mvT hZ (hw _ (List.mem_of_getElem? (i := 35) rfl))) (mvT hZ (hw _ (List.mem_of_getElem? (i := 36) rfl))) (mvT hZ (hw _ (List.mem_of_getElem? (i := 33) rfl))) (mvT hZ (hw _ (List.mem_of_getElem? (i := 37) rfl))) (by decide) (backOf (W := 0) (rm6 l Z a0 hw [] (8 : Int32) ss ee h0 n0 Z0 (by rw [own_lt]; omega) (by rw [own_lt, k0]; omega) (by rw [own_lt, k8]; omega)) hZ (hw _ (List.mem_of_getElem? (i := 37) rfl)) (hw _ (List.mem_of_getElem? (i := 33) rfl)) (by decide) (by decide)) (g := (mkF m 4 #[.val (.ref a1), .val (.int ss), .val (.int ee), .val (.ref a2), .val (.int x4), .val (.int x5), .unset, .unset] [(.int ee), (.int ss), (.int (8 : Int32))])) rfl (by rw [hml]; rfl) (argsL := [(.int (8 : Int32)), (.int ss), (.int ee)]) (rest := []) (lenOf own_pd0 rfl) rfl (by show 2 * 0 + _ ≤ _; exact Nat.le_of_eq rfl) (hb hby d5_4) (fun _ _ => ⟨rfl, e0, (by decide : 0 + 0 ≤ _), (by decide : 0 + 0 ≤ _)⟩)
  dsimp only [Pt.U, Pt.locs, Pt.cells, Pt.slots] at X1 l1 y1 z1 st1 hQ1
  subst l1 y1 z1
  obtain ⟨rfl, Nq1, e1⟩ := hQ1
  have e1 := e1.trans rfl
  have N1 := Fr.app N0 Nq1
  refine Go.of (fun _ k => st1 _ k) ?_
  show Go p e below T1 (mkF m 7 #[.val (.ref a1), .val (.int ss), .val (.int ee), .val (.ref a2), .val (.int x4), .val (.int x5), .unset, .unset] []) _
  refine Go.of (fun _ k => XS.aloadN X1.here hx rfl (hb hby d5_7) rfl rfl  k) ?_
  show Go p e below T1 (mkF m 8 #[.val (.ref a1), .val (.int ss), .val (.int ee), .val (.ref a2), .val (.int x4), .val (.int x5), .unset, .unset] [(.ref a2)]) _
  refine Go.of (fun _ k => X1.arraylength hx (by rw [e1]; exact A2.1) (State.isArrayOf_alike hZ.alike A2.2.1) (g := (mkF m 8 #[.val (.ref a1), .val (.int ss), .val (.int ee), .val (.ref a2), .val (.int x4), .val (.int x5), .unset, .unset] [(.ref a2)])) rfl rfl (hb hby d5_8) _ k) ?_
  rw [len_of S2 (by decide)]
  show Go p e below T1 (mkF m 9 #[.val (.ref a1), .val (.int ss), .val (.int ee), .val (.ref a2), .val (.int x4), .val (.int x5), .unset, .unset] [(.int (0 : Int32))]) _
  refine Go.of (fun _ k => XS.iload X1.here hx rfl (hb hby d5_9) rfl  k) ?_
  show Go p e below T1 (mkF m 11 #[.val (.ref a1), .val (.int ss), .val (.int ee), .val (.ref a2), .val (.int x4), .val (.int x5), .unset, .unset] [(.int x4), (.int (0 : Int32))]) _
  refine Go.of (fun _ k => XS.iload X1.here hx rfl (hb hby d5_11) rfl  k) ?_
  show Go p e below T1 (mkF m 13 #[.val (.ref a1), .val (.int ss), .val (.int ee), .val (.ref a2), .val (.int x4), .val (.int x5), .unset, .unset] [(.int x5), (.int x4), (.int (0 : Int32))]) _
  obtain ⟨_, _, ⟨T2, L2, kq2, nq2⟩, -, X2, ⟨Lc2, hQ2, l2, y2, z2⟩, st2⟩ := Jvm.LawKit.callS X1 hx (y := (⟨"java/util/Arrays", "rangeCheck", "(III)V"⟩ : MethodName)) hown (mvT hZ (hw _ (List.mem_of_getElem? (i := 35) rfl))) (mvT hZ (hw _ (List.mem_of_getElem? (i := 36) rfl))) (mvT hZ (hw _ (List.mem_of_getElem? (i := 33) rfl))) (mvT hZ (hw _ (List.mem_of_getElem? (i := 37) rfl))) (by decide) (backOf (W := 0) (rm6 l Z a0 hw [] (0 : Int32) x4 x5 h0 n0 Z0 (by rw [h4, h5]; decide) (by rw [h4]; decide) (by rw [h5]; decide)) hZ (hw _ (List.mem_of_getElem? (i := 37) rfl)) (hw _ (List.mem_of_getElem? (i := 33) rfl)) (by decide) (by decide)) (g := (mkF m 13 #[.val (.ref a1), .val (.int ss), .val (.int ee), .val (.ref a2), .val (.int x4), .val (.int x5), .unset, .unset] [(.int x5), (.int x4), (.int (0 : Int32))])) rfl (by rw [hml]; rfl) (argsL := [(.int (0 : Int32)), (.int x4), (.int x5)]) (rest := []) (lenOf own_pd0 rfl) rfl (by show 2 * 0 + _ ≤ _; exact Nat.le_of_eq rfl) (hb hby d5_13) (fun _ _ => ⟨rfl, e1, (by decide : 0 + 0 ≤ _), (by decide : 0 + 0 ≤ _)⟩)
  dsimp only [Pt.U, Pt.locs, Pt.cells, Pt.slots] at X2 l2 y2 z2 st2 hQ2
  subst l2 y2 z2
  obtain ⟨rfl, Nq2, e2⟩ := hQ2
  have e2 := e2.trans rfl
  have N2 := Fr.app N1 Nq2
  refine Go.of (fun _ k => st2 _ k) ?_
  show Go p e below T2 (mkF m 16 #[.val (.ref a1), .val (.int ss), .val (.int ee), .val (.ref a2), .val (.int x4), .val (.int x5), .unset, .unset] []) _
  refine Go.of (fun _ k => XS.iloadN X2.here hx rfl (hb hby d5_16) rfl  k) ?_
  show Go p e below T2 (mkF m 17 #[.val (.ref a1), .val (.int ss), .val (.int ee), .val (.ref a2), .val (.int x4), .val (.int x5), .unset, .unset] [(.int ee)]) _
  refine Go.of (fun _ k => XS.iloadN X2.here hx rfl (hb hby d5_17) rfl  k) ?_
  show Go p e below T2 (mkF m 18 #[.val (.ref a1), .val (.int ss), .val (.int ee), .val (.ref a2), .val (.int x4), .val (.int x5), .unset, .unset] [(.int ss), (.int ee)]) _
  refine Go.of (fun _ k => XS.isub X2.here hx rfl (hb hby d5_18) rfl k) ?_
  show Go p e below T2 (mkF m 19 #[.val (.ref a1), .val (.int ss), .val (.int ee), .val (.ref a2), .val (.int x4), .val (.int x5), .unset, .unset] [(.int (ee - ss))]) _
  refine Go.of (fun _ k => XS.istore X2.here hx rfl (hb hby d5_19) rfl (l' := #[.val (.ref a1), .val (.int ss), .val (.int ee), .val (.ref a2), .val (.int x4), .val (.int x5), .val (.int (ee - ss)), .unset]) rfl k) ?_
  show Go p e below T2 (mkF m 21 #[.val (.ref a1), .val (.int ss), .val (.int ee), .val (.ref a2), .val (.int x4), .val (.int x5), .val (.int (ee - ss)), .unset] []) _
  refine Go.of (fun _ k => XS.iload X2.here hx rfl (hb hby d5_21) rfl  k) ?_
  show Go p e below T2 (mkF m 23 #[.val (.ref a1), .val (.int ss), .val (.int ee), .val (.ref a2), .val (.int x4), .val (.int x5), .val (.int (ee - ss)), .unset] [(.int x5)]) _
  refine Go.of (fun _ k => XS.iload X2.here hx rfl (hb hby d5_23) rfl  k) ?_
  show Go p e below T2 (mkF m 25 #[.val (.ref a1), .val (.int ss), .val (.int ee), .val (.ref a2), .val (.int x4), .val (.int x5), .val (.int (ee - ss)), .unset] [(.int x4), (.int x5)]) _
  refine Go.of (fun _ k => XS.isub X2.here hx rfl (hb hby d5_25) rfl k) ?_
  show Go p e below T2 (mkF m 26 #[.val (.ref a1), .val (.int ss), .val (.int ee), .val (.ref a2), .val (.int x4), .val (.int x5), .val (.int (ee - ss)), .unset] [(.int (x5 - x4))]) _
  refine Go.of (fun _ k => XS.istore X2.here hx rfl (hb hby d5_26) rfl (l' := #[.val (.ref a1), .val (.int ss), .val (.int ee), .val (.ref a2), .val (.int x4), .val (.int x5), .val (.int (ee - ss)), .val (.int (x5 - x4))]) rfl k) ?_
  show Go p e below T2 (mkF m 28 #[.val (.ref a1), .val (.int ss), .val (.int ee), .val (.ref a2), .val (.int x4), .val (.int x5), .val (.int (ee - ss)), .val (.int (x5 - x4))] []) _
  refine Go.of (fun _ k => XS.iload X2.here hx rfl (hb hby d5_28) rfl  k) ?_
  show Go p e below T2 (mkF m 30 #[.val (.ref a1), .val (.int ss), .val (.int ee), .val (.ref a2), .val (.int x4), .val (.int x5), .val (.int (ee - ss)), .val (.int (x5 - x4))] [(.int (ee - ss))]) _
  refine Go.of (fun _ k => XS.iload X2.here hx rfl (hb hby d5_30) rfl  k) ?_
  show Go p e below T2 (mkF m 32 #[.val (.ref a1), .val (.int ss), .val (.int ee), .val (.ref a2), .val (.int x4), .val (.int x5), .val (.int (ee - ss)), .val (.int (x5 - x4))] [(.int (x5 - x4)), (.int (ee - ss))]) _
  refine Go.of (fun _ k => XS.icmpYes X2.here hx rfl (pc0 := 32) (pc' := 37) rfl (hb hby d5_32) rfl (teq (show (ee - ss) = (x5 - x4) from (by rw [b3, h4, h5]; decide))).1 (by decide) (by decide) k) ?_
  show Go p e below T2 (mkF m 37 #[.val (.ref a1), .val (.int ss), .val (.int ee), .val (.ref a2), .val (.int x4), .val (.int x5), .val (.int (ee - ss)), .val (.int (x5 - x4))] []) _
  refine Go.of (fun _ k => XS.aloadN X2.here hx rfl (hb hby d5_37) rfl rfl  k) ?_
  show Go p e below T2 (mkF m 38 #[.val (.ref a1), .val (.int ss), .val (.int ee), .val (.ref a2), .val (.int x4), .val (.int x5), .val (.int (ee - ss)), .val (.int (x5 - x4))] [(.ref a1)]) _
  refine Go.of (fun _ k => XS.iloadN X2.here hx rfl (hb hby d5_38) rfl  k) ?_
  show Go p e below T2 (mkF m 39 #[.val (.ref a1), .val (.int ss), .val (.int ee), .val (.ref a2), .val (.int x4), .val (.int x5), .val (.int (ee - ss)), .val (.int (x5 - x4))] [(.int ss), (.ref a1)]) _
  refine Go.of (fun _ k => XS.aloadN X2.here hx rfl (hb hby d5_39) rfl rfl  k) ?_
  show Go p e below T2 (mkF m 40 #[.val (.ref a1), .val (.int ss), .val (.int ee), .val (.ref a2), .val (.int x4), .val (.int x5), .val (.int (ee - ss)), .val (.int (x5 - x4))] [(.ref a2), (.int ss), (.ref a1)]) _
  refine Go.of (fun _ k => XS.iload X2.here hx rfl (hb hby d5_40) rfl  k) ?_
  show Go p e below T2 (mkF m 42 #[.val (.ref a1), .val (.int ss), .val (.int ee), .val (.ref a2), .val (.int x4), .val (.int x5), .val (.int (ee - ss)), .val (.int (x5 - x4))] [(.int x4), (.ref a2), (.int ss), (.ref a1)]) _
  refine Go.of (fun _ k => XS.iload X2.here hx rfl (hb hby d5_42) rfl  k) ?_
  show Go p e below T2 (mkF m 44 #[.val (.ref a1), .val (.int ss), .val (.int ee), .val (.ref a2), .val (.int x4), .val (.int x5), .val (.int (ee - ss)), .val (.int (x5 - x4))] [(.int (ee - ss)), (.int x4), (.ref a2), (.int ss), (.ref a1)]) _
  obtain ⟨_, _, ⟨T3, L3, kq3, nq3⟩, -, X3, ⟨Lc3, hQ3, l3, y3, z3⟩, st3⟩ := Jvm.LawKit.callS X2 hx (y := (⟨"jdk/internal/util/ArraysSupport", "mismatch", "([BI[BII)I"⟩ : MethodName)) hown (mvT hZ (hw _ (List.mem_of_getElem? (i := 38) rfl))) (mvT hZ (hw _ (List.mem_of_getElem? (i := 39) rfl))) (mvT hZ (hw _ (List.mem_of_getElem? (i := 40) rfl))) (mvT hZ (hw _ (List.mem_of_getElem? (i := 41) rfl))) (by decide) (backOf (W := 0) (rm7 l Z a0 hw [] a1 ss a2 x4 (ee - ss) h0 n0 Z0 b3) hZ (hw _ (List.mem_of_getElem? (i := 41) rfl)) (hw _ (List.mem_of_getElem? (i := 40) rfl)) (by decide) (by decide)) (g := (mkF m 44 #[.val (.ref a1), .val (.int ss), .val (.int ee), .val (.ref a2), .val (.int x4), .val (.int x5), .val (.int (ee - ss)), .val (.int (x5 - x4))] [(.int (ee - ss)), (.int x4), (.ref a2), (.int ss), (.ref a1)])) rfl (by rw [hml]; rfl) (argsL := [(.ref a1), (.int ss), (.ref a2), (.int x4), (.int (ee - ss))]) (rest := []) (lenOf own_pd1 rfl) rfl (by show 2 * 0 + _ ≤ _; exact Nat.le_of_eq rfl) (hb hby d5_44) (fun _ _ => ⟨rfl, e2, (by decide : 0 + 0 ≤ _), (by decide : 0 + 0 ≤ _)⟩)
  dsimp only [Pt.U, Pt.locs, Pt.cells, Pt.slots] at X3 l3 y3 z3 st3 hQ3
  subst l3 y3 z3
  obtain ⟨rfl, Nq3, e3⟩ := hQ3
  have e3 := e3.trans rfl
  have N3 := Fr.app N2 Nq3
  refine Go.of (fun _ k => st3 _ k) ?_
  show Go p e below T3 (mkF m 47 #[.val (.ref a1), .val (.int ss), .val (.int ee), .val (.ref a2), .val (.int x4), .val (.int x5), .val (.int (ee - ss)), .val (.int (x5 - x4))] [(.int (-1 : Int32))]) _
  refine Go.of (fun _ k => XS.ifNo X3.here hx rfl (hb hby d5_47) rfl ((if0 _ _).trans (tlt (show (-1 : Int32) < (0 : Int32) from (by decide))).2.1) k) ?_
  show Go p e below T3 (mkF m 50 #[.val (.ref a1), .val (.int ss), .val (.int ee), .val (.ref a2), .val (.int x4), .val (.int x5), .val (.int (ee - ss)), .val (.int (x5 - x4))] []) _
  refine Go.of (fun _ k => XS.iconst X3.here hx rfl (hb hby d5_50) k) ?_
  show Go p e below T3 (mkF m 51 #[.val (.ref a1), .val (.int ss), .val (.int ee), .val (.ref a2), .val (.int x4), .val (.int x5), .val (.int (ee - ss)), .val (.int (x5 - x4))] [(.int (1 : Int32))]) _
  refine Go.of (fun _ k => XS.goto X3.here hx rfl (pc0 := 51) (pc' := 55) rfl (hb hby d5_51) (by decide) (by decide) k) ?_
  show Go p e below T3 (mkF m 55 #[.val (.ref a1), .val (.int ss), .val (.int ee), .val (.ref a2), .val (.int x4), .val (.int x5), .val (.int (ee - ss)), .val (.int (x5 - x4))] [(.int (1 : Int32))]) _
  refine Go.retN X3 hx (t := .boolean) hret hlk (by simp) (hb hby d5_55) e3 (by decide) (by decide) ?_
  exact ⟨rfl, N3, rfl⟩
theorem d4_0 : decode prog_95_method_9_code 0 = .ok (.aload_n 1, 1) := by decide +kernel
theorem d4_1 : decode prog_95_method_9_code 1 = .ok (.aload_n 0, 1) := by decide +kernel
theorem d4_2 : decode prog_95_method_9_code 2 = .ok (.if_acmp .eq 66, 3) := by decide +kernel
theorem d4_5 : decode prog_95_method_9_code 5 = .ok (.aload_n 1, 1) := by decide +kernel
theorem d4_6 : decode prog_95_method_9_code 6 = .ok (.instanceof 8, 3) := by decide +kernel
theorem d4_9 : decode prog_95_method_9_code 9 = .ok (.ifCond .eq 63, 3) := by decide +kernel
theorem d4_12 : decode prog_95_method_9_code 12 = .ok (.aload_n 1, 1) := by decide +kernel
theorem d4_13 : decode prog_95_method_9_code 13 = .ok (.checkcast 8, 3) := by decide +kernel
theorem d4_16 : decode prog_95_method_9_code 16 = .ok (.astore_n 2, 1) := by decide +kernel
theorem d4_17 : decode prog_95_method_9_code 17 = .ok (.aload_n 0, 1) := by decide +kernel
theorem d4_18 : decode prog_95_method_9_code 18 = .ok (.getfield 17, 3) := by decide +kernel
theorem d4_21 : decode prog_95_method_9_code 21 = .ok (.aload_n 0, 1) := by decide +kernel
theorem d4_22 : decode prog_95_method_9_code 22 = .ok (.getfield 13, 3) := by decide +kernel
theorem d4_25 : decode prog_95_method_9_code 25 = .ok (.isub, 1) := by decide +kernel
theorem d4_26 : decode prog_95_method_9_code 26 = .ok (.aload_n 2, 1) := by decide +kernel
theorem d4_27 : decode prog_95_method_9_code 27 = .ok (.getfield 17, 3) := by decide +kernel
theorem d4_30 : decode prog_95_method_9_code 30 = .ok (.aload_n 2, 1) := by decide +kernel
theorem d4_31 : decode prog_95_method_9_code 31 = .ok (.getfield 13, 3) := by decide +kernel
theorem d4_34 : decode prog_95_method_9_code 34 = .ok (.isub, 1) := by decide +kernel
theorem d4_35 : decode prog_95_method_9_code 35 = .ok (.if_icmp .ne 37, 3) := by decide +kernel
theorem d4_38 : decode prog_95_method_9_code 38 = .ok (.aload_n 0, 1) := by decide +kernel
theorem d4_39 : decode prog_95_method_9_code 39 = .ok (.getfield 7, 3) := by decide +kernel
theorem d4_42 : decode prog_95_method_9_code 42 = .ok (.aload_n 0, 1) := by decide +kernel
theorem d4_43 : decode prog_95_method_9_code 43 = .ok (.getfield 13, 3) := by decide +kernel
theorem d4_46 : decode prog_95_method_9_code 46 = .ok (.aload_n 0, 1) := by decide +kernel
theorem d4_47 : decode prog_95_method_9_code 47 = .ok (.getfield 17, 3) := by decide +kernel
theorem d4_50 : decode prog_95_method_9_code 50 = .ok (.aload_n 2, 1) := by decide +kernel
theorem d4_51 : decode prog_95_method_9_code 51 = .ok (.getfield 7, 3) := by decide +kernel
theorem d4_54 : decode prog_95_method_9_code 54 = .ok (.aload_n 2, 1) := by decide +kernel
theorem d4_55 : decode prog_95_method_9_code 55 = .ok (.getfield 13, 3) := by decide +kernel
theorem d4_58 : decode prog_95_method_9_code 58 = .ok (.aload_n 2, 1) := by decide +kernel
theorem d4_59 : decode prog_95_method_9_code 59 = .ok (.getfield 17, 3) := by decide +kernel
theorem d4_62 : decode prog_95_method_9_code 62 = .ok (.invokestatic 70, 3) := by decide +kernel
theorem own_pd2 : parseMethodDescriptor "([BII[BII)Z" = some ⟨[(.array .byte), .int, .int, (.array .byte), .int, .int], some .boolean⟩ := by decide +kernel
theorem d4_65 : decode prog_95_method_9_code 65 = .ok (.ifCond .eq 7, 3) := by decide +kernel
theorem d4_68 : decode prog_95_method_9_code 68 = .ok (.iconst 1, 1) := by decide +kernel
theorem d4_69 : decode prog_95_method_9_code 69 = .ok (.goto 4, 3) := by decide +kernel
theorem d4_73 : decode prog_95_method_9_code 73 = .ok (.ireturn, 1) := by decide +kernel
theorem d4_72 : decode prog_95_method_9_code 72 = .ok (.iconst 0, 1) := by decide +kernel
theorem own_ef_rm4 (m : MethodId) (x0 : Addr) (x1 : Addr) : entryFrame m #[(.ref x0), (.ref x1)] 3 = mkF m 0 #[.val (.ref x0), .val (.ref x1), .unset] [] := by first | (simp [entryFrame, mkF, argsToLocals, Value.category]; done) | rfl
def Q_rm4 (Z : State) (x0 x1 a1 a2 : Addr) (ss ee : Int32) (cl1 cl2 : Cell) (h0 : Heap) (n0 : Nat) : Option Value → Heap → List Loc → Prop := fun v h L => v = some (.int (fE ss ee)) ∧ Fr n0 L ∧ h = h0
set_option maxRecDepth 65536 in
set_option maxHeartbeats 40000000 in
theorem rm4 (l : Launch) (Z : State) (a0 : Array Value) (hw : ∀ d ∈ tables_1, d.before a0 Z = true) (ws : List Jvm.Cond) (x0 x1 a1 a2 : Addr) (ss ee : Int32) (cl1 cl2 : Cell) (h0 : Heap) (n0 : Nat) (Z0 : n0 ≤ h0.size) (F_bytes : Fld Z h0 x0 "com/example/cascadex/cascadex/Utf8" "bytes" "[B" (.ref a1)) (F_start : Fld Z h0 x0 "com/example/cascadex/cascadex/Utf8" "start" "I" (.int ss)) (F_end : Fld Z h0 x0 "com/example/cascadex/cascadex/Utf8" "end" "I" (.int ee)) (G_bytes : Fld Z h0 x1 "com/example/cascadex/cascadex/Utf8" "bytes" "[B" (.ref a2)) (G_start : Fld Z h0 x1 "com/example/cascadex/cascadex/Utf8" "start" "I" (.int 0)) (G_end : Fld Z h0 x1 "com/example/cascadex/cascadex/Utf8" "end" "I" (.int 0)) (E_x1 : Exa Z h0 x1 "com/example/cascadex/cascadex/Utf8") (ne10 : x1 ≠ x0) (A1 : Arr Z h0 a1 cl1 .byte) (S1 : cl1.slots.size = (8 : Int32).toNatClampNeg) (A2 : Arr Z h0 a2 cl2 .byte) (S2 : cl2.slots.size = (0 : Int32).toNatClampNeg) (b0 : 0 ≤ ss.toInt) (b1 : ss.toInt ≤ ee.toInt) (b2 : ee.toInt ≤ 8) (b5 : (ee - ss = 0) ↔ (ss = ee)) :
    Ctr l Z (⟨"com/example/cascadex/cascadex/Utf8", "equals", "(Ljava/lang/Object;)Z"⟩ : MethodName) prog_95_method_9_code 3 (some .boolean) ws ({ frames := 2, cells := 0, slots := 0, locals := 38 } : Room) #[(.ref x0), (.ref x1)] h0 (Q_rm4 Z x0 x1 a1 a2 ss ee cl1 cl2 h0 n0) := by
  refine Ctr.intro (plainFor_of_name own_pn0) ?_
  intro p e s m below meth c s₁ hx hby hml hown hnm hret hlk hZ X0 e0
  have hown : s.vm.findClass "com/example/cascadex/cascadex/Utf8" = some m.cls := hown
  have hml : c.maxLocals = 3 := hml
  have N0 := Fr.nil n0
  refine Go.cast (own_ef_rm4 m x0 x1) ?_
  show Go p e below s₁ (mkF m 0 #[.val (.ref x0), .val (.ref x1), .unset] []) _
  refine Go.of (fun _ k => XS.aloadN X0.here hx rfl (hb hby d4_0) rfl rfl  k) ?_
  show Go p e below s₁ (mkF m 1 #[.val (.ref x0), .val (.ref x1), .unset] [(.ref x1)]) _
  refine Go.of (fun _ k => XS.aloadN X0.here hx rfl (hb hby d4_1) rfl rfl  k) ?_
  show Go p e below s₁ (mkF m 2 #[.val (.ref x0), .val (.ref x1), .unset] [(.ref x0), (.ref x1)]) _
  refine Go.of (fun _ k => Jvm.RoadKit.acmp (g := (mkF m 2 #[.val (.ref x0), .val (.ref x1), .unset] [(.ref x0), (.ref x1)])) X0 hx rfl rfl rfl (pc0 := 2) (pc' := 5) (same := false) rfl (hb hby d4_2) rfl (decide_eq_false fun q => ne10 (Value.ref.inj q)) (by decide) (by decide) k) ?_
  show Go p e below s₁ (mkF m 5 #[.val (.ref x0), .val (.ref x1), .unset] []) _
  refine Go.of (fun _ k => XS.aloadN X0.here hx rfl (hb hby d4_5) rfl rfl  k) ?_
  show Go p e below s₁ (mkF m 6 #[.val (.ref x0), .val (.ref x1), .unset] [(.ref x1)]) _
  obtain ⟨T1, X1, e1, st1⟩ := instY X0 hx hZ hown (hw _ (List.mem_of_getElem? (i := 29) rfl)) e0 (Ins.self E_x1) (g := (mkF m 6 #[.val (.ref x0), .val (.ref x1), .unset] [(.ref x1)])) rfl rfl (hb hby d4_6)
  refine Go.of (fun _ k => st1 _ k) ?_
  show Go p e below T1 (mkF m 9 #[.val (.ref x0), .val (.ref x1), .unset] [(.int (1 : Int32))]) _
  refine Go.of (fun _ k => XS.ifNo X1.here hx rfl (hb hby d4_9) rfl ((if0 _ _).trans (feq (show ¬ ((1 : Int32) = (0 : Int32)) from (by decide))).1) k) ?_
  show Go p e below T1 (mkF m 12 #[.val (.ref x0), .val (.ref x1), .unset] []) _
  refine Go.of (fun _ k => XS.aloadN X1.here hx rfl (hb hby d4_12) rfl rfl  k) ?_
  show Go p e below T1 (mkF m 13 #[.val (.ref x0), .val (.ref x1), .unset] [(.ref x1)]) _
  obtain ⟨T2, X2, e2, st2⟩ := castY X1 hx hZ hown (hw _ (List.mem_of_getElem? (i := 29) rfl)) e1 (Ins.self E_x1) (g := (mkF m 13 #[.val (.ref x0), .val (.ref x1), .unset] [(.ref x1)])) rfl rfl (hb hby d4_13)
  refine Go.of (fun _ k => st2 _ k) ?_
  show Go p e below T2 (mkF m 16 #[.val (.ref x0), .val (.ref x1), .unset] [(.ref x1)]) _
  refine Go.of (fun _ k => XS.astoreN X2.here hx rfl (hb hby d4_16) rfl rfl (l' := #[.val (.ref x0), .val (.ref x1), .val (.ref x1)]) rfl k) ?_
  show Go p e below T2 (mkF m 17 #[.val (.ref x0), .val (.ref x1), .val (.ref x1)] []) _
  refine Go.of (fun _ k => XS.aloadN X2.here hx rfl (hb hby d4_17) rfl rfl  k) ?_
  show Go p e below T2 (mkF m 18 #[.val (.ref x0), .val (.ref x1), .val (.ref x1)] [(.ref x0)]) _
  obtain ⟨T3, X3, e3, st3⟩ := getF X2 hx hZ hown (host := "") (Or.inl (hw _ (List.mem_of_getElem? (i := 15) rfl))) Via.refl e2 F_end (g := (mkF m 18 #[.val (.ref x0), .val (.ref x1), .val (.ref x1)] [(.ref x0)])) rfl rfl (hb hby d4_18)
  refine Go.of (fun _ k => st3 _ k) ?_
  show Go p e below T3 (mkF m 21 #[.val (.ref x0), .val (.ref x1), .val (.ref x1)] [(.int ee)]) _
  refine Go.of (fun _ k => XS.aloadN X3.here hx rfl (hb hby d4_21) rfl rfl  k) ?_
  show Go p e below T3 (mkF m 22 #[.val (.ref x0), .val (.ref x1), .val (.ref x1)] [(.ref x0), (.int ee)]) _
  obtain ⟨T4, X4, e4, st4⟩ := getF X3 hx hZ hown (host := "") (Or.inl (hw _ (List.mem_of_getElem? (i := 13) rfl))) Via.refl e3 F_start (g := (mkF m 22 #[.val (.ref x0), .val (.ref x1), .val (.ref x1)] [(.ref x0), (.int ee)])) rfl rfl (hb hby d4_22)
  refine Go.of (fun _ k => st4 _ k) ?_
  show Go p e below T4 (mkF m 25 #[.val (.ref x0), .val (.ref x1), .val (.ref x1)] [(.int ss), (.int ee)]) _
  refine Go.of (fun _ k => XS.isub X4.here hx rfl (hb hby d4_25) rfl k) ?_
  show Go p e below T4 (mkF m 26 #[.val (.ref x0), .val (.ref x1), .val (.ref x1)] [(.int (ee - ss))]) _
  refine Go.of (fun _ k => XS.aloadN X4.here hx rfl (hb hby d4_26) rfl rfl  k) ?_
  show Go p e below T4 (mkF m 27 #[.val (.ref x0), .val (.ref x1), .val (.ref x1)] [(.ref x1), (.int (ee - ss))]) _
  obtain ⟨T5, X5, e5, st5⟩ := getF X4 hx hZ hown (host := "") (Or.inl (hw _ (List.mem_of_getElem? (i := 15) rfl))) Via.refl e4 G_end (g := (mkF m 27 #[.val (.ref x0), .val (.ref x1), .val (.ref x1)] [(.ref x1), (.int (ee - ss))])) rfl rfl (hb hby d4_27)
  refine Go.of (fun _ k => st5 _ k) ?_
  show Go p e below T5 (mkF m 30 #[.val (.ref x0), .val (.ref x1), .val (.ref x1)] [(.int (0 : Int32)), (.int (ee - ss))]) _
  refine Go.of (fun _ k => XS.aloadN X5.here hx rfl (hb hby d4_30) rfl rfl  k) ?_
  show Go p e below T5 (mkF m 31 #[.val (.ref x0), .val (.ref x1), .val (.ref x1)] [(.ref x1), (.int (0 : Int32)), (.int (ee - ss))]) _
  obtain ⟨T6, X6, e6, st6⟩ := getF X5 hx hZ hown (host := "") (Or.inl (hw _ (List.mem_of_getElem? (i := 13) rfl))) Via.refl e5 G_start (g := (mkF m 31 #[.val (.ref x0), .val (.ref x1), .val (.ref x1)] [(.ref x1), (.int (0 : Int32)), (.int (ee - ss))])) rfl rfl (hb hby d4_31)
  refine Go.of (fun _ k => st6 _ k) ?_
  show Go p e below T6 (mkF m 34 #[.val (.ref x0), .val (.ref x1), .val (.ref x1)] [(.int (0 : Int32)), (.int (0 : Int32)), (.int (ee - ss))]) _
  refine Go.of (fun _ k => XS.isub X6.here hx rfl (hb hby d4_34) rfl k) ?_
  show Go p e below T6 (mkF m 35 #[.val (.ref x0), .val (.ref x1), .val (.ref x1)] [(.int (0 : Int32)), (.int (ee - ss))]) _
  by_cases hc35_2 : (ee - ss) = (0 : Int32)
  · refine Go.of (fun _ k => XS.icmpNo X6.here hx rfl (hb hby d4_35) rfl (teq hc35_2).2 k) ?_
    show Go p e below T6 (mkF m 38 #[.val (.ref x0), .val (.ref x1), .val (.ref x1)] []) _
    refine Go.of (fun _ k => XS.aloadN X6.here hx rfl (hb hby d4_38) rfl rfl  k) ?_
    show Go p e below T6 (mkF m 39 #[.val (.ref x0), .val (.ref x1), .val (.ref x1)] [(.ref x0)]) _
    obtain ⟨T7, X7, e7, st7⟩ := getF X6 hx hZ hown (host := "") (Or.inl (hw _ (List.mem_of_getElem? (i := 11) rfl))) Via.refl e6 F_bytes (g := (mkF m 39 #[.val (.ref x0), .val (.ref x1), .val (.ref x1)] [(.ref x0)])) rfl rfl (hb hby d4_39)
    refine Go.of (fun _ k => st7 _ k) ?_
    show Go p e below T7 (mkF m 42 #[.val (.ref x0), .val (.ref x1), .val (.ref x1)] [(.ref a1)]) _
    refine Go.of (fun _ k => XS.aloadN X7.here hx rfl (hb hby d4_42) rfl rfl  k) ?_
    show Go p e below T7 (mkF m 43 #[.val (.ref x0), .val (.ref x1), .val (.ref x1)] [(.ref x0), (.ref a1)]) _
    obtain ⟨T8, X8, e8, st8⟩ := getF X7 hx hZ hown (host := "") (Or.inl (hw _ (List.mem_of_getElem? (i := 13) rfl))) Via.refl e7 F_start (g := (mkF m 43 #[.val (.ref x0), .val (.ref x1), .val (.ref x1)] [(.ref x0), (.ref a1)])) rfl rfl (hb hby d4_43)
    refine Go.of (fun _ k => st8 _ k) ?_
    show Go p e below T8 (mkF m 46 #[.val (.ref x0), .val (.ref x1), .val (.ref x1)] [(.int ss), (.ref a1)]) _
    refine Go.of (fun _ k => XS.aloadN X8.here hx rfl (hb hby d4_46) rfl rfl  k) ?_
    show Go p e below T8 (mkF m 47 #[.val (.ref x0), .val (.ref x1), .val (.ref x1)] [(.ref x0), (.int ss), (.ref a1)]) _
    obtain ⟨T9, X9, e9, st9⟩ := getF X8 hx hZ hown (host := "") (Or.inl (hw _ (List.mem_of_getElem? (i := 15) rfl))) Via.refl e8 F_end (g := (mkF m 47 #[.val (.ref x0), .val (.ref x1), .val (.ref x1)] [(.ref x0), (.int ss), (.ref a1)])) rfl rfl (hb hby d4_47)
    refine Go.of (fun _ k => st9 _ k) ?_
    show Go p e below T9 (mkF m 50 #[.val (.ref x0), .val (.ref x1), .val (.ref x1)] [(.int ee), (.int ss), (.ref a1)]) _
    refine Go.of (fun _ k => XS.aloadN X9.here hx rfl (hb hby d4_50) rfl rfl  k) ?_
    show Go p e below T9 (mkF m 51 #[.val (.ref x0), .val (.ref x1), .val (.ref x1)] [(.ref x1), (.int ee), (.int ss), (.ref a1)]) _
    obtain ⟨T10, X10, e10, st10⟩ := getF X9 hx hZ hown (host := "") (Or.inl (hw _ (List.mem_of_getElem? (i := 11) rfl))) Via.refl e9 G_bytes (g := (mkF m 51 #[.val (.ref x0), .val (.ref x1), .val (.ref x1)] [(.ref x1), (.int ee), (.int ss), (.ref a1)])) rfl rfl (hb hby d4_51)
    refine Go.of (fun _ k => st10 _ k) ?_
    show Go p e below T10 (mkF m 54 #[.val (.ref x0), .val (.ref x1), .val (.ref x1)] [(.ref a2), (.int ee), (.int ss), (.ref a1)]) _
    refine Go.of (fun _ k => XS.aloadN X10.here hx rfl (hb hby d4_54) rfl rfl  k) ?_
    show Go p e below T10 (mkF m 55 #[.val (.ref x0), .val (.ref x1), .val (.ref x1)] [(.ref x1), (.ref a2), (.int ee), (.int ss), (.ref a1)]) _
    obtain ⟨T11, X11, e11, st11⟩ := getF X10 hx hZ hown (host := "") (Or.inl (hw _ (List.mem_of_getElem? (i := 13) rfl))) Via.refl e10 G_start (g := (mkF m 55 #[.val (.ref x0), .val (.ref x1), .val (.ref x1)] [(.ref x1), (.ref a2), (.int ee), (.int ss), (.ref a1)])) rfl rfl (hb hby d4_55)
    refine Go.of (fun _ k => st11 _ k) ?_
    show Go p e below T11 (mkF m 58 #[.val (.ref x0), .val (.ref x1), .val (.ref x1)] [(.int (0 : Int32)), (.ref a2), (.int ee), (.int ss), (.ref a1)]) _
    refine Go.of (fun _ k => XS.aloadN X11.here hx rfl (hb hby d4_58) rfl rfl  k) ?_
    show Go p e below T11 (mkF m 59 #[.val (.ref x0), .val (.ref x1), .val (.ref x1)] [(.ref x1), (.int (0 : Int32)), (.ref a2), (.int ee), (.int ss), (.ref a1)]) _
    obtain ⟨T12, X12, e12, st12⟩ := getF X11 hx hZ hown (host := "") (Or.inl (hw _ (List.mem_of_getElem? (i := 15) rfl))) Via.refl e11 G_end (g := (mkF m 59 #[.val (.ref x0), .val (.ref x1), .val (.ref x1)] [(.ref x1), (.int (0 : Int32)), (.ref a2), (.int ee), (.int ss), (.ref a1)])) rfl rfl (hb hby d4_59)
    refine Go.of (fun _ k => st12 _ k) ?_
    show Go p e below T12 (mkF m 62 #[.val (.ref x0), .val (.ref x1), .val (.ref x1)] [(.int (0 : Int32)), (.int (0 : Int32)), (.ref a2), (.int ee), (.int ss), (.ref a1)]) _
    obtain ⟨_, _, ⟨T13, L13, kq13, nq13⟩, -, X13, ⟨Lc13, hQ13, l13, y13, z13⟩, st13⟩ := Jvm.LawKit.callS X12 hx (y := (⟨"java/util/Arrays", "equals", "([BII[BII)Z"⟩ : MethodName)) hown (mvT hZ (hw _ (List.mem_of_getElem? (i := 31) rfl))) (mvT hZ (hw _ (List.mem_of_getElem? (i := 32) rfl))) (mvT hZ (hw _ (List.mem_of_getElem? (i := 33) rfl))) (mvT hZ (hw _ (List.mem_of_getElem? (i := 34) rfl))) (by decide) (backOf (W := 0) (rm5 l Z a0 hw [] a1 ss ee a2 (0 : Int32) (0 : Int32) cl1 cl2 h0 n0 Z0 A1 S1 A2 S2 b0 b1 b2 hc35_2 rfl rfl) hZ (hw _ (List.mem_of_getElem? (i := 34) rfl)) (hw _ (List.mem_of_getElem? (i := 33) rfl)) (by decide) (by decide)) (g := (mkF m 62 #[.val (.ref x0), .val (.ref x1), .val (.ref x1)] [(.int (0 : Int32)), (.int (0 : Int32)), (.ref a2), (.int ee), (.int ss), (.ref a1)])) rfl (by rw [hml]; rfl) (argsL := [(.ref a1), (.int ss), (.int ee), (.ref a2), (.int (0 : Int32)), (.int (0 : Int32))]) (rest := []) (lenOf own_pd2 rfl) rfl (by show 2 * 0 + _ ≤ _; exact Nat.le_of_eq rfl) (hb hby d4_62) (fun _ _ => ⟨rfl, e12, (by decide : 0 + 0 ≤ _), (by decide : 0 + 0 ≤ _)⟩)
    dsimp only [Pt.U, Pt.locs, Pt.cells, Pt.slots] at X13 l13 y13 z13 st13 hQ13
    subst l13 y13 z13
    obtain ⟨rfl, Nq13, e13⟩ := hQ13
    have e13 := e13.trans rfl
    have N13 := Fr.app N0 Nq13
    refine Go.of (fun _ k => st13 _ k) ?_
    show Go p e below T13 (mkF m 65 #[.val (.ref x0), .val (.ref x1), .val (.ref x1)] [(.int (1 : Int32))]) _
    refine Go.of (fun _ k => XS.ifNo X13.here hx rfl (hb hby d4_65) rfl ((if0 _ _).trans (feq (show ¬ ((1 : Int32) = (0 : Int32)) from (by decide))).1) k) ?_
    show Go p e below T13 (mkF m 68 #[.val (.ref x0), .val (.ref x1), .val (.ref x1)] []) _
    refine Go.of (fun _ k => XS.iconst X13.here hx rfl (hb hby d4_68) k) ?_
    show Go p e below T13 (mkF m 69 #[.val (.ref x0), .val (.ref x1), .val (.ref x1)] [(.int (1 : Int32))]) _
    refine Go.of (fun _ k => XS.goto X13.here hx rfl (pc0 := 69) (pc' := 73) rfl (hb hby d4_69) (by decide) (by decide) k) ?_
    show Go p e below T13 (mkF m 73 #[.val (.ref x0), .val (.ref x1), .val (.ref x1)] [(.int (1 : Int32))]) _
    refine Go.retN X13 hx (t := .boolean) hret hlk (by simp) (hb hby d4_73) e13 (by decide) (by decide) ?_
    have z := b5
    exact ⟨show some (Value.int (1 : Int32)) = _ from by simp_all [fE], N13, rfl⟩
  · refine Go.of (fun _ k => XS.icmpYes X6.here hx rfl (pc0 := 35) (pc' := 72) rfl (hb hby d4_35) rfl (feq hc35_2).2 (by decide) (by decide) k) ?_
    show Go p e below T6 (mkF m 72 #[.val (.ref x0), .val (.ref x1), .val (.ref x1)] []) _
    refine Go.of (fun _ k => XS.iconst X6.here hx rfl (hb hby d4_72) k) ?_
    show Go p e below T6 (mkF m 73 #[.val (.ref x0), .val (.ref x1), .val (.ref x1)] [(.int (0 : Int32))]) _
    refine Go.retN X6 hx (t := .boolean) hret hlk (by simp) (hb hby d4_73) e6 (by decide) (by decide) ?_
    have z := b5
    exact ⟨show some (Value.int (0 : Int32)) = _ from by simp_all [fE], N0, rfl⟩
theorem own_pd3 : parseMethodDescriptor "([BII)V" = some ⟨[(.array .byte), .int, .int], none⟩ := by decide +kernel
theorem own_pd4 : parseMethodDescriptor "()Z" = some ⟨[], some .boolean⟩ := by decide +kernel
theorem own_pd5 : parseMethodDescriptor "(Ljava/lang/Object;)Z" = some ⟨[(.object "java/lang/Object")], some .boolean⟩ := by decide +kernel
theorem own_pn3 : plainName "com/example/cascadex/cascadex/Utf8IsEmptyPinLaw" = true := by first | (simp [plainName, overriddenIn]; done) | decide +kernel
theorem own_ef_rm0 (m : MethodId) (x0 : Int32) (x1 : Int32) (x2 : Int64) : entryFrame m #[(.int x0), (.int x1), (.long x2)] maxLocals = mkF m 0 #[.val (.int x0), .val (.int x1), .val (.long x2), .second, .unset, .unset, .unset, .unset, .unset, .unset] [] := by first | (simp [entryFrame, mkF, argsToLocals, Value.category, maxLocals]; done) | rfl
def Q_rm0 (Z : State) (x0 x1 : Int32) (x2 : Int64) (aE a2 : Addr) (cl2 : Cell) (h0 : Heap) (n0 : Nat) : Option Value → Heap → List Loc → Prop := fun v h L => v = some (.int 1) ∧ Fr n0 L
set_option maxRecDepth 65536 in
set_option maxHeartbeats 40000000 in
theorem rm0 (l : Launch) (Z : State) (a0 : Array Value) (hw : ∀ d ∈ tables_1, d.before a0 Z = true) (ws : List Jvm.Cond) (x0 x1 : Int32) (x2 : Int64) (aE a2 : Addr) (cl2 : Cell) (h0 : Heap) (n0 : Nat) (Z0 : n0 ≤ h0.size) (OL : Old Z n0 h0) (SE : Sta Z Z.heap "com/example/cascadex/cascadex/Utf8" "EMPTY" "Lcom/example/cascadex/cascadex/Utf8;" (.ref aE)) (EE : Exa Z Z.heap aE "com/example/cascadex/cascadex/Utf8") (G_bytes : Fld Z Z.heap aE "com/example/cascadex/cascadex/Utf8" "bytes" "[B" (.ref a2)) (G_start : Fld Z Z.heap aE "com/example/cascadex/cascadex/Utf8" "start" "I" (.int 0)) (G_end : Fld Z Z.heap aE "com/example/cascadex/cascadex/Utf8" "end" "I" (.int 0)) (A2 : Arr Z Z.heap a2 cl2 .byte) (S2 : cl2.slots.size = (0 : Int32).toNatClampNeg) :
    Ctr l Z x code maxLocals ret ws room_1 #[(.int x0), (.int x1), (.long x2)] h0 (Q_rm0 Z x0 x1 x2 aE a2 cl2 h0 n0) := by
  refine Ctr.intro (plainFor_of_name own_pn3) ?_
  intro p e s m below meth c s₁ hx hby hml hown hnm hret hlk hZ X0 e0
  have hown : s.vm.findClass "com/example/cascadex/cascadex/Utf8IsEmptyPinLaw" = some m.cls := hown
  have hml : c.maxLocals = 10 := hml
  have N0 := Fr.nil n0
  refine Go.cast (own_ef_rm0 m x0 x1 x2) ?_
  show Go p e below s₁ (mkF m 0 #[.val (.int x0), .val (.int x1), .val (.long x2), .second, .unset, .unset, .unset, .unset, .unset, .unset] []) _
  refine Go.of (fun _ k => XS.bipush X0.here hx rfl (hb hby at_0) k) ?_
  show Go p e below s₁ (mkF m 2 #[.val (.int x0), .val (.int x1), .val (.long x2), .second, .unset, .unset, .unset, .unset, .unset, .unset] [(.int (8 : Int32))]) _
  obtain ⟨T1, h1, kc1, X1, e1, E1, A1, st1⟩ := newP X0 hx hZ (hw _ (List.mem_of_getElem? (i := 0) rfl)) e0 (g := (mkF m 2 #[.val (.int x0), .val (.int x1), .val (.long x2), .second, .unset, .unset, .unset, .unset, .unset, .unset] [(.int (8 : Int32))])) rfl (hb hby at_2) rfl (by decide) (cap := 8) (by decide) (by decide) (by decide) (by decide)
  obtain ⟨ad1, g1⟩ : ∃ z, z = h0.size := ⟨_, rfl⟩
  rw [← g1] at A1 st1
  have ge_ad1 : n0 ≤ ad1 := Nat.le_trans Z0 (Nat.le_of_eq g1.symm)
  have Z0 := Nat.le_trans Z0 E1.1
  have OL := OL.ext E1
  have V_ad1 : Arv Z h1 ad1 kc1 .byte (8 : Int32) [(.int (0 : Int32)), (.int (0 : Int32)), (.int (0 : Int32)), (.int (0 : Int32)), (.int (0 : Int32)), (.int (0 : Int32)), (.int (0 : Int32)), (.int (0 : Int32))] (.int (0 : Int32)) := (Arv.new A1 (by decide)).pad (pad_rep [] (.int (0 : Int32)) 8)
  refine Go.of (fun _ k => st1 _ k) ?_
  show Go p e below T1 (mkF m 4 #[.val (.int x0), .val (.int x1), .val (.long x2), .second, .unset, .unset, .unset, .unset, .unset, .unset] [(.ref ad1)]) _
  refine Go.of (fun _ k => XS.astore X1.here hx rfl (hb hby at_4) rfl rfl (l' := #[.val (.int x0), .val (.int x1), .val (.long x2), .second, .val (.ref ad1), .unset, .unset, .unset, .unset, .unset]) rfl k) ?_
  show Go p e below T1 (mkF m 6 #[.val (.int x0), .val (.int x1), .val (.long x2), .second, .val (.ref ad1), .unset, .unset, .unset, .unset, .unset] []) _
  refine Go.of (fun _ k => XS.aload X1.here hx rfl (hb hby at_6) rfl rfl  k) ?_
  show Go p e below T1 (mkF m 8 #[.val (.int x0), .val (.int x1), .val (.long x2), .second, .val (.ref ad1), .unset, .unset, .unset, .unset, .unset] [(.ref ad1)]) _
  refine Go.of (fun _ k => XS.iconst X1.here hx rfl (hb hby at_8) k) ?_
  show Go p e below T1 (mkF m 9 #[.val (.int x0), .val (.int x1), .val (.long x2), .second, .val (.ref ad1), .unset, .unset, .unset, .unset, .unset] [(.int (0 : Int32)), (.ref ad1)]) _
  refine Go.of (fun _ k => XS.lloadN X1.here hx rfl (hb hby at_9) rfl  k) ?_
  show Go p e below T1 (mkF m 10 #[.val (.int x0), .val (.int x1), .val (.long x2), .second, .val (.ref ad1), .unset, .unset, .unset, .unset, .unset] [(.long x2), (.int (0 : Int32)), (.ref ad1)]) _
  refine Go.of (fun _ k => XS.l2i X1.here hx rfl (hb hby at_10) rfl k) ?_
  show Go p e below T1 (mkF m 11 #[.val (.int x0), .val (.int x1), .val (.long x2), .second, .val (.ref ad1), .unset, .unset, .unset, .unset, .unset] [(.int (x2.toInt32)), (.int (0 : Int32)), (.ref ad1)]) _
  refine Go.of (fun _ k => XS.i2b X1.here hx rfl (hb hby at_11) rfl k) ?_
  show Go p e below T1 (mkF m 12 #[.val (.int x0), .val (.int x1), .val (.long x2), .second, .val (.ref ad1), .unset, .unset, .unset, .unset, .unset] [(.int ((x2.toInt32).toInt8.toInt32)), (.int (0 : Int32)), (.ref ad1)]) _
  obtain ⟨clq2, Arq2, qq2, Sq2, Nnq2, Hq2, Gq2⟩ := V_ad1
  have hin2 : ¬ ((0 : Int32) < 0 ∨ clq2.slots.size ≤ ((0 : Int32)).toNatClampNeg) := inb_of Sq2 ⟨by decide, by decide⟩
  obtain ⟨T2, h2, X2, e2, W2, st2⟩ := stB X1 hx hZ e1 Arq2 (j := (0 : Int32)) hin2 (g := (mkF m 12 #[.val (.int x0), .val (.int x1), .val (.long x2), .second, .val (.ref ad1), .unset, .unset, .unset, .unset, .unset] [(.int ((x2.toInt32).toInt8.toInt32)), (.int (0 : Int32)), (.ref ad1)])) rfl rfl (hb hby at_12)
  have V_ad1 : Arv Z h2 ad1 kc1 .byte (8 : Int32) [(.int (nar .byte ((x2.toInt32).toInt8.toInt32))), (.int (0 : Int32)), (.int (0 : Int32)), (.int (0 : Int32)), (.int (0 : Int32)), (.int (0 : Int32)), (.int (0 : Int32)), (.int (0 : Int32))] (.int (0 : Int32)) := Arv.set Arq2 qq2 Sq2 Nnq2 Hq2 Gq2 (fits_nar_byte _) W2 0 rfl (Nat.le_of_ble_eq_true rfl)
  have N2 := Fr.snoc X2 N0 ge_ad1
  have Z0 := Nat.le_trans Z0 (Keep.of_wr W2).1
  have OL := OL.wr W2 ge_ad1
  refine Go.of (fun _ k => st2 _ k) ?_
  show Go p e below T2 (mkF m 13 #[.val (.int x0), .val (.int x1), .val (.long x2), .second, .val (.ref ad1), .unset, .unset, .unset, .unset, .unset] []) _
  refine Go.of (fun _ k => XS.aload X2.here hx rfl (hb hby at_13) rfl rfl  k) ?_
  show Go p e below T2 (mkF m 15 #[.val (.int x0), .val (.int x1), .val (.long x2), .second, .val (.ref ad1), .unset, .unset, .unset, .unset, .unset] [(.ref ad1)]) _
  refine Go.of (fun _ k => XS.iconst X2.here hx rfl (hb hby at_15) k) ?_
  show Go p e below T2 (mkF m 16 #[.val (.int x0), .val (.int x1), .val (.long x2), .second, .val (.ref ad1), .unset, .unset, .unset, .unset, .unset] [(.int (1 : Int32)), (.ref ad1)]) _
  refine Go.of (fun _ k => XS.lloadN X2.here hx rfl (hb hby at_16) rfl  k) ?_
  show Go p e below T2 (mkF m 17 #[.val (.int x0), .val (.int x1), .val (.long x2), .second, .val (.ref ad1), .unset, .unset, .unset, .unset, .unset] [(.long x2), (.int (1 : Int32)), (.ref ad1)]) _
  refine Go.of (fun _ k => XS.bipush X2.here hx rfl (hb hby at_17) k) ?_
  show Go p e below T2 (mkF m 19 #[.val (.int x0), .val (.int x1), .val (.long x2), .second, .val (.ref ad1), .unset, .unset, .unset, .unset, .unset] [(.int (8 : Int32)), (.long x2), (.int (1 : Int32)), (.ref ad1)]) _
  refine Go.of (fun _ k => XS.lshr X2.here hx rfl (hb hby at_19) rfl k) ?_
  show Go p e below T2 (mkF m 20 #[.val (.int x0), .val (.int x1), .val (.long x2), .second, .val (.ref ad1), .unset, .unset, .unset, .unset, .unset] [(.long (x2 >>> ((8 : Int32) &&& 0x3f).toInt64)), (.int (1 : Int32)), (.ref ad1)]) _
  refine Go.of (fun _ k => XS.l2i X2.here hx rfl (hb hby at_20) rfl k) ?_
  show Go p e below T2 (mkF m 21 #[.val (.int x0), .val (.int x1), .val (.long x2), .second, .val (.ref ad1), .unset, .unset, .unset, .unset, .unset] [(.int ((x2 >>> ((8 : Int32) &&& 0x3f).toInt64).toInt32)), (.int (1 : Int32)), (.ref ad1)]) _
  refine Go.of (fun _ k => XS.i2b X2.here hx rfl (hb hby at_21) rfl k) ?_
  show Go p e below T2 (mkF m 22 #[.val (.int x0), .val (.int x1), .val (.long x2), .second, .val (.ref ad1), .unset, .unset, .unset, .unset, .unset] [(.int (((x2 >>> ((8 : Int32) &&& 0x3f).toInt64).toInt32).toInt8.toInt32)), (.int (1 : Int32)), (.ref ad1)]) _
  obtain ⟨clq3, Arq3, qq3, Sq3, Nnq3, Hq3, Gq3⟩ := V_ad1
  have hin3 : ¬ ((1 : Int32) < 0 ∨ clq3.slots.size ≤ ((1 : Int32)).toNatClampNeg) := inb_of Sq3 ⟨by decide, by decide⟩
  obtain ⟨T3, h3, X3, e3, W3, st3⟩ := stB X2 hx hZ e2 Arq3 (j := (1 : Int32)) hin3 (g := (mkF m 22 #[.val (.int x0), .val (.int x1), .val (.long x2), .second, .val (.ref ad1), .unset, .unset, .unset, .unset, .unset] [(.int (((x2 >>> ((8 : Int32) &&& 0x3f).toInt64).toInt32).toInt8.toInt32)), (.int (1 : Int32)), (.ref ad1)])) rfl rfl (hb hby at_22)
  have V_ad1 : Arv Z h3 ad1 kc1 .byte (8 : Int32) [(.int (nar .byte ((x2.toInt32).toInt8.toInt32))), (.int (nar .byte (((x2 >>> ((8 : Int32) &&& 0x3f).toInt64).toInt32).toInt8.toInt32))), (.int (0 : Int32)), (.int (0 : Int32)), (.int (0 : Int32)), (.int (0 : Int32)), (.int (0 : Int32)), (.int (0 : Int32))] (.int (0 : Int32)) := Arv.set Arq3 qq3 Sq3 Nnq3 Hq3 Gq3 (fits_nar_byte _) W3 1 rfl (Nat.le_of_ble_eq_true rfl)
  have N3 := Fr.snoc X3 N2 ge_ad1
  have Z0 := Nat.le_trans Z0 (Keep.of_wr W3).1
  have OL := OL.wr W3 ge_ad1
  refine Go.of (fun _ k => st3 _ k) ?_
  show Go p e below T3 (mkF m 23 #[.val (.int x0), .val (.int x1), .val (.long x2), .second, .val (.ref ad1), .unset, .unset, .unset, .unset, .unset] []) _
  refine Go.of (fun _ k => XS.aload X3.here hx rfl (hb hby at_23) rfl rfl  k) ?_
  show Go p e below T3 (mkF m 25 #[.val (.int x0), .val (.int x1), .val (.long x2), .second, .val (.ref ad1), .unset, .unset, .unset, .unset, .unset] [(.ref ad1)]) _
  refine Go.of (fun _ k => XS.iconst X3.here hx rfl (hb hby at_25) k) ?_
  show Go p e below T3 (mkF m 26 #[.val (.int x0), .val (.int x1), .val (.long x2), .second, .val (.ref ad1), .unset, .unset, .unset, .unset, .unset] [(.int (2 : Int32)), (.ref ad1)]) _
  refine Go.of (fun _ k => XS.lloadN X3.here hx rfl (hb hby at_26) rfl  k) ?_
  show Go p e below T3 (mkF m 27 #[.val (.int x0), .val (.int x1), .val (.long x2), .second, .val (.ref ad1), .unset, .unset, .unset, .unset, .unset] [(.long x2), (.int (2 : Int32)), (.ref ad1)]) _
  refine Go.of (fun _ k => XS.bipush X3.here hx rfl (hb hby at_27) k) ?_
  show Go p e below T3 (mkF m 29 #[.val (.int x0), .val (.int x1), .val (.long x2), .second, .val (.ref ad1), .unset, .unset, .unset, .unset, .unset] [(.int (16 : Int32)), (.long x2), (.int (2 : Int32)), (.ref ad1)]) _
  refine Go.of (fun _ k => XS.lshr X3.here hx rfl (hb hby at_29) rfl k) ?_
  show Go p e below T3 (mkF m 30 #[.val (.int x0), .val (.int x1), .val (.long x2), .second, .val (.ref ad1), .unset, .unset, .unset, .unset, .unset] [(.long (x2 >>> ((16 : Int32) &&& 0x3f).toInt64)), (.int (2 : Int32)), (.ref ad1)]) _
  refine Go.of (fun _ k => XS.l2i X3.here hx rfl (hb hby at_30) rfl k) ?_
  show Go p e below T3 (mkF m 31 #[.val (.int x0), .val (.int x1), .val (.long x2), .second, .val (.ref ad1), .unset, .unset, .unset, .unset, .unset] [(.int ((x2 >>> ((16 : Int32) &&& 0x3f).toInt64).toInt32)), (.int (2 : Int32)), (.ref ad1)]) _
  refine Go.of (fun _ k => XS.i2b X3.here hx rfl (hb hby at_31) rfl k) ?_
  show Go p e below T3 (mkF m 32 #[.val (.int x0), .val (.int x1), .val (.long x2), .second, .val (.ref ad1), .unset, .unset, .unset, .unset, .unset] [(.int (((x2 >>> ((16 : Int32) &&& 0x3f).toInt64).toInt32).toInt8.toInt32)), (.int (2 : Int32)), (.ref ad1)]) _
  obtain ⟨clq4, Arq4, qq4, Sq4, Nnq4, Hq4, Gq4⟩ := V_ad1
  have hin4 : ¬ ((2 : Int32) < 0 ∨ clq4.slots.size ≤ ((2 : Int32)).toNatClampNeg) := inb_of Sq4 ⟨by decide, by decide⟩
  obtain ⟨T4, h4, X4, e4, W4, st4⟩ := stB X3 hx hZ e3 Arq4 (j := (2 : Int32)) hin4 (g := (mkF m 32 #[.val (.int x0), .val (.int x1), .val (.long x2), .second, .val (.ref ad1), .unset, .unset, .unset, .unset, .unset] [(.int (((x2 >>> ((16 : Int32) &&& 0x3f).toInt64).toInt32).toInt8.toInt32)), (.int (2 : Int32)), (.ref ad1)])) rfl rfl (hb hby at_32)
  have V_ad1 : Arv Z h4 ad1 kc1 .byte (8 : Int32) [(.int (nar .byte ((x2.toInt32).toInt8.toInt32))), (.int (nar .byte (((x2 >>> ((8 : Int32) &&& 0x3f).toInt64).toInt32).toInt8.toInt32))), (.int (nar .byte (((x2 >>> ((16 : Int32) &&& 0x3f).toInt64).toInt32).toInt8.toInt32))), (.int (0 : Int32)), (.int (0 : Int32)), (.int (0 : Int32)), (.int (0 : Int32)), (.int (0 : Int32))] (.int (0 : Int32)) := Arv.set Arq4 qq4 Sq4 Nnq4 Hq4 Gq4 (fits_nar_byte _) W4 2 rfl (Nat.le_of_ble_eq_true rfl)
  have N4 := Fr.snoc X4 N3 ge_ad1
  have Z0 := Nat.le_trans Z0 (Keep.of_wr W4).1
  have OL := OL.wr W4 ge_ad1
  refine Go.of (fun _ k => st4 _ k) ?_
  show Go p e below T4 (mkF m 33 #[.val (.int x0), .val (.int x1), .val (.long x2), .second, .val (.ref ad1), .unset, .unset, .unset, .unset, .unset] []) _
  refine Go.of (fun _ k => XS.aload X4.here hx rfl (hb hby at_33) rfl rfl  k) ?_
  show Go p e below T4 (mkF m 35 #[.val (.int x0), .val (.int x1), .val (.long x2), .second, .val (.ref ad1), .unset, .unset, .unset, .unset, .unset] [(.ref ad1)]) _
  refine Go.of (fun _ k => XS.iconst X4.here hx rfl (hb hby at_35) k) ?_
  show Go p e below T4 (mkF m 36 #[.val (.int x0), .val (.int x1), .val (.long x2), .second, .val (.ref ad1), .unset, .unset, .unset, .unset, .unset] [(.int (3 : Int32)), (.ref ad1)]) _
  refine Go.of (fun _ k => XS.lloadN X4.here hx rfl (hb hby at_36) rfl  k) ?_
  show Go p e below T4 (mkF m 37 #[.val (.int x0), .val (.int x1), .val (.long x2), .second, .val (.ref ad1), .unset, .unset, .unset, .unset, .unset] [(.long x2), (.int (3 : Int32)), (.ref ad1)]) _
  refine Go.of (fun _ k => XS.bipush X4.here hx rfl (hb hby at_37) k) ?_
  show Go p e below T4 (mkF m 39 #[.val (.int x0), .val (.int x1), .val (.long x2), .second, .val (.ref ad1), .unset, .unset, .unset, .unset, .unset] [(.int (24 : Int32)), (.long x2), (.int (3 : Int32)), (.ref ad1)]) _
  refine Go.of (fun _ k => XS.lshr X4.here hx rfl (hb hby at_39) rfl k) ?_
  show Go p e below T4 (mkF m 40 #[.val (.int x0), .val (.int x1), .val (.long x2), .second, .val (.ref ad1), .unset, .unset, .unset, .unset, .unset] [(.long (x2 >>> ((24 : Int32) &&& 0x3f).toInt64)), (.int (3 : Int32)), (.ref ad1)]) _
  refine Go.of (fun _ k => XS.l2i X4.here hx rfl (hb hby at_40) rfl k) ?_
  show Go p e below T4 (mkF m 41 #[.val (.int x0), .val (.int x1), .val (.long x2), .second, .val (.ref ad1), .unset, .unset, .unset, .unset, .unset] [(.int ((x2 >>> ((24 : Int32) &&& 0x3f).toInt64).toInt32)), (.int (3 : Int32)), (.ref ad1)]) _
  refine Go.of (fun _ k => XS.i2b X4.here hx rfl (hb hby at_41) rfl k) ?_
  show Go p e below T4 (mkF m 42 #[.val (.int x0), .val (.int x1), .val (.long x2), .second, .val (.ref ad1), .unset, .unset, .unset, .unset, .unset] [(.int (((x2 >>> ((24 : Int32) &&& 0x3f).toInt64).toInt32).toInt8.toInt32)), (.int (3 : Int32)), (.ref ad1)]) _
  obtain ⟨clq5, Arq5, qq5, Sq5, Nnq5, Hq5, Gq5⟩ := V_ad1
  have hin5 : ¬ ((3 : Int32) < 0 ∨ clq5.slots.size ≤ ((3 : Int32)).toNatClampNeg) := inb_of Sq5 ⟨by decide, by decide⟩
  obtain ⟨T5, h5, X5, e5, W5, st5⟩ := stB X4 hx hZ e4 Arq5 (j := (3 : Int32)) hin5 (g := (mkF m 42 #[.val (.int x0), .val (.int x1), .val (.long x2), .second, .val (.ref ad1), .unset, .unset, .unset, .unset, .unset] [(.int (((x2 >>> ((24 : Int32) &&& 0x3f).toInt64).toInt32).toInt8.toInt32)), (.int (3 : Int32)), (.ref ad1)])) rfl rfl (hb hby at_42)
  have V_ad1 : Arv Z h5 ad1 kc1 .byte (8 : Int32) [(.int (nar .byte ((x2.toInt32).toInt8.toInt32))), (.int (nar .byte (((x2 >>> ((8 : Int32) &&& 0x3f).toInt64).toInt32).toInt8.toInt32))), (.int (nar .byte (((x2 >>> ((16 : Int32) &&& 0x3f).toInt64).toInt32).toInt8.toInt32))), (.int (nar .byte (((x2 >>> ((24 : Int32) &&& 0x3f).toInt64).toInt32).toInt8.toInt32))), (.int (0 : Int32)), (.int (0 : Int32)), (.int (0 : Int32)), (.int (0 : Int32))] (.int (0 : Int32)) := Arv.set Arq5 qq5 Sq5 Nnq5 Hq5 Gq5 (fits_nar_byte _) W5 3 rfl (Nat.le_of_ble_eq_true rfl)
  have N5 := Fr.snoc X5 N4 ge_ad1
  have Z0 := Nat.le_trans Z0 (Keep.of_wr W5).1
  have OL := OL.wr W5 ge_ad1
  refine Go.of (fun _ k => st5 _ k) ?_
  show Go p e below T5 (mkF m 43 #[.val (.int x0), .val (.int x1), .val (.long x2), .second, .val (.ref ad1), .unset, .unset, .unset, .unset, .unset] []) _
  refine Go.of (fun _ k => XS.aload X5.here hx rfl (hb hby at_43) rfl rfl  k) ?_
  show Go p e below T5 (mkF m 45 #[.val (.int x0), .val (.int x1), .val (.long x2), .second, .val (.ref ad1), .unset, .unset, .unset, .unset, .unset] [(.ref ad1)]) _
  refine Go.of (fun _ k => XS.iconst X5.here hx rfl (hb hby at_45) k) ?_
  show Go p e below T5 (mkF m 46 #[.val (.int x0), .val (.int x1), .val (.long x2), .second, .val (.ref ad1), .unset, .unset, .unset, .unset, .unset] [(.int (4 : Int32)), (.ref ad1)]) _
  refine Go.of (fun _ k => XS.lloadN X5.here hx rfl (hb hby at_46) rfl  k) ?_
  show Go p e below T5 (mkF m 47 #[.val (.int x0), .val (.int x1), .val (.long x2), .second, .val (.ref ad1), .unset, .unset, .unset, .unset, .unset] [(.long x2), (.int (4 : Int32)), (.ref ad1)]) _
  refine Go.of (fun _ k => XS.bipush X5.here hx rfl (hb hby at_47) k) ?_
  show Go p e below T5 (mkF m 49 #[.val (.int x0), .val (.int x1), .val (.long x2), .second, .val (.ref ad1), .unset, .unset, .unset, .unset, .unset] [(.int (32 : Int32)), (.long x2), (.int (4 : Int32)), (.ref ad1)]) _
  refine Go.of (fun _ k => XS.lshr X5.here hx rfl (hb hby at_49) rfl k) ?_
  show Go p e below T5 (mkF m 50 #[.val (.int x0), .val (.int x1), .val (.long x2), .second, .val (.ref ad1), .unset, .unset, .unset, .unset, .unset] [(.long (x2 >>> ((32 : Int32) &&& 0x3f).toInt64)), (.int (4 : Int32)), (.ref ad1)]) _
  refine Go.of (fun _ k => XS.l2i X5.here hx rfl (hb hby at_50) rfl k) ?_
  show Go p e below T5 (mkF m 51 #[.val (.int x0), .val (.int x1), .val (.long x2), .second, .val (.ref ad1), .unset, .unset, .unset, .unset, .unset] [(.int ((x2 >>> ((32 : Int32) &&& 0x3f).toInt64).toInt32)), (.int (4 : Int32)), (.ref ad1)]) _
  refine Go.of (fun _ k => XS.i2b X5.here hx rfl (hb hby at_51) rfl k) ?_
  show Go p e below T5 (mkF m 52 #[.val (.int x0), .val (.int x1), .val (.long x2), .second, .val (.ref ad1), .unset, .unset, .unset, .unset, .unset] [(.int (((x2 >>> ((32 : Int32) &&& 0x3f).toInt64).toInt32).toInt8.toInt32)), (.int (4 : Int32)), (.ref ad1)]) _
  obtain ⟨clq6, Arq6, qq6, Sq6, Nnq6, Hq6, Gq6⟩ := V_ad1
  have hin6 : ¬ ((4 : Int32) < 0 ∨ clq6.slots.size ≤ ((4 : Int32)).toNatClampNeg) := inb_of Sq6 ⟨by decide, by decide⟩
  obtain ⟨T6, h6, X6, e6, W6, st6⟩ := stB X5 hx hZ e5 Arq6 (j := (4 : Int32)) hin6 (g := (mkF m 52 #[.val (.int x0), .val (.int x1), .val (.long x2), .second, .val (.ref ad1), .unset, .unset, .unset, .unset, .unset] [(.int (((x2 >>> ((32 : Int32) &&& 0x3f).toInt64).toInt32).toInt8.toInt32)), (.int (4 : Int32)), (.ref ad1)])) rfl rfl (hb hby at_52)
  have V_ad1 : Arv Z h6 ad1 kc1 .byte (8 : Int32) [(.int (nar .byte ((x2.toInt32).toInt8.toInt32))), (.int (nar .byte (((x2 >>> ((8 : Int32) &&& 0x3f).toInt64).toInt32).toInt8.toInt32))), (.int (nar .byte (((x2 >>> ((16 : Int32) &&& 0x3f).toInt64).toInt32).toInt8.toInt32))), (.int (nar .byte (((x2 >>> ((24 : Int32) &&& 0x3f).toInt64).toInt32).toInt8.toInt32))), (.int (nar .byte (((x2 >>> ((32 : Int32) &&& 0x3f).toInt64).toInt32).toInt8.toInt32))), (.int (0 : Int32)), (.int (0 : Int32)), (.int (0 : Int32))] (.int (0 : Int32)) := Arv.set Arq6 qq6 Sq6 Nnq6 Hq6 Gq6 (fits_nar_byte _) W6 4 rfl (Nat.le_of_ble_eq_true rfl)
  have N6 := Fr.snoc X6 N5 ge_ad1
  have Z0 := Nat.le_trans Z0 (Keep.of_wr W6).1
  have OL := OL.wr W6 ge_ad1
  refine Go.of (fun _ k => st6 _ k) ?_
  show Go p e below T6 (mkF m 53 #[.val (.int x0), .val (.int x1), .val (.long x2), .second, .val (.ref ad1), .unset, .unset, .unset, .unset, .unset] []) _
  refine Go.of (fun _ k => XS.aload X6.here hx rfl (hb hby at_53) rfl rfl  k) ?_
  show Go p e below T6 (mkF m 55 #[.val (.int x0), .val (.int x1), .val (.long x2), .second, .val (.ref ad1), .unset, .unset, .unset, .unset, .unset] [(.ref ad1)]) _
  refine Go.of (fun _ k => XS.iconst X6.here hx rfl (hb hby at_55) k) ?_
  show Go p e below T6 (mkF m 56 #[.val (.int x0), .val (.int x1), .val (.long x2), .second, .val (.ref ad1), .unset, .unset, .unset, .unset, .unset] [(.int (5 : Int32)), (.ref ad1)]) _
  refine Go.of (fun _ k => XS.lloadN X6.here hx rfl (hb hby at_56) rfl  k) ?_
  show Go p e below T6 (mkF m 57 #[.val (.int x0), .val (.int x1), .val (.long x2), .second, .val (.ref ad1), .unset, .unset, .unset, .unset, .unset] [(.long x2), (.int (5 : Int32)), (.ref ad1)]) _
  refine Go.of (fun _ k => XS.bipush X6.here hx rfl (hb hby at_57) k) ?_
  show Go p e below T6 (mkF m 59 #[.val (.int x0), .val (.int x1), .val (.long x2), .second, .val (.ref ad1), .unset, .unset, .unset, .unset, .unset] [(.int (40 : Int32)), (.long x2), (.int (5 : Int32)), (.ref ad1)]) _
  refine Go.of (fun _ k => XS.lshr X6.here hx rfl (hb hby at_59) rfl k) ?_
  show Go p e below T6 (mkF m 60 #[.val (.int x0), .val (.int x1), .val (.long x2), .second, .val (.ref ad1), .unset, .unset, .unset, .unset, .unset] [(.long (x2 >>> ((40 : Int32) &&& 0x3f).toInt64)), (.int (5 : Int32)), (.ref ad1)]) _
  refine Go.of (fun _ k => XS.l2i X6.here hx rfl (hb hby at_60) rfl k) ?_
  show Go p e below T6 (mkF m 61 #[.val (.int x0), .val (.int x1), .val (.long x2), .second, .val (.ref ad1), .unset, .unset, .unset, .unset, .unset] [(.int ((x2 >>> ((40 : Int32) &&& 0x3f).toInt64).toInt32)), (.int (5 : Int32)), (.ref ad1)]) _
  refine Go.of (fun _ k => XS.i2b X6.here hx rfl (hb hby at_61) rfl k) ?_
  show Go p e below T6 (mkF m 62 #[.val (.int x0), .val (.int x1), .val (.long x2), .second, .val (.ref ad1), .unset, .unset, .unset, .unset, .unset] [(.int (((x2 >>> ((40 : Int32) &&& 0x3f).toInt64).toInt32).toInt8.toInt32)), (.int (5 : Int32)), (.ref ad1)]) _
  obtain ⟨clq7, Arq7, qq7, Sq7, Nnq7, Hq7, Gq7⟩ := V_ad1
  have hin7 : ¬ ((5 : Int32) < 0 ∨ clq7.slots.size ≤ ((5 : Int32)).toNatClampNeg) := inb_of Sq7 ⟨by decide, by decide⟩
  obtain ⟨T7, h7, X7, e7, W7, st7⟩ := stB X6 hx hZ e6 Arq7 (j := (5 : Int32)) hin7 (g := (mkF m 62 #[.val (.int x0), .val (.int x1), .val (.long x2), .second, .val (.ref ad1), .unset, .unset, .unset, .unset, .unset] [(.int (((x2 >>> ((40 : Int32) &&& 0x3f).toInt64).toInt32).toInt8.toInt32)), (.int (5 : Int32)), (.ref ad1)])) rfl rfl (hb hby at_62)
  have V_ad1 : Arv Z h7 ad1 kc1 .byte (8 : Int32) [(.int (nar .byte ((x2.toInt32).toInt8.toInt32))), (.int (nar .byte (((x2 >>> ((8 : Int32) &&& 0x3f).toInt64).toInt32).toInt8.toInt32))), (.int (nar .byte (((x2 >>> ((16 : Int32) &&& 0x3f).toInt64).toInt32).toInt8.toInt32))), (.int (nar .byte (((x2 >>> ((24 : Int32) &&& 0x3f).toInt64).toInt32).toInt8.toInt32))), (.int (nar .byte (((x2 >>> ((32 : Int32) &&& 0x3f).toInt64).toInt32).toInt8.toInt32))), (.int (nar .byte (((x2 >>> ((40 : Int32) &&& 0x3f).toInt64).toInt32).toInt8.toInt32))), (.int (0 : Int32)), (.int (0 : Int32))] (.int (0 : Int32)) := Arv.set Arq7 qq7 Sq7 Nnq7 Hq7 Gq7 (fits_nar_byte _) W7 5 rfl (Nat.le_of_ble_eq_true rfl)
  have N7 := Fr.snoc X7 N6 ge_ad1
  have Z0 := Nat.le_trans Z0 (Keep.of_wr W7).1
  have OL := OL.wr W7 ge_ad1
  refine Go.of (fun _ k => st7 _ k) ?_
  show Go p e below T7 (mkF m 63 #[.val (.int x0), .val (.int x1), .val (.long x2), .second, .val (.ref ad1), .unset, .unset, .unset, .unset, .unset] []) _
  refine Go.of (fun _ k => XS.aload X7.here hx rfl (hb hby at_63) rfl rfl  k) ?_
  show Go p e below T7 (mkF m 65 #[.val (.int x0), .val (.int x1), .val (.long x2), .second, .val (.ref ad1), .unset, .unset, .unset, .unset, .unset] [(.ref ad1)]) _
  refine Go.of (fun _ k => XS.bipush X7.here hx rfl (hb hby at_65) k) ?_
  show Go p e below T7 (mkF m 67 #[.val (.int x0), .val (.int x1), .val (.long x2), .second, .val (.ref ad1), .unset, .unset, .unset, .unset, .unset] [(.int (6 : Int32)), (.ref ad1)]) _
  refine Go.of (fun _ k => XS.lloadN X7.here hx rfl (hb hby at_67) rfl  k) ?_
  show Go p e below T7 (mkF m 68 #[.val (.int x0), .val (.int x1), .val (.long x2), .second, .val (.ref ad1), .unset, .unset, .unset, .unset, .unset] [(.long x2), (.int (6 : Int32)), (.ref ad1)]) _
  refine Go.of (fun _ k => XS.bipush X7.here hx rfl (hb hby at_68) k) ?_
  show Go p e below T7 (mkF m 70 #[.val (.int x0), .val (.int x1), .val (.long x2), .second, .val (.ref ad1), .unset, .unset, .unset, .unset, .unset] [(.int (48 : Int32)), (.long x2), (.int (6 : Int32)), (.ref ad1)]) _
  refine Go.of (fun _ k => XS.lshr X7.here hx rfl (hb hby at_70) rfl k) ?_
  show Go p e below T7 (mkF m 71 #[.val (.int x0), .val (.int x1), .val (.long x2), .second, .val (.ref ad1), .unset, .unset, .unset, .unset, .unset] [(.long (x2 >>> ((48 : Int32) &&& 0x3f).toInt64)), (.int (6 : Int32)), (.ref ad1)]) _
  refine Go.of (fun _ k => XS.l2i X7.here hx rfl (hb hby at_71) rfl k) ?_
  show Go p e below T7 (mkF m 72 #[.val (.int x0), .val (.int x1), .val (.long x2), .second, .val (.ref ad1), .unset, .unset, .unset, .unset, .unset] [(.int ((x2 >>> ((48 : Int32) &&& 0x3f).toInt64).toInt32)), (.int (6 : Int32)), (.ref ad1)]) _
  refine Go.of (fun _ k => XS.i2b X7.here hx rfl (hb hby at_72) rfl k) ?_
  show Go p e below T7 (mkF m 73 #[.val (.int x0), .val (.int x1), .val (.long x2), .second, .val (.ref ad1), .unset, .unset, .unset, .unset, .unset] [(.int (((x2 >>> ((48 : Int32) &&& 0x3f).toInt64).toInt32).toInt8.toInt32)), (.int (6 : Int32)), (.ref ad1)]) _
  obtain ⟨clq8, Arq8, qq8, Sq8, Nnq8, Hq8, Gq8⟩ := V_ad1
  have hin8 : ¬ ((6 : Int32) < 0 ∨ clq8.slots.size ≤ ((6 : Int32)).toNatClampNeg) := inb_of Sq8 ⟨by decide, by decide⟩
  obtain ⟨T8, h8, X8, e8, W8, st8⟩ := stB X7 hx hZ e7 Arq8 (j := (6 : Int32)) hin8 (g := (mkF m 73 #[.val (.int x0), .val (.int x1), .val (.long x2), .second, .val (.ref ad1), .unset, .unset, .unset, .unset, .unset] [(.int (((x2 >>> ((48 : Int32) &&& 0x3f).toInt64).toInt32).toInt8.toInt32)), (.int (6 : Int32)), (.ref ad1)])) rfl rfl (hb hby at_73)
  have V_ad1 : Arv Z h8 ad1 kc1 .byte (8 : Int32) [(.int (nar .byte ((x2.toInt32).toInt8.toInt32))), (.int (nar .byte (((x2 >>> ((8 : Int32) &&& 0x3f).toInt64).toInt32).toInt8.toInt32))), (.int (nar .byte (((x2 >>> ((16 : Int32) &&& 0x3f).toInt64).toInt32).toInt8.toInt32))), (.int (nar .byte (((x2 >>> ((24 : Int32) &&& 0x3f).toInt64).toInt32).toInt8.toInt32))), (.int (nar .byte (((x2 >>> ((32 : Int32) &&& 0x3f).toInt64).toInt32).toInt8.toInt32))), (.int (nar .byte (((x2 >>> ((40 : Int32) &&& 0x3f).toInt64).toInt32).toInt8.toInt32))), (.int (nar .byte (((x2 >>> ((48 : Int32) &&& 0x3f).toInt64).toInt32).toInt8.toInt32))), (.int (0 : Int32))] (.int (0 : Int32)) := Arv.set Arq8 qq8 Sq8 Nnq8 Hq8 Gq8 (fits_nar_byte _) W8 6 rfl (Nat.le_of_ble_eq_true rfl)
  have N8 := Fr.snoc X8 N7 ge_ad1
  have Z0 := Nat.le_trans Z0 (Keep.of_wr W8).1
  have OL := OL.wr W8 ge_ad1
  refine Go.of (fun _ k => st8 _ k) ?_
  show Go p e below T8 (mkF m 74 #[.val (.int x0), .val (.int x1), .val (.long x2), .second, .val (.ref ad1), .unset, .unset, .unset, .unset, .unset] []) _
  refine Go.of (fun _ k => XS.aload X8.here hx rfl (hb hby at_74) rfl rfl  k) ?_
  show Go p e below T8 (mkF m 76 #[.val (.int x0), .val (.int x1), .val (.long x2), .second, .val (.ref ad1), .unset, .unset, .unset, .unset, .unset] [(.ref ad1)]) _
  refine Go.of (fun _ k => XS.bipush X8.here hx rfl (hb hby at_76) k) ?_
  show Go p e below T8 (mkF m 78 #[.val (.int x0), .val (.int x1), .val (.long x2), .second, .val (.ref ad1), .unset, .unset, .unset, .unset, .unset] [(.int (7 : Int32)), (.ref ad1)]) _
  refine Go.of (fun _ k => XS.lloadN X8.here hx rfl (hb hby at_78) rfl  k) ?_
  show Go p e below T8 (mkF m 79 #[.val (.int x0), .val (.int x1), .val (.long x2), .second, .val (.ref ad1), .unset, .unset, .unset, .unset, .unset] [(.long x2), (.int (7 : Int32)), (.ref ad1)]) _
  refine Go.of (fun _ k => XS.bipush X8.here hx rfl (hb hby at_79) k) ?_
  show Go p e below T8 (mkF m 81 #[.val (.int x0), .val (.int x1), .val (.long x2), .second, .val (.ref ad1), .unset, .unset, .unset, .unset, .unset] [(.int (56 : Int32)), (.long x2), (.int (7 : Int32)), (.ref ad1)]) _
  refine Go.of (fun _ k => XS.lshr X8.here hx rfl (hb hby at_81) rfl k) ?_
  show Go p e below T8 (mkF m 82 #[.val (.int x0), .val (.int x1), .val (.long x2), .second, .val (.ref ad1), .unset, .unset, .unset, .unset, .unset] [(.long (x2 >>> ((56 : Int32) &&& 0x3f).toInt64)), (.int (7 : Int32)), (.ref ad1)]) _
  refine Go.of (fun _ k => XS.l2i X8.here hx rfl (hb hby at_82) rfl k) ?_
  show Go p e below T8 (mkF m 83 #[.val (.int x0), .val (.int x1), .val (.long x2), .second, .val (.ref ad1), .unset, .unset, .unset, .unset, .unset] [(.int ((x2 >>> ((56 : Int32) &&& 0x3f).toInt64).toInt32)), (.int (7 : Int32)), (.ref ad1)]) _
  refine Go.of (fun _ k => XS.i2b X8.here hx rfl (hb hby at_83) rfl k) ?_
  show Go p e below T8 (mkF m 84 #[.val (.int x0), .val (.int x1), .val (.long x2), .second, .val (.ref ad1), .unset, .unset, .unset, .unset, .unset] [(.int (((x2 >>> ((56 : Int32) &&& 0x3f).toInt64).toInt32).toInt8.toInt32)), (.int (7 : Int32)), (.ref ad1)]) _
  obtain ⟨clq9, Arq9, qq9, Sq9, Nnq9, Hq9, Gq9⟩ := V_ad1
  have hin9 : ¬ ((7 : Int32) < 0 ∨ clq9.slots.size ≤ ((7 : Int32)).toNatClampNeg) := inb_of Sq9 ⟨by decide, by decide⟩
  obtain ⟨T9, h9, X9, e9, W9, st9⟩ := stB X8 hx hZ e8 Arq9 (j := (7 : Int32)) hin9 (g := (mkF m 84 #[.val (.int x0), .val (.int x1), .val (.long x2), .second, .val (.ref ad1), .unset, .unset, .unset, .unset, .unset] [(.int (((x2 >>> ((56 : Int32) &&& 0x3f).toInt64).toInt32).toInt8.toInt32)), (.int (7 : Int32)), (.ref ad1)])) rfl rfl (hb hby at_84)
  have V_ad1 : Arv Z h9 ad1 kc1 .byte (8 : Int32) [(.int (nar .byte ((x2.toInt32).toInt8.toInt32))), (.int (nar .byte (((x2 >>> ((8 : Int32) &&& 0x3f).toInt64).toInt32).toInt8.toInt32))), (.int (nar .byte (((x2 >>> ((16 : Int32) &&& 0x3f).toInt64).toInt32).toInt8.toInt32))), (.int (nar .byte (((x2 >>> ((24 : Int32) &&& 0x3f).toInt64).toInt32).toInt8.toInt32))), (.int (nar .byte (((x2 >>> ((32 : Int32) &&& 0x3f).toInt64).toInt32).toInt8.toInt32))), (.int (nar .byte (((x2 >>> ((40 : Int32) &&& 0x3f).toInt64).toInt32).toInt8.toInt32))), (.int (nar .byte (((x2 >>> ((48 : Int32) &&& 0x3f).toInt64).toInt32).toInt8.toInt32))), (.int (nar .byte (((x2 >>> ((56 : Int32) &&& 0x3f).toInt64).toInt32).toInt8.toInt32)))] (.int (0 : Int32)) := Arv.set Arq9 qq9 Sq9 Nnq9 Hq9 Gq9 (fits_nar_byte _) W9 7 rfl (Nat.le_of_ble_eq_true rfl)
  have N9 := Fr.snoc X9 N8 ge_ad1
  have Z0 := Nat.le_trans Z0 (Keep.of_wr W9).1
  have OL := OL.wr W9 ge_ad1
  refine Go.of (fun _ k => st9 _ k) ?_
  show Go p e below T9 (mkF m 85 #[.val (.int x0), .val (.int x1), .val (.long x2), .second, .val (.ref ad1), .unset, .unset, .unset, .unset, .unset] []) _
  refine Go.of (fun _ k => XS.iloadN X9.here hx rfl (hb hby at_85) rfl  k) ?_
  show Go p e below T9 (mkF m 86 #[.val (.int x0), .val (.int x1), .val (.long x2), .second, .val (.ref ad1), .unset, .unset, .unset, .unset, .unset] [(.int x0)]) _
  refine Go.of (fun _ k => X9.ldcInt hx hown (mvT hZ (hw _ (List.mem_of_getElem? (i := 1) rfl))) (g := (mkF m 86 #[.val (.int x0), .val (.int x1), .val (.long x2), .second, .val (.ref ad1), .unset, .unset, .unset, .unset, .unset] [(.int x0)])) rfl (hb hby at_86) _ k) ?_
  show Go p e below T9 (mkF m 88 #[.val (.int x0), .val (.int x1), .val (.long x2), .second, .val (.ref ad1), .unset, .unset, .unset, .unset, .unset] [(.int (2147483647 : Int32)), (.int x0)]) _
  refine Go.of (fun _ k => XS.iand X9.here hx rfl (hb hby at_88) rfl k) ?_
  show Go p e below T9 (mkF m 89 #[.val (.int x0), .val (.int x1), .val (.long x2), .second, .val (.ref ad1), .unset, .unset, .unset, .unset, .unset] [(.int (x0 &&& (2147483647 : Int32)))]) _
  refine Go.of (fun _ k => XS.bipush X9.here hx rfl (hb hby at_89) k) ?_
  show Go p e below T9 (mkF m 91 #[.val (.int x0), .val (.int x1), .val (.long x2), .second, .val (.ref ad1), .unset, .unset, .unset, .unset, .unset] [(.int (9 : Int32)), (.int (x0 &&& (2147483647 : Int32)))]) _
  refine Go.of (fun _ k => iremM X9 hx rfl (hb hby at_91) rfl (by decide) k) ?_
  show Go p e below T9 (mkF m 92 #[.val (.int x0), .val (.int x1), .val (.long x2), .second, .val (.ref ad1), .unset, .unset, .unset, .unset, .unset] [(.int ((x0 &&& (2147483647 : Int32)) % (9 : Int32)))]) _
  refine Go.of (fun _ k => XS.istore X9.here hx rfl (hb hby at_92) rfl (l' := #[.val (.int x0), .val (.int x1), .val (.long x2), .second, .val (.ref ad1), .val (.int ((x0 &&& (2147483647 : Int32)) % (9 : Int32))), .unset, .unset, .unset, .unset]) rfl k) ?_
  show Go p e below T9 (mkF m 94 #[.val (.int x0), .val (.int x1), .val (.long x2), .second, .val (.ref ad1), .val (.int ((x0 &&& (2147483647 : Int32)) % (9 : Int32))), .unset, .unset, .unset, .unset] []) _
  generalize h_ss : ((x0 &&& (2147483647 : Int32)) % (9 : Int32)) = ss
  have q1 := own_rem (x := x0 &&& 2147483647) (y := 9) (own_mask31 x0).1 (by decide)
  rw [h_ss, k9] at q1
  have q2 : ((9 : Int32) - ss).toInt = 9 - ss.toInt := by rw [Jvm.Kit.i32_sub (by rw [k9]; omega) (by rw [k9]; omega), k9]
  refine Go.of (fun _ k => XS.iload X9.here hx rfl (hb hby at_94) rfl  k) ?_
  show Go p e below T9 (mkF m 96 #[.val (.int x0), .val (.int x1), .val (.long x2), .second, .val (.ref ad1), .val (.int ss), .unset, .unset, .unset, .unset] [(.int ss)]) _
  refine Go.of (fun _ k => XS.iloadN X9.here hx rfl (hb hby at_96) rfl  k) ?_
  show Go p e below T9 (mkF m 97 #[.val (.int x0), .val (.int x1), .val (.long x2), .second, .val (.ref ad1), .val (.int ss), .unset, .unset, .unset, .unset] [(.int x1), (.int ss)]) _
  refine Go.of (fun _ k => X9.ldcInt hx hown (mvT hZ (hw _ (List.mem_of_getElem? (i := 1) rfl))) (g := (mkF m 97 #[.val (.int x0), .val (.int x1), .val (.long x2), .second, .val (.ref ad1), .val (.int ss), .unset, .unset, .unset, .unset] [(.int x1), (.int ss)])) rfl (hb hby at_97) _ k) ?_
  show Go p e below T9 (mkF m 99 #[.val (.int x0), .val (.int x1), .val (.long x2), .second, .val (.ref ad1), .val (.int ss), .unset, .unset, .unset, .unset] [(.int (2147483647 : Int32)), (.int x1), (.int ss)]) _
  refine Go.of (fun _ k => XS.iand X9.here hx rfl (hb hby at_99) rfl k) ?_
  show Go p e below T9 (mkF m 100 #[.val (.int x0), .val (.int x1), .val (.long x2), .second, .val (.ref ad1), .val (.int ss), .unset, .unset, .unset, .unset] [(.int (x1 &&& (2147483647 : Int32))), (.int ss)]) _
  refine Go.of (fun _ k => XS.bipush X9.here hx rfl (hb hby at_100) k) ?_
  show Go p e below T9 (mkF m 102 #[.val (.int x0), .val (.int x1), .val (.long x2), .second, .val (.ref ad1), .val (.int ss), .unset, .unset, .unset, .unset] [(.int (9 : Int32)), (.int (x1 &&& (2147483647 : Int32))), (.int ss)]) _
  refine Go.of (fun _ k => XS.iload X9.here hx rfl (hb hby at_102) rfl  k) ?_
  show Go p e below T9 (mkF m 104 #[.val (.int x0), .val (.int x1), .val (.long x2), .second, .val (.ref ad1), .val (.int ss), .unset, .unset, .unset, .unset] [(.int ss), (.int (9 : Int32)), (.int (x1 &&& (2147483647 : Int32))), (.int ss)]) _
  refine Go.of (fun _ k => XS.isub X9.here hx rfl (hb hby at_104) rfl k) ?_
  show Go p e below T9 (mkF m 105 #[.val (.int x0), .val (.int x1), .val (.long x2), .second, .val (.ref ad1), .val (.int ss), .unset, .unset, .unset, .unset] [(.int ((9 : Int32) - ss)), (.int (x1 &&& (2147483647 : Int32))), (.int ss)]) _
  refine Go.of (fun _ k => iremM X9 hx rfl (hb hby at_105) rfl (fun q => by rw [own_eq, q2, k0] at q; omega) k) ?_
  show Go p e below T9 (mkF m 106 #[.val (.int x0), .val (.int x1), .val (.long x2), .second, .val (.ref ad1), .val (.int ss), .unset, .unset, .unset, .unset] [(.int ((x1 &&& (2147483647 : Int32)) % ((9 : Int32) - ss))), (.int ss)]) _
  refine Go.of (fun _ k => XS.iadd X9.here hx rfl (hb hby at_106) rfl k) ?_
  show Go p e below T9 (mkF m 107 #[.val (.int x0), .val (.int x1), .val (.long x2), .second, .val (.ref ad1), .val (.int ss), .unset, .unset, .unset, .unset] [(.int (ss + ((x1 &&& (2147483647 : Int32)) % ((9 : Int32) - ss))))]) _
  refine Go.of (fun _ k => XS.istore X9.here hx rfl (hb hby at_107) rfl (l' := #[.val (.int x0), .val (.int x1), .val (.long x2), .second, .val (.ref ad1), .val (.int ss), .val (.int (ss + ((x1 &&& (2147483647 : Int32)) % ((9 : Int32) - ss)))), .unset, .unset, .unset]) rfl k) ?_
  show Go p e below T9 (mkF m 109 #[.val (.int x0), .val (.int x1), .val (.long x2), .second, .val (.ref ad1), .val (.int ss), .val (.int (ss + ((x1 &&& (2147483647 : Int32)) % ((9 : Int32) - ss)))), .unset, .unset, .unset] []) _
  generalize h_ee : (ss + ((x1 &&& (2147483647 : Int32)) % ((9 : Int32) - ss))) = ee
  have q3 := own_rem (x := x1 &&& 2147483647) (y := 9 - ss) (own_mask31 x1).1 (by rw [q2]; omega)
  rw [q2] at q3
  have q4 : ee.toInt = ss.toInt + ((x1 &&& 2147483647) % (9 - ss)).toInt := by rw [← h_ee, Jvm.Kit.i32_add (by omega) (by omega)]
  have b4 : (ee - ss).toInt = ee.toInt - ss.toInt := by rw [Jvm.Kit.i32_sub (by omega) (by omega)]
  have b5 : (ee - ss = 0) ↔ (ss = ee) := by rw [own_eq, own_eq, b4, k0]; omega
  obtain ⟨T10, h10, X10, e10, E10, A10, D10, -, st10⟩ := newO X9 hx hZ hown (hw _ (List.mem_of_getElem? (i := 2) rfl)) (hw _ (List.mem_of_getElem? (i := 3) rfl)) (hw _ (List.mem_of_getElem? (i := 4) rfl)) e9 (g := (mkF m 109 #[.val (.int x0), .val (.int x1), .val (.long x2), .second, .val (.ref ad1), .val (.int ss), .val (.int ee), .unset, .unset, .unset] [])) rfl (hb hby at_109) (by decide) (by decide)
  obtain ⟨ad10, g10⟩ : ∃ z, z = h9.size := ⟨_, rfl⟩
  rw [← g10] at A10 D10 st10
  have ne_ad1_ad10 : ad1 ≠ ad10 := Nat.ne_of_lt (Nat.lt_of_lt_of_le V_ad1.lt (Nat.le_of_eq g10.symm))
  have ge_ad10 : n0 ≤ ad10 := Nat.le_trans Z0 (Nat.le_of_eq g10.symm)
  have Z0 := Nat.le_trans Z0 E10.1
  have OL := OL.ext E10
  have V_ad1 := V_ad1.ext E10
  have E_ad10 := A10
  have F_bytes_ad10 : Fld Z h10 ad10 "com/example/cascadex/cascadex/Utf8" "bytes" "[B" .null := D10 (Or.inr (hw _ (List.mem_of_getElem? (i := 12) rfl))) (ty := (.array .byte)) (by decide)
  have F_start_ad10 : Fld Z h10 ad10 "com/example/cascadex/cascadex/Utf8" "start" "I" (.int (0 : Int32)) := D10 (Or.inr (hw _ (List.mem_of_getElem? (i := 14) rfl))) (ty := .int) (by decide)
  have F_end_ad10 : Fld Z h10 ad10 "com/example/cascadex/cascadex/Utf8" "end" "I" (.int (0 : Int32)) := D10 (Or.inr (hw _ (List.mem_of_getElem? (i := 16) rfl))) (ty := .int) (by decide)
  refine Go.of (fun _ k => st10 _ k) ?_
  show Go p e below T10 (mkF m 112 #[.val (.int x0), .val (.int x1), .val (.long x2), .second, .val (.ref ad1), .val (.int ss), .val (.int ee), .unset, .unset, .unset] [(.ref ad10)]) _
  refine Go.of (fun _ k => XS.dup X10.here hx rfl (hb hby at_112) rfl rfl k) ?_
  show Go p e below T10 (mkF m 113 #[.val (.int x0), .val (.int x1), .val (.long x2), .second, .val (.ref ad1), .val (.int ss), .val (.int ee), .unset, .unset, .unset] [(.ref ad10), (.ref ad10)]) _
  refine Go.of (fun _ k => XS.aload X10.here hx rfl (hb hby at_113) rfl rfl  k) ?_
  show Go p e below T10 (mkF m 115 #[.val (.int x0), .val (.int x1), .val (.long x2), .second, .val (.ref ad1), .val (.int ss), .val (.int ee), .unset, .unset, .unset] [(.ref ad1), (.ref ad10), (.ref ad10)]) _
  refine Go.of (fun _ k => XS.iload X10.here hx rfl (hb hby at_115) rfl  k) ?_
  show Go p e below T10 (mkF m 117 #[.val (.int x0), .val (.int x1), .val (.long x2), .second, .val (.ref ad1), .val (.int ss), .val (.int ee), .unset, .unset, .unset] [(.int ss), (.ref ad1), (.ref ad10), (.ref ad10)]) _
  refine Go.of (fun _ k => XS.iload X10.here hx rfl (hb hby at_117) rfl  k) ?_
  show Go p e below T10 (mkF m 119 #[.val (.int x0), .val (.int x1), .val (.long x2), .second, .val (.ref ad1), .val (.int ss), .val (.int ee), .unset, .unset, .unset] [(.int ee), (.int ss), (.ref ad1), (.ref ad10), (.ref ad10)]) _
  obtain ⟨_, _, ⟨T11, L11, kq11, nq11⟩, -, X11, ⟨Lc11, hQ11, l11, y11, z11⟩, st11⟩ := X10.specialBack hx (y := (⟨"com/example/cascadex/cascadex/Utf8", "<init>", "([BII)V"⟩ : MethodName)) rfl hown (mvT hZ (hw _ (List.mem_of_getElem? (i := 5) rfl))) (mvT hZ (hw _ (List.mem_of_getElem? (i := 6) rfl))) (mvT hZ (hw _ (List.mem_of_getElem? (i := 7) rfl))) (by decide) (backOf (W := 1) (rm1 l Z a0 hw [] ad10 ad1 ss ee h10 n0 Z0 ge_ad10 E_ad10 F_bytes_ad10 F_start_ad10 F_end_ad10) hZ (hw _ (List.mem_of_getElem? (i := 7) rfl)) (hw _ (List.mem_of_getElem? (i := 4) rfl)) (by decide) (by decide)) (g := (mkF m 119 #[.val (.int x0), .val (.int x1), .val (.long x2), .second, .val (.ref ad1), .val (.int ss), .val (.int ee), .unset, .unset, .unset] [(.int ee), (.int ss), (.ref ad1), (.ref ad10), (.ref ad10)])) rfl (by rw [hml]; rfl) (Steps.refl _) (a := ad10) (argsL := [(.ref ad1), (.int ss), (.int ee)]) (rest := [(.ref ad10)]) (lenOf own_pd3 rfl) rfl (by show 2 * 0 + _ ≤ _; exact Nat.le_of_eq rfl) (hb hby at_119) (fun _ _ => ⟨rfl, e10, (by decide : 2 + 0 ≤ _), (by decide : 13 + 0 ≤ _)⟩)
  dsimp only [Pt.U, Pt.locs, Pt.cells, Pt.slots] at X11 l11 y11 z11 st11 hQ11
  subst l11 y11 z11
  obtain ⟨rfl, Nq11, Kq11, fq11_0, fq11_1, fq11_2, fq11_3⟩ := hQ11
  have N11 := Fr.app N9 Nq11
  have Z0 := Nat.le_trans Z0 Kq11.1
  have OL := OL.keep Kq11 (allS ge_ad10 all0)
  have V_ad1 := V_ad1.keep Kq11 (ninS ne_ad1_ad10 nin0)
  have E_ad10 := fq11_0
  have F_bytes_ad10 := fq11_1
  have F_start_ad10 := fq11_2
  have F_end_ad10 := fq11_3
  refine Go.of (fun _ k => st11.trans k) ?_
  show Go p e below T11 (mkF m 122 #[.val (.int x0), .val (.int x1), .val (.long x2), .second, .val (.ref ad1), .val (.int ss), .val (.int ee), .unset, .unset, .unset] [(.ref ad10)]) _
  refine Go.of (fun _ k => XS.astore X11.here hx rfl (hb hby at_122) rfl rfl (l' := #[.val (.int x0), .val (.int x1), .val (.long x2), .second, .val (.ref ad1), .val (.int ss), .val (.int ee), .val (.ref ad10), .unset, .unset]) rfl k) ?_
  show Go p e below T11 (mkF m 124 #[.val (.int x0), .val (.int x1), .val (.long x2), .second, .val (.ref ad1), .val (.int ss), .val (.int ee), .val (.ref ad10), .unset, .unset] []) _
  refine Go.of (fun _ k => XS.aload X11.here hx rfl (hb hby at_124) rfl rfl  k) ?_
  show Go p e below T11 (mkF m 126 #[.val (.int x0), .val (.int x1), .val (.long x2), .second, .val (.ref ad1), .val (.int ss), .val (.int ee), .val (.ref ad10), .unset, .unset] [(.ref ad10)]) _
  obtain ⟨cq12, kq12, q12a, q12b, q12c⟩ := isOf hZ rfl E_ad10
  obtain ⟨_, _, ⟨T12, L12, kq12, nq12⟩, -, X12, ⟨Lc12, hQ12, l12, y12, z12⟩, st12⟩ := X11.virtualBack hx (y := (⟨"com/example/cascadex/cascadex/Utf8", "isEmpty", "()Z"⟩ : MethodName)) (z := (⟨"com/example/cascadex/cascadex/Utf8", "isEmpty", "()Z"⟩ : MethodName)) hown (mvT hZ (hw _ (List.mem_of_getElem? (i := 17) rfl))) (mvT hZ (hw _ (List.mem_of_getElem? (i := 18) rfl))) (notFace_of_selects (args := #[]) (mvT hZ (hw _ (List.mem_of_getElem? (i := 20) rfl)))) (mvT hZ (hw _ (List.mem_of_getElem? (i := 20) rfl))) (mvT hZ (hw _ (List.mem_of_getElem? (i := 19) rfl))) (by decide) (backOf (W := 0) (rm3 l Z a0 hw [] ad10 ad1 ss ee T11.heap n0 Z0 F_bytes_ad10 F_start_ad10 F_end_ad10) hZ (hw _ (List.mem_of_getElem? (i := 21) rfl)) (hw _ (List.mem_of_getElem? (i := 4) rfl)) (by decide) (by decide)) q12a q12c (g := (mkF m 126 #[.val (.int x0), .val (.int x1), .val (.long x2), .second, .val (.ref ad1), .val (.int ss), .val (.int ee), .val (.ref ad10), .unset, .unset] [(.ref ad10)])) rfl (by rw [hml]; rfl) (Steps.refl _) (argsL := []) (rest := []) (lenOf own_pd4 rfl) rfl (by show 2 * 0 + _ ≤ _; exact Nat.le_of_eq rfl) (hb hby at_126) (fun _ _ => ⟨rfl, rfl, (by decide : 2 + 0 ≤ _), (by decide : 13 + 0 ≤ _)⟩)
  dsimp only [Pt.U, Pt.locs, Pt.cells, Pt.slots] at X12 l12 y12 z12 st12 hQ12
  subst l12 y12 z12
  obtain ⟨rfl, Nq12, e12⟩ := hQ12
  have e12 := e12.trans rfl
  have N12 := Fr.app N11 Nq12
  refine Go.of (fun _ k => st12.trans k) ?_
  show Go p e below T12 (mkF m 129 #[.val (.int x0), .val (.int x1), .val (.long x2), .second, .val (.ref ad1), .val (.int ss), .val (.int ee), .val (.ref ad10), .unset, .unset] [(.int (fE ss ee))]) _
  refine Go.of (fun _ k => XS.istore X12.here hx rfl (hb hby at_129) rfl (l' := #[.val (.int x0), .val (.int x1), .val (.long x2), .second, .val (.ref ad1), .val (.int ss), .val (.int ee), .val (.ref ad10), .val (.int (fE ss ee)), .unset]) rfl k) ?_
  show Go p e below T12 (mkF m 131 #[.val (.int x0), .val (.int x1), .val (.long x2), .second, .val (.ref ad1), .val (.int ss), .val (.int ee), .val (.ref ad10), .val (.int (fE ss ee)), .unset] []) _
  refine Go.of (fun _ k => XS.iload X12.here hx rfl (hb hby at_131) rfl  k) ?_
  show Go p e below T12 (mkF m 133 #[.val (.int x0), .val (.int x1), .val (.long x2), .second, .val (.ref ad1), .val (.int ss), .val (.int ee), .val (.ref ad10), .val (.int (fE ss ee)), .unset] [(.int ee)]) _
  refine Go.of (fun _ k => XS.iload X12.here hx rfl (hb hby at_133) rfl  k) ?_
  show Go p e below T12 (mkF m 135 #[.val (.int x0), .val (.int x1), .val (.long x2), .second, .val (.ref ad1), .val (.int ss), .val (.int ee), .val (.ref ad10), .val (.int (fE ss ee)), .unset] [(.int ss), (.int ee)]) _
  refine Go.of (fun _ k => XS.isub X12.here hx rfl (hb hby at_135) rfl k) ?_
  show Go p e below T12 (mkF m 136 #[.val (.int x0), .val (.int x1), .val (.long x2), .second, .val (.ref ad1), .val (.int ss), .val (.int ee), .val (.ref ad10), .val (.int (fE ss ee)), .unset] [(.int (ee - ss))]) _
  by_cases hc136_0 : (ee - ss) = (0 : Int32)
  · refine Go.of (fun _ k => XS.ifNo X12.here hx rfl (hb hby at_136) rfl ((if0 _ _).trans (teq hc136_0).2) k) ?_
    show Go p e below T12 (mkF m 139 #[.val (.int x0), .val (.int x1), .val (.long x2), .second, .val (.ref ad1), .val (.int ss), .val (.int ee), .val (.ref ad10), .val (.int (fE ss ee)), .unset] []) _
    refine Go.of (fun _ k => XS.iconst X12.here hx rfl (hb hby at_139) k) ?_
    show Go p e below T12 (mkF m 140 #[.val (.int x0), .val (.int x1), .val (.long x2), .second, .val (.ref ad1), .val (.int ss), .val (.int ee), .val (.ref ad10), .val (.int (fE ss ee)), .unset] [(.int (1 : Int32))]) _
    refine Go.of (fun _ k => XS.goto X12.here hx rfl (pc0 := 140) (pc' := 144) rfl (hb hby at_140) (by decide) (by decide) k) ?_
    show Go p e below T12 (mkF m 144 #[.val (.int x0), .val (.int x1), .val (.long x2), .second, .val (.ref ad1), .val (.int ss), .val (.int ee), .val (.ref ad10), .val (.int (fE ss ee)), .unset] [(.int (1 : Int32))]) _
    refine Go.of (fun _ k => XS.istore X12.here hx rfl (hb hby at_144) rfl (l' := #[.val (.int x0), .val (.int x1), .val (.long x2), .second, .val (.ref ad1), .val (.int ss), .val (.int ee), .val (.ref ad10), .val (.int (fE ss ee)), .val (.int (1 : Int32))]) rfl k) ?_
    show Go p e below T12 (mkF m 146 #[.val (.int x0), .val (.int x1), .val (.long x2), .second, .val (.ref ad1), .val (.int ss), .val (.int ee), .val (.ref ad10), .val (.int (fE ss ee)), .val (.int (1 : Int32))] []) _
    refine Go.of (fun _ k => XS.iload X12.here hx rfl (hb hby at_146) rfl  k) ?_
    show Go p e below T12 (mkF m 148 #[.val (.int x0), .val (.int x1), .val (.long x2), .second, .val (.ref ad1), .val (.int ss), .val (.int ee), .val (.ref ad10), .val (.int (fE ss ee)), .val (.int (1 : Int32))] [(.int (fE ss ee))]) _
    refine Go.of (fun _ k => XS.iload X12.here hx rfl (hb hby at_148) rfl  k) ?_
    show Go p e below T12 (mkF m 150 #[.val (.int x0), .val (.int x1), .val (.long x2), .second, .val (.ref ad1), .val (.int ss), .val (.int ee), .val (.ref ad10), .val (.int (fE ss ee)), .val (.int (1 : Int32))] [(.int (1 : Int32)), (.int (fE ss ee))]) _
    refine Go.of (fun _ k => XS.icmpNo X12.here hx rfl (hb hby at_150) rfl (teq (show (fE ss ee) = (1 : Int32) from (by rw [b5] at hc136_0; simp [fE, hc136_0]))).2 k) ?_
    show Go p e below T12 (mkF m 153 #[.val (.int x0), .val (.int x1), .val (.long x2), .second, .val (.ref ad1), .val (.int ss), .val (.int ee), .val (.ref ad10), .val (.int (fE ss ee)), .val (.int (1 : Int32))] []) _
    refine Go.of (fun _ k => XS.iload X12.here hx rfl (hb hby at_153) rfl  k) ?_
    show Go p e below T12 (mkF m 155 #[.val (.int x0), .val (.int x1), .val (.long x2), .second, .val (.ref ad1), .val (.int ss), .val (.int ee), .val (.ref ad10), .val (.int (fE ss ee)), .val (.int (1 : Int32))] [(.int (fE ss ee))]) _
    refine Go.of (fun _ k => XS.aload X12.here hx rfl (hb hby at_155) rfl rfl  k) ?_
    show Go p e below T12 (mkF m 157 #[.val (.int x0), .val (.int x1), .val (.long x2), .second, .val (.ref ad1), .val (.int ss), .val (.int ee), .val (.ref ad10), .val (.int (fE ss ee)), .val (.int (1 : Int32))] [(.ref ad10), (.int (fE ss ee))]) _
    obtain ⟨T13, X13, e13, st13⟩ := getS2 X12 hx hZ hown (host := "") (Or.inl (hw _ (List.mem_of_getElem? (i := 22) rfl))) Via.refl e12 (SE.ext OL.2) (g := (mkF m 157 #[.val (.int x0), .val (.int x1), .val (.long x2), .second, .val (.ref ad1), .val (.int ss), .val (.int ee), .val (.ref ad10), .val (.int (fE ss ee)), .val (.int (1 : Int32))] [(.ref ad10), (.int (fE ss ee))])) rfl (hb hby at_157)
    refine Go.of (fun _ k => st13 _ k) ?_
    show Go p e below T13 (mkF m 160 #[.val (.int x0), .val (.int x1), .val (.long x2), .second, .val (.ref ad1), .val (.int ss), .val (.int ee), .val (.ref ad10), .val (.int (fE ss ee)), .val (.int (1 : Int32))] [(.ref aE), (.ref ad10), (.int (fE ss ee))]) _
    obtain ⟨cl1, A1, -, S1, -, -, -⟩ := V_ad1
    obtain ⟨cq14, kq14, q14a, q14b, q14c⟩ := isOf hZ e13 E_ad10
    obtain ⟨_, _, ⟨T14, L14, kq14, nq14⟩, -, X14, ⟨Lc14, hQ14, l14, y14, z14⟩, st14⟩ := X13.virtualBack hx (y := (⟨"com/example/cascadex/cascadex/Utf8", "equals", "(Ljava/lang/Object;)Z"⟩ : MethodName)) (z := (⟨"com/example/cascadex/cascadex/Utf8", "equals", "(Ljava/lang/Object;)Z"⟩ : MethodName)) hown (mvT hZ (hw _ (List.mem_of_getElem? (i := 24) rfl))) (mvT hZ (hw _ (List.mem_of_getElem? (i := 25) rfl))) (notFace_of_selects (args := #[]) (mvT hZ (hw _ (List.mem_of_getElem? (i := 27) rfl)))) (mvT hZ (hw _ (List.mem_of_getElem? (i := 27) rfl))) (mvT hZ (hw _ (List.mem_of_getElem? (i := 26) rfl))) (by decide) (backOf (W := 1) (rm4 l Z a0 hw [] ad10 aE ad1 a2 ss ee cl1 cl2 T11.heap n0 Z0 F_bytes_ad10 F_start_ad10 F_end_ad10 (G_bytes.ext OL.2) (G_start.ext OL.2) (G_end.ext OL.2) (EE.ext OL.2) (OL.ne EE.lt ge_ad10) A1 S1 (A2.ext OL.2) S2 q1.1 (by omega) (by omega) b5) hZ (hw _ (List.mem_of_getElem? (i := 28) rfl)) (hw _ (List.mem_of_getElem? (i := 4) rfl)) (by decide) (by decide)) q14a q14c (g := (mkF m 160 #[.val (.int x0), .val (.int x1), .val (.long x2), .second, .val (.ref ad1), .val (.int ss), .val (.int ee), .val (.ref ad10), .val (.int (fE ss ee)), .val (.int (1 : Int32))] [(.ref aE), (.ref ad10), (.int (fE ss ee))])) rfl (by rw [hml]; rfl) (Steps.refl _) (argsL := [(.ref aE)]) (rest := [(.int (fE ss ee))]) (lenOf own_pd5 rfl) rfl (by show 2 * 0 + _ ≤ _; exact Nat.le_of_eq rfl) (hb hby at_160) (fun _ _ => ⟨rfl, e13, (by decide : 2 + 0 ≤ _), (by decide : 13 + 0 ≤ _)⟩)
    dsimp only [Pt.U, Pt.locs, Pt.cells, Pt.slots] at X14 l14 y14 z14 st14 hQ14
    subst l14 y14 z14
    obtain ⟨rfl, Nq14, e14⟩ := hQ14
    have e14 := e14.trans rfl
    have N14 := Fr.app N12 Nq14
    refine Go.of (fun _ k => st14.trans k) ?_
    show Go p e below T14 (mkF m 163 #[.val (.int x0), .val (.int x1), .val (.long x2), .second, .val (.ref ad1), .val (.int ss), .val (.int ee), .val (.ref ad10), .val (.int (fE ss ee)), .val (.int (1 : Int32))] [(.int (fE ss ee)), (.int (fE ss ee))]) _
    refine Go.of (fun _ k => XS.icmpNo X14.here hx rfl (hb hby at_163) rfl (teq (show (fE ss ee) = (fE ss ee) from rfl)).2 k) ?_
    show Go p e below T14 (mkF m 166 #[.val (.int x0), .val (.int x1), .val (.long x2), .second, .val (.ref ad1), .val (.int ss), .val (.int ee), .val (.ref ad10), .val (.int (fE ss ee)), .val (.int (1 : Int32))] []) _
    refine Go.of (fun _ k => XS.iconst X14.here hx rfl (hb hby at_166) k) ?_
    show Go p e below T14 (mkF m 167 #[.val (.int x0), .val (.int x1), .val (.long x2), .second, .val (.ref ad1), .val (.int ss), .val (.int ee), .val (.ref ad10), .val (.int (fE ss ee)), .val (.int (1 : Int32))] [(.int (1 : Int32))]) _
    refine Go.of (fun _ k => XS.goto X14.here hx rfl (pc0 := 167) (pc' := 171) rfl (hb hby at_167) (by decide) (by decide) k) ?_
    show Go p e below T14 (mkF m 171 #[.val (.int x0), .val (.int x1), .val (.long x2), .second, .val (.ref ad1), .val (.int ss), .val (.int ee), .val (.ref ad10), .val (.int (fE ss ee)), .val (.int (1 : Int32))] [(.int (1 : Int32))]) _
    refine Go.retN X14 hx (t := .boolean) hret hlk (by simp) (hb hby at_171) e14 (by decide) (by decide) ?_
    exact ⟨rfl, N14⟩
  · refine Go.of (fun _ k => XS.ifYes X12.here hx rfl (pc0 := 136) (pc' := 143) rfl (hb hby at_136) rfl ((if0 _ _).trans (feq hc136_0).2) (by decide) (by decide) k) ?_
    show Go p e below T12 (mkF m 143 #[.val (.int x0), .val (.int x1), .val (.long x2), .second, .val (.ref ad1), .val (.int ss), .val (.int ee), .val (.ref ad10), .val (.int (fE ss ee)), .unset] []) _
    refine Go.of (fun _ k => XS.iconst X12.here hx rfl (hb hby at_143) k) ?_
    show Go p e below T12 (mkF m 144 #[.val (.int x0), .val (.int x1), .val (.long x2), .second, .val (.ref ad1), .val (.int ss), .val (.int ee), .val (.ref ad10), .val (.int (fE ss ee)), .unset] [(.int (0 : Int32))]) _
    refine Go.of (fun _ k => XS.istore X12.here hx rfl (hb hby at_144) rfl (l' := #[.val (.int x0), .val (.int x1), .val (.long x2), .second, .val (.ref ad1), .val (.int ss), .val (.int ee), .val (.ref ad10), .val (.int (fE ss ee)), .val (.int (0 : Int32))]) rfl k) ?_
    show Go p e below T12 (mkF m 146 #[.val (.int x0), .val (.int x1), .val (.long x2), .second, .val (.ref ad1), .val (.int ss), .val (.int ee), .val (.ref ad10), .val (.int (fE ss ee)), .val (.int (0 : Int32))] []) _
    refine Go.of (fun _ k => XS.iload X12.here hx rfl (hb hby at_146) rfl  k) ?_
    show Go p e below T12 (mkF m 148 #[.val (.int x0), .val (.int x1), .val (.long x2), .second, .val (.ref ad1), .val (.int ss), .val (.int ee), .val (.ref ad10), .val (.int (fE ss ee)), .val (.int (0 : Int32))] [(.int (fE ss ee))]) _
    refine Go.of (fun _ k => XS.iload X12.here hx rfl (hb hby at_148) rfl  k) ?_
    show Go p e below T12 (mkF m 150 #[.val (.int x0), .val (.int x1), .val (.long x2), .second, .val (.ref ad1), .val (.int ss), .val (.int ee), .val (.ref ad10), .val (.int (fE ss ee)), .val (.int (0 : Int32))] [(.int (0 : Int32)), (.int (fE ss ee))]) _
    refine Go.of (fun _ k => XS.icmpNo X12.here hx rfl (hb hby at_150) rfl (teq (show (fE ss ee) = (0 : Int32) from (by rw [b5] at hc136_0; simp [fE, hc136_0]))).2 k) ?_
    show Go p e below T12 (mkF m 153 #[.val (.int x0), .val (.int x1), .val (.long x2), .second, .val (.ref ad1), .val (.int ss), .val (.int ee), .val (.ref ad10), .val (.int (fE ss ee)), .val (.int (0 : Int32))] []) _
    refine Go.of (fun _ k => XS.iload X12.here hx rfl (hb hby at_153) rfl  k) ?_
    show Go p e below T12 (mkF m 155 #[.val (.int x0), .val (.int x1), .val (.long x2), .second, .val (.ref ad1), .val (.int ss), .val (.int ee), .val (.ref ad10), .val (.int (fE ss ee)), .val (.int (0 : Int32))] [(.int (fE ss ee))]) _
    refine Go.of (fun _ k => XS.aload X12.here hx rfl (hb hby at_155) rfl rfl  k) ?_
    show Go p e below T12 (mkF m 157 #[.val (.int x0), .val (.int x1), .val (.long x2), .second, .val (.ref ad1), .val (.int ss), .val (.int ee), .val (.ref ad10), .val (.int (fE ss ee)), .val (.int (0 : Int32))] [(.ref ad10), (.int (fE ss ee))]) _
    obtain ⟨T15, X15, e15, st15⟩ := getS2 X12 hx hZ hown (host := "") (Or.inl (hw _ (List.mem_of_getElem? (i := 22) rfl))) Via.refl e12 (SE.ext OL.2) (g := (mkF m 157 #[.val (.int x0), .val (.int x1), .val (.long x2), .second, .val (.ref ad1), .val (.int ss), .val (.int ee), .val (.ref ad10), .val (.int (fE ss ee)), .val (.int (0 : Int32))] [(.ref ad10), (.int (fE ss ee))])) rfl (hb hby at_157)
    refine Go.of (fun _ k => st15 _ k) ?_
    show Go p e below T15 (mkF m 160 #[.val (.int x0), .val (.int x1), .val (.long x2), .second, .val (.ref ad1), .val (.int ss), .val (.int ee), .val (.ref ad10), .val (.int (fE ss ee)), .val (.int (0 : Int32))] [(.ref aE), (.ref ad10), (.int (fE ss ee))]) _
    obtain ⟨cl1, A1, -, S1, -, -, -⟩ := V_ad1
    obtain ⟨cq16, kq16, q16a, q16b, q16c⟩ := isOf hZ e15 E_ad10
    obtain ⟨_, _, ⟨T16, L16, kq16, nq16⟩, -, X16, ⟨Lc16, hQ16, l16, y16, z16⟩, st16⟩ := X15.virtualBack hx (y := (⟨"com/example/cascadex/cascadex/Utf8", "equals", "(Ljava/lang/Object;)Z"⟩ : MethodName)) (z := (⟨"com/example/cascadex/cascadex/Utf8", "equals", "(Ljava/lang/Object;)Z"⟩ : MethodName)) hown (mvT hZ (hw _ (List.mem_of_getElem? (i := 24) rfl))) (mvT hZ (hw _ (List.mem_of_getElem? (i := 25) rfl))) (notFace_of_selects (args := #[]) (mvT hZ (hw _ (List.mem_of_getElem? (i := 27) rfl)))) (mvT hZ (hw _ (List.mem_of_getElem? (i := 27) rfl))) (mvT hZ (hw _ (List.mem_of_getElem? (i := 26) rfl))) (by decide) (backOf (W := 1) (rm4 l Z a0 hw [] ad10 aE ad1 a2 ss ee cl1 cl2 T11.heap n0 Z0 F_bytes_ad10 F_start_ad10 F_end_ad10 (G_bytes.ext OL.2) (G_start.ext OL.2) (G_end.ext OL.2) (EE.ext OL.2) (OL.ne EE.lt ge_ad10) A1 S1 (A2.ext OL.2) S2 q1.1 (by omega) (by omega) b5) hZ (hw _ (List.mem_of_getElem? (i := 28) rfl)) (hw _ (List.mem_of_getElem? (i := 4) rfl)) (by decide) (by decide)) q16a q16c (g := (mkF m 160 #[.val (.int x0), .val (.int x1), .val (.long x2), .second, .val (.ref ad1), .val (.int ss), .val (.int ee), .val (.ref ad10), .val (.int (fE ss ee)), .val (.int (0 : Int32))] [(.ref aE), (.ref ad10), (.int (fE ss ee))])) rfl (by rw [hml]; rfl) (Steps.refl _) (argsL := [(.ref aE)]) (rest := [(.int (fE ss ee))]) (lenOf own_pd5 rfl) rfl (by show 2 * 0 + _ ≤ _; exact Nat.le_of_eq rfl) (hb hby at_160) (fun _ _ => ⟨rfl, e15, (by decide : 2 + 0 ≤ _), (by decide : 13 + 0 ≤ _)⟩)
    dsimp only [Pt.U, Pt.locs, Pt.cells, Pt.slots] at X16 l16 y16 z16 st16 hQ16
    subst l16 y16 z16
    obtain ⟨rfl, Nq16, e16⟩ := hQ16
    have e16 := e16.trans rfl
    have N16 := Fr.app N12 Nq16
    refine Go.of (fun _ k => st16.trans k) ?_
    show Go p e below T16 (mkF m 163 #[.val (.int x0), .val (.int x1), .val (.long x2), .second, .val (.ref ad1), .val (.int ss), .val (.int ee), .val (.ref ad10), .val (.int (fE ss ee)), .val (.int (0 : Int32))] [(.int (fE ss ee)), (.int (fE ss ee))]) _
    refine Go.of (fun _ k => XS.icmpNo X16.here hx rfl (hb hby at_163) rfl (teq (show (fE ss ee) = (fE ss ee) from rfl)).2 k) ?_
    show Go p e below T16 (mkF m 166 #[.val (.int x0), .val (.int x1), .val (.long x2), .second, .val (.ref ad1), .val (.int ss), .val (.int ee), .val (.ref ad10), .val (.int (fE ss ee)), .val (.int (0 : Int32))] []) _
    refine Go.of (fun _ k => XS.iconst X16.here hx rfl (hb hby at_166) k) ?_
    show Go p e below T16 (mkF m 167 #[.val (.int x0), .val (.int x1), .val (.long x2), .second, .val (.ref ad1), .val (.int ss), .val (.int ee), .val (.ref ad10), .val (.int (fE ss ee)), .val (.int (0 : Int32))] [(.int (1 : Int32))]) _
    refine Go.of (fun _ k => XS.goto X16.here hx rfl (pc0 := 167) (pc' := 171) rfl (hb hby at_167) (by decide) (by decide) k) ?_
    show Go p e below T16 (mkF m 171 #[.val (.int x0), .val (.int x1), .val (.long x2), .second, .val (.ref ad1), .val (.int ss), .val (.int ee), .val (.ref ad10), .val (.int (fE ss ee)), .val (.int (0 : Int32))] [(.int (1 : Int32))]) _
    refine Go.retN X16 hx (t := .boolean) hret hlk (by simp) (hb hby at_171) e16 (by decide) (by decide) ?_
    exact ⟨rfl, N16⟩
set_option maxRecDepth 65536 in
set_option maxHeartbeats 40000000 in
theorem comes_1 {Post : Tables → Env → Array Value → State → Outcome → State → Prop} (hpost : ∀ tb e args s v u, (limb_1_1.after args s (.returned v) u = true ∧ limb_1_2.after args s (.returned v) u = true ∧ True) → FrameEnd s (.returned v) u (Jvm.fieldLocs frame_1_writes args s ++ Jvm.arrayLocs frame_1_arrays args s ++ Jvm.staticLocs frame_1_statics s) 16 128 → Post tb e args s (.returned v) u) :
    ArmFor flags0 classFile x code maxLocals ret World_1 tables_1 room_1 Calls_1 rest_1 Pre_1 Post := by
  intro l hfl _ _ p e ha hc hk s m args below hf hA hF happ hP
  obtain ⟨hcalls, hrest, hpre⟩ := hP
  obtain ⟨-, -, -, hnamed, -, -, -, hat⟩ := (Spec.applies_iff hf).mp happ
  obtain ⟨hg, hn⟩ := and_e (Cond.before_iff.mp (show (Jvm.Cond.and given_1 narrow_1).before args s = true from hpre))
  obtain ⟨g1, g2⟩ := and_e hg
  obtain ⟨g3, g4⟩ := and_e g2
  obtain ⟨g5, g6⟩ := and_e g4
  obtain ⟨w0, w1, w2, rfl⟩ : ∃ w0 w1 w2 : Value, args = #[w0, w1, w2] := by
    have hs : args.size = 3 := by simpa [Cond.value, given_1] using g1
    obtain ⟨L⟩ := args
    match L, hs with
    | [w0, w1, w2], _ => exact ⟨w0, w1, w2, rfl⟩
  have hw := fun d (hd : d ∈ tables_1) => atoms_spec (ws := Jvm.Cond.code x code maxLocals ret :: tables_1) hat d (List.mem_cons_of_mem _ hd)
  have hfit : Fit s := fun {y c} hc i hi => by
    obtain ⟨ha, rfl⟩ := Array.getElem?_eq_some_iff.mp hc
    have q := List.all_eq_true.mp ((Array.all_eq_true_iff_forall_mem.mp hF) _ (Array.getElem_mem ha)) i (List.mem_range.mpr hi)
    simpa [Array.getElem?_eq_getElem hi] using q
  obtain ⟨i0, ei0⟩ := is_v g3
  obtain rfl : w0 = (.int i0) := Option.some.inj ei0
  obtain ⟨i1, ei1⟩ := is_v g5
  obtain rfl : w1 = (.int i1) := Option.some.inj ei1
  obtain ⟨i2, ei2⟩ := isL_v g6
  obtain rfl : w2 = (.long i2) := Option.some.inj ei2
  obtain ⟨n0, m0⟩ := and_e hn
  obtain ⟨n1, m1⟩ := and_e m0
  obtain ⟨n2, m2⟩ := and_e m1
  obtain ⟨n3, m3⟩ := and_e m2
  obtain ⟨aE, ea⟩ := exa_v n0
  have EE := Exa.start ea n0
  have SE := Sta.start ea (Or.inr ⟨(hw _ (List.mem_of_getElem? (i := 4) rfl)), (hw _ (List.mem_of_getElem? (i := 23) rfl))⟩)
  have G_end := Fld.start ((fld_at ea).symm.trans (eqv_i (Term.int_eval 0) n1))
  have G_start := Fld.start ((fld_at ea).symm.trans (eqv_i (Term.int_eval 0) n2))
  obtain ⟨a2, e2⟩ := arr_v n3
  obtain ⟨cl2, A2⟩ := Arr.start e2 n3
  have G_bytes := Fld.start ((fld_at ea).symm.trans e2)
  obtain ⟨S2, -⟩ := own_len e2 A2 (eqv_i (Term.int_eval 0) m3)
  obtain ⟨n, o, h1, h2, h3, _, L, rfl, ⟨rfl, N⟩, hq⟩ := rm0 l s _ hw tables_1 i0 i1 i2 aE a2 cl2 s.heap s.heap.size (Nat.le_refl _) (Old.start s) SE EE G_bytes G_start G_end A2 S2 p e ha hc hk s m _ below hf ((Spec.applies_iff_loose hf).mp happ).1 ⟨rfl, State.Warmed39.refl s, rfl⟩ trivial
  refine ⟨n, _, h1, h2, h3, hpost _ _ _ _ _ _ ⟨Cond.after_iff.mpr rfl, Cond.after_iff.mpr (eq_i res_at (Term.int_eval (1)) rfl), trivial⟩ ⟨hq.1, hq.2.1, (hq.2.2.sift fun y hy => Or.inr (N y hy)).mono (by decide) (by decide)⟩⟩
theorem main_1_1 : Claimed_1_1 := comes_1 fun _ _ _ _ _ _ h hF => ⟨h.1, hF⟩
theorem main_1_2 : Claimed_1_2 := comes_1 fun _ _ _ _ _ _ h hF => ⟨h.2.1, hF⟩
end Jvm.Pilot.@@N@@
namespace Jvm.Pilot.@@N@@
open Jvm Jvm.ClassFile Sem Op Lib Jvm.Free Jvm.Stand Jvm.Pilot.@@N@@.Jvm.D
/-! MADE BY PROGRAM (witnessworld.py) out of the Statement's table words and the real class files: 11 classes; the members and pool entries that the words name. The judged class is class 1, her method 1. -/
namespace start1
open Jvm.ClassFile
def u (s : String) : CpInfo := .utf8 (stringToUtf16 s)
/-- a pool by its gaps: so many unusable entries, then the entry; so many at the end -/
def gap : Nat → List CpInfo → List CpInfo
  | 0, r => r
  | n + 1, r => .unusable :: gap n r
def poolList (es : List (Nat × CpInfo)) (last : Nat) : List CpInfo := es.foldr (fun e r => gap e.1 (e.2 :: r)) (gap last [])
def pool (es : List (Nat × CpInfo)) (last : Nat) : Array CpInfo := ⟨poolList es last⟩
def fileOf (pool : Array CpInfo) (this : Nat) (attrs : Array Attribute := #[]) (ms : Array MethodInfo := #[]) (fl : Nat := 33) (sup : Nat := 0) (ifs : Array Nat := #[]) (fds : Array FieldInfo := #[]) : ClassFile where
  minorVersion := 0
  majorVersion := 65
  constantPool := pool
  accessFlags := fl
  thisClass := this
  superClass := sup
  interfaces := ifs
  fields := fds
  methods := ms
  attributes := attrs
def plain (name : String) (sup : Option ClassId) : Class where
  name := name
  kind := .ordinary
  loader := none
  accessFlags := 33
  super := sup
  interfaces := #[]
  cf := none
  fields := #[]
  methods := #[]
  instanceTypes := #[]
  staticTypes := #[]
  resolved := #[]
  callSites := []
  init := .initialized
  statics := none
  mirror := none

def pool0 : Array CpInfo := pool [(5, u "<init>"), (0, u "()V"), (1, .class_ 10), (1, u "java/lang/Object")] 113

def k0c0 : Code := { maxStack := 0, maxLocals := 1, code := object_method_1_code, exceptionTable := #[], attributes := #[] }
def k0m0 : Method := { name := "<init>", desc := "()V", sig := { parameters := [], returnType := none }, accessFlags := 1, code := some k0c0 }
/-- java/lang/Object -/
def k0 : Class := { plain "java/lang/Object" none with
  accessFlags := 33
  interfaces := #[]
  cf := some (fileOf pool0 8 #[] #[{ accessFlags := 1, nameIndex := 5, descriptorIndex := 6, attributes := #[] }] 33 0 #[] #[])
  fields := #[]
  methods := #[k0m0]
  instanceTypes := #[]
  staticTypes := #[]
  resolved := Array.replicate 124 none
  statics := none }

def pool1 : Array CpInfo := pool [(2, .class_ 4), (1, u "java/lang/Object"), (0, u "<init>"), (0, u "()V"), (0, .integer 2147483647), (0, .class_ 9), (0, u "com/example/cascadex/cascadex/Utf8"), (0, .methodref 8 11), (0, .nameAndType 5 12), (0, u "([BII)V"), (0, .methodref 8 14), (0, .nameAndType 15 16), (0, u "isEmpty"), (0, u "()Z"), (0, .fieldref 8 18), (0, .nameAndType 19 20), (0, u "EMPTY"), (0, u "Lcom/example/cascadex/cascadex/Utf8;"), (0, .methodref 8 22), (0, .nameAndType 23 24), (0, u "equals"), (0, u "(Ljava/lang/Object;)Z"), (0, .class_ 26), (0, u "com/example/cascadex/cascadex/Utf8IsEmptyPinLaw"), (2, u "law"), (0, u "(IIJ)Z")] 5

def k1m0 : Method := { name := "<init>", desc := "()V", sig := { parameters := [], returnType := none }, accessFlags := 1, code := none }
def k1c1 : Code := { maxStack := 5, maxLocals := 10, code := code, exceptionTable := #[], attributes := #[] }
def k1m1 : Method := { name := "law", desc := "(IIJ)Z", sig := { parameters := [.int, .int, .long], returnType := some .boolean }, accessFlags := 9, code := some k1c1 }
/-- com/example/cascadex/cascadex/Utf8IsEmptyPinLaw -/
def k1 : Class := { plain "com/example/cascadex/cascadex/Utf8IsEmptyPinLaw" (some 0) with
  accessFlags := 49
  interfaces := #[]
  cf := some (fileOf pool1 25 #[] #[{ accessFlags := 1, nameIndex := 5, descriptorIndex := 6, attributes := #[] }, { accessFlags := 9, nameIndex := 29, descriptorIndex := 30, attributes := #[] }] 49 2 #[] #[])
  fields := #[]
  methods := #[k1m0, k1m1]
  instanceTypes := #[]
  staticTypes := #[]
  resolved := Array.replicate 36 none
  statics := none }

def pool2 : Array CpInfo := pool [(1, .methodref 2 3), (0, .class_ 4), (0, .nameAndType 5 6), (0, u "java/lang/Object"), (0, u "<init>"), (0, u "()V"), (0, .fieldref 8 9), (0, .class_ 10), (0, .nameAndType 11 12), (0, u "com/example/cascadex/cascadex/Utf8"), (0, u "bytes"), (0, u "[B"), (0, .fieldref 8 14), (0, .nameAndType 15 16), (0, u "start"), (0, u "I"), (0, .fieldref 8 18), (0, .nameAndType 19 16), (0, u "end"), (14, u "([BII)V"), (2, u "decoded"), (0, u "Ljava/lang/String;"), (11, u "()Z"), (19, .methodref 71 72), (0, .class_ 73), (0, .nameAndType 74 75), (0, u "java/util/Arrays"), (0, u "equals"), (0, u "([BII[BII)Z"), (2, u "hash"), (2, u "EMPTY"), (0, u "Lcom/example/cascadex/cascadex/Utf8;"), (12, u "isEmpty"), (2, u "(Ljava/lang/Object;)Z")] 4

def k2c0 : Code := { maxStack := 2, maxLocals := 4, code := prog_95_method_1_code, exceptionTable := #[], attributes := #[] }
def k2m0 : Method := { name := "<init>", desc := "([BII)V", sig := { parameters := [(.array .byte), .int, .int], returnType := none }, accessFlags := 0, code := some k2c0 }
def k2c1 : Code := { maxStack := 2, maxLocals := 1, code := prog_95_method_7_code, exceptionTable := #[], attributes := #[] }
def k2m1 : Method := { name := "isEmpty", desc := "()Z", sig := { parameters := [], returnType := some .boolean }, accessFlags := 0, code := some k2c1 }
def k2c2 : Code := { maxStack := 6, maxLocals := 3, code := prog_95_method_9_code, exceptionTable := #[], attributes := #[] }
def k2m2 : Method := { name := "equals", desc := "(Ljava/lang/Object;)Z", sig := { parameters := [(.object "java/lang/Object")], returnType := some .boolean }, accessFlags := 1, code := some k2c2 }
/-- com/example/cascadex/cascadex/Utf8 -/
def k2 : Class := { plain "com/example/cascadex/cascadex/Utf8" (some 0) with
  accessFlags := 48
  interfaces := #[]
  cf := some (fileOf pool2 8 #[] #[{ accessFlags := 0, nameIndex := 5, descriptorIndex := 34, attributes := #[] }, { accessFlags := 0, nameIndex := 95, descriptorIndex := 50, attributes := #[] }, { accessFlags := 1, nameIndex := 74, descriptorIndex := 98, attributes := #[] }] 48 2 #[] #[{ accessFlags := 24, nameIndex := 81, descriptorIndex := 82, attributes := #[] }, { accessFlags := 18, nameIndex := 11, descriptorIndex := 12, attributes := #[] }, { accessFlags := 18, nameIndex := 15, descriptorIndex := 16, attributes := #[] }, { accessFlags := 18, nameIndex := 19, descriptorIndex := 16, attributes := #[] }, { accessFlags := 2, nameIndex := 37, descriptorIndex := 38, attributes := #[] }, { accessFlags := 2, nameIndex := 78, descriptorIndex := 16, attributes := #[] }])
  fields := #[{ name := "EMPTY", type := (.object "com/example/cascadex/cascadex/Utf8"), accessFlags := 24, slot := 0, constantValue := 0 }, { name := "bytes", type := (.array .byte), accessFlags := 18, slot := 0, constantValue := 0 }, { name := "start", type := .int, accessFlags := 18, slot := 1, constantValue := 0 }, { name := "end", type := .int, accessFlags := 18, slot := 2, constantValue := 0 }, { name := "decoded", type := (.object "java/lang/String"), accessFlags := 2, slot := 3, constantValue := 0 }, { name := "hash", type := .int, accessFlags := 2, slot := 4, constantValue := 0 }]
  methods := #[k2m0, k2m1, k2m2]
  instanceTypes := #[(.array .byte), .int, .int, (.object "java/lang/String"), .int]
  staticTypes := #[(.object "com/example/cascadex/cascadex/Utf8")]
  resolved := Array.replicate 103 none
  statics := some 0 }

def pool3 : Array CpInfo := pool [(2, .class_ 4), (1, u "java/lang/Object"), (0, u "<init>"), (0, u "()V"), (6, .methodref 14 15), (0, .class_ 16), (0, .nameAndType 17 18), (0, u "java/util/Arrays"), (0, u "rangeCheck"), (0, u "(III)V"), (55, .class_ 76), (1, u "java/util/Arrays$NaturalOrder"), (36, .class_ 115), (1, u "java/util/Arrays$LegacyMergeSort"), (1, u "Z"), (128, .class_ 248), (1, u "jdk/internal/util/ArraysSupport"), (0, u "mismatch"), (25, .methodref 246 276), (0, .nameAndType 249 277), (0, u "([BI[BII)I"), (20, u "equals"), (76, .class_ 376), (0, u "java/util/Arrays$ArrayList"), (68, u "$assertionsDisabled"), (269, u "MIN_ARRAY_SORT_GRAN"), (0, u "I"), (2, u "INSERTIONSORT_THRESHOLD"), (111, u "([BII[BII)Z"), (143, .class_ 976), (0, u "java/util/Arrays$ArrayItr")] 52

def k3m0 : Method := { name := "<init>", desc := "()V", sig := { parameters := [], returnType := none }, accessFlags := 2, code := none }
def k3c1 : Code := { maxStack := 4, maxLocals := 3, code := jdk_65_method_30_code, exceptionTable := #[], attributes := #[] }
def k3m1 : Method := { name := "rangeCheck", desc := "(III)V", sig := { parameters := [.int, .int, .int], returnType := none }, accessFlags := 8, code := some k3c1 }
def k3c2 : Code := { maxStack := 5, maxLocals := 8, code := jdk_65_method_90_code, exceptionTable := #[], attributes := #[] }
def k3m2 : Method := { name := "equals", desc := "([BII[BII)Z", sig := { parameters := [(.array .byte), .int, .int, (.array .byte), .int, .int], returnType := some .boolean }, accessFlags := 9, code := some k3c2 }
/-- java/util/Arrays -/
def k3 : Class := { plain "java/util/Arrays" (some 0) with
  accessFlags := 49
  interfaces := #[]
  cf := some (fileOf pool3 14 #[.nestMembers #[975, 375, 113, 74]] #[{ accessFlags := 2, nameIndex := 5, descriptorIndex := 6, attributes := #[] }, { accessFlags := 8, nameIndex := 17, descriptorIndex := 18, attributes := #[] }, { accessFlags := 9, nameIndex := 298, descriptorIndex := 831, attributes := #[] }] 49 2 #[] #[{ accessFlags := 26, nameIndex := 715, descriptorIndex := 716, attributes := #[] }, { accessFlags := 26, nameIndex := 719, descriptorIndex := 716, attributes := #[] }, { accessFlags := 4120, nameIndex := 445, descriptorIndex := 117, attributes := #[] }])
  fields := #[{ name := "MIN_ARRAY_SORT_GRAN", type := .int, accessFlags := 26, slot := 0, constantValue := 0 }, { name := "INSERTIONSORT_THRESHOLD", type := .int, accessFlags := 26, slot := 1, constantValue := 0 }, { name := "$assertionsDisabled", type := .boolean, accessFlags := 4120, slot := 2, constantValue := 0 }]
  methods := #[k3m0, k3m1, k3m2]
  instanceTypes := #[]
  staticTypes := #[.int, .int, .boolean]
  resolved := Array.replicate 1029 none
  statics := none }

def pool4 : Array CpInfo := pool [(9, u "<init>"), (6, .class_ 18), (1, u "java/lang/Object"), (0, u "()V"), (1, .class_ 23), (1, u "jdk/internal/util/ArraysSupport"), (0, u "LOG2_ARRAY_LONG_INDEX_SCALE"), (0, u "I"), (2, u "U"), (0, u "Ljdk/internal/misc/Unsafe;"), (8, u "BIG_ENDIAN"), (0, u "Z"), (8, u "LOG2_BYTE_BIT_SIZE"), (4, u "LOG2_ARRAY_INT_INDEX_SCALE"), (54, u "JLA"), (0, u "Ljdk/internal/access/JavaLangAccess;"), (11, u "LOG2_ARRAY_BOOLEAN_INDEX_SCALE"), (9, u "LOG2_ARRAY_BYTE_INDEX_SCALE"), (5, u "LOG2_ARRAY_CHAR_INDEX_SCALE"), (5, u "LOG2_ARRAY_SHORT_INDEX_SCALE"), (5, u "mismatch"), (12, u "LOG2_ARRAY_FLOAT_INDEX_SCALE"), (24, u "LOG2_ARRAY_DOUBLE_INDEX_SCALE"), (89, u "T_BOOLEAN"), (2, u "T_CHAR"), (1, u "T_FLOAT"), (1, u "T_DOUBLE"), (1, u "T_BYTE"), (1, u "T_SHORT"), (1, u "T_INT"), (1, u "T_LONG"), (1, u "SOFT_MAX_ARRAY_LENGTH"), (42, u "([BI[BII)I")] 40

def k4m0 : Method := { name := "<init>", desc := "()V", sig := { parameters := [], returnType := none }, accessFlags := 2, code := none }
def k4c1 : Code := { maxStack := 8, maxLocals := 8, code := jdk_48_method_14_code, exceptionTable := #[], attributes := #[] }
def k4m1 : Method := { name := "mismatch", desc := "([BI[BII)I", sig := { parameters := [(.array .byte), .int, (.array .byte), .int, .int], returnType := some .int }, accessFlags := 9, code := some k4c1 }
/-- jdk/internal/util/ArraysSupport -/
def k4 : Class := { plain "jdk/internal/util/ArraysSupport" (some 0) with
  accessFlags := 33
  interfaces := #[]
  cf := some (fileOf pool4 21 #[] #[{ accessFlags := 2, nameIndex := 9, descriptorIndex := 19, attributes := #[] }, { accessFlags := 9, nameIndex := 149, descriptorIndex := 337, attributes := #[] }] 33 16 #[] #[{ accessFlags := 24, nameIndex := 28, descriptorIndex := 29, attributes := #[] }, { accessFlags := 26, nameIndex := 38, descriptorIndex := 39, attributes := #[] }, { accessFlags := 25, nameIndex := 121, descriptorIndex := 25, attributes := #[] }, { accessFlags := 25, nameIndex := 131, descriptorIndex := 25, attributes := #[] }, { accessFlags := 25, nameIndex := 137, descriptorIndex := 25, attributes := #[] }, { accessFlags := 25, nameIndex := 143, descriptorIndex := 25, attributes := #[] }, { accessFlags := 25, nameIndex := 53, descriptorIndex := 25, attributes := #[] }, { accessFlags := 25, nameIndex := 24, descriptorIndex := 25, attributes := #[] }, { accessFlags := 25, nameIndex := 162, descriptorIndex := 25, attributes := #[] }, { accessFlags := 25, nameIndex := 187, descriptorIndex := 25, attributes := #[] }, { accessFlags := 26, nameIndex := 48, descriptorIndex := 25, attributes := #[] }, { accessFlags := 25, nameIndex := 277, descriptorIndex := 25, attributes := #[] }, { accessFlags := 25, nameIndex := 280, descriptorIndex := 25, attributes := #[] }, { accessFlags := 25, nameIndex := 282, descriptorIndex := 25, attributes := #[] }, { accessFlags := 25, nameIndex := 284, descriptorIndex := 25, attributes := #[] }, { accessFlags := 25, nameIndex := 286, descriptorIndex := 25, attributes := #[] }, { accessFlags := 25, nameIndex := 288, descriptorIndex := 25, attributes := #[] }, { accessFlags := 25, nameIndex := 290, descriptorIndex := 25, attributes := #[] }, { accessFlags := 25, nameIndex := 292, descriptorIndex := 25, attributes := #[] }, { accessFlags := 26, nameIndex := 108, descriptorIndex := 109, attributes := #[] }, { accessFlags := 25, nameIndex := 294, descriptorIndex := 25, attributes := #[] }])
  fields := #[{ name := "U", type := (.object "jdk/internal/misc/Unsafe"), accessFlags := 24, slot := 0, constantValue := 0 }, { name := "BIG_ENDIAN", type := .boolean, accessFlags := 26, slot := 1, constantValue := 0 }, { name := "LOG2_ARRAY_BOOLEAN_INDEX_SCALE", type := .int, accessFlags := 25, slot := 2, constantValue := 0 }, { name := "LOG2_ARRAY_BYTE_INDEX_SCALE", type := .int, accessFlags := 25, slot := 3, constantValue := 0 }, { name := "LOG2_ARRAY_CHAR_INDEX_SCALE", type := .int, accessFlags := 25, slot := 4, constantValue := 0 }, { name := "LOG2_ARRAY_SHORT_INDEX_SCALE", type := .int, accessFlags := 25, slot := 5, constantValue := 0 }, { name := "LOG2_ARRAY_INT_INDEX_SCALE", type := .int, accessFlags := 25, slot := 6, constantValue := 0 }, { name := "LOG2_ARRAY_LONG_INDEX_SCALE", type := .int, accessFlags := 25, slot := 7, constantValue := 0 }, { name := "LOG2_ARRAY_FLOAT_INDEX_SCALE", type := .int, accessFlags := 25, slot := 8, constantValue := 0 }, { name := "LOG2_ARRAY_DOUBLE_INDEX_SCALE", type := .int, accessFlags := 25, slot := 9, constantValue := 0 }, { name := "LOG2_BYTE_BIT_SIZE", type := .int, accessFlags := 26, slot := 10, constantValue := 0 }, { name := "T_BOOLEAN", type := .int, accessFlags := 25, slot := 11, constantValue := 0 }, { name := "T_CHAR", type := .int, accessFlags := 25, slot := 12, constantValue := 0 }, { name := "T_FLOAT", type := .int, accessFlags := 25, slot := 13, constantValue := 0 }, { name := "T_DOUBLE", type := .int, accessFlags := 25, slot := 14, constantValue := 0 }, { name := "T_BYTE", type := .int, accessFlags := 25, slot := 15, constantValue := 0 }, { name := "T_SHORT", type := .int, accessFlags := 25, slot := 16, constantValue := 0 }, { name := "T_INT", type := .int, accessFlags := 25, slot := 17, constantValue := 0 }, { name := "T_LONG", type := .int, accessFlags := 25, slot := 18, constantValue := 0 }, { name := "JLA", type := (.object "jdk/internal/access/JavaLangAccess"), accessFlags := 26, slot := 19, constantValue := 0 }, { name := "SOFT_MAX_ARRAY_LENGTH", type := .int, accessFlags := 25, slot := 20, constantValue := 0 }]
  methods := #[k4m0, k4m1]
  instanceTypes := #[]
  staticTypes := #[(.object "jdk/internal/misc/Unsafe"), .boolean, .int, .int, .int, .int, .int, .int, .int, .int, .int, .int, .int, .int, .int, .int, .int, .int, .int, (.object "jdk/internal/access/JavaLangAccess"), .int]
  resolved := Array.replicate 378 none
  statics := none }

def pool5 : Array CpInfo := pool [(1, u "java/lang/Cloneable"), (0, .class_ 1), (0, u "java/lang/Object"), (0, .class_ 3)] 3

/-- java/lang/Cloneable -/
def k5 : Class := { plain "java/lang/Cloneable" (some 0) with
  accessFlags := 1537
  interfaces := #[]
  cf := some (fileOf pool5 2 #[] #[] 1537 4 #[] #[])
  fields := #[]
  methods := #[]
  instanceTypes := #[]
  staticTypes := #[]
  resolved := Array.replicate 8 none
  statics := none }

def pool6 : Array CpInfo := pool [(1, u "java/io/Serializable"), (0, .class_ 1), (0, u "java/lang/Object"), (0, .class_ 3)] 3

/-- java/io/Serializable -/
def k6 : Class := { plain "java/io/Serializable" (some 0) with
  accessFlags := 1537
  interfaces := #[]
  cf := some (fileOf pool6 2 #[] #[] 1537 4 #[] #[])
  fields := #[]
  methods := #[]
  instanceTypes := #[]
  staticTypes := #[]
  resolved := Array.replicate 8 none
  statics := none }

/-- the primitive byte -/
def k7 : Class := { plain "byte" none with kind := .primitive 'B', accessFlags := 0x411 }
/-- [B -/
def k8 : Class := { plain "[B" (some 0) with kind := .array 7 .byte, interfaces := #[5, 6], accessFlags := 1041 }

/-- the primitive int -/
def k9 : Class := { plain "int" none with kind := .primitive 'I', accessFlags := 0x411 }
/-- [I -/
def k10 : Class := { plain "[I" (some 0) with kind := .array 9 .int, interfaces := #[5, 6], accessFlags := 1041 }

def heap : Heap := #[{ cls := 2, slots := #[.ref 2], vm := .statics 2 },
  { cls := 8, slots := #[], vm := .none },
  { cls := 2, slots := #[.ref 1, .int 0, .int 0, .null, .int 0], vm := .none }]
def classes : Array Class := #[k0, k1, k2, k3, k4, k5, k6, k7, k8, k9, k10]
def interned : List (Array UInt16 × Addr) := []
def slotsUsed : Nat := 6
def theMethod : MethodId := ⟨1, 1⟩
def args0 : Array Value := #[.int 5, .int 7, .long 9]
def aboutOver (below : List Frame) : State where
  vm := { classes := classes, interned := interned.toArray }
  heap := heap
  slotsUsed := slotsUsed
  threads := #[{ frames := .invoking theMethod args0 :: below }]
def below0 : List Frame := [.native { method := ⟨0, 0⟩, args := #[] }]
def about1 : State := aboutOver below0
def p0 : Program := .bare "" "" ""
def e0 : Env := launch0.env 0 0 0
theorem w_frames : about1.frames = Frame.invoking theMethod args0 :: below0 := rfl
set_option maxRecDepth 65536 in
theorem w_args : argsFit about1.vm theMethod args0 = true := by decide +kernel
set_option maxRecDepth 65536 in
theorem w_heap : heapFits about1 = true := by decide +kernel
set_option maxRecDepth 65536 in
theorem w_runnable : about1.curStatus? = some .runnable := by decide +kernel
set_option maxRecDepth 65536 in
theorem w_alone : about1.alone = true := by decide +kernel
set_option maxRecDepth 65536 in
theorem w_named : about1.methodNamed? x = some theMethod := by decide +kernel
set_option maxRecDepth 65536 in
theorem w_hears : about1.hears theMethod below0 = true := by decide +kernel
set_option maxRecDepth 65536 in
theorem w_ripe : about1.ripe theMethod args0 below0 = true := by decide +kernel
theorem w_running : about1.status = .running := rfl
set_option maxRecDepth 65536 in
theorem w_room : about1.hasRoom e0.platform room_1 = true :=
  launch0.hasRoom_least _ room_1 (by decide +kernel) (by decide +kernel) (by decide +kernel) (by decide +kernel) (by decide +kernel) (by decide +kernel)
theorem allAtoms_all (ts : List Jvm.Cond) (a : Array Jvm.Value) (st : Jvm.State) : (allAtoms ts).before a st = ts.all (fun c => c.before a st) := by
  induction ts with
  | nil => rfl
  | cons c t ih =>
    show (Jvm.Cond.and c (allAtoms t)).before a st = _
    rw [Jvm.Cond.before_and, ih, List.all_cons]
def words1 : List Jvm.Cond := Jvm.Cond.code x code maxLocals ret :: tables_1
/-- a 'code' word, met by the world's own term for the bytes: nothing is compared byte by byte -/
theorem code_word {y : MethodName} {bytes : ByteArray} {mx : Nat} {rt : Option FieldType} {a : Array Value} {s : State} {m : MethodId} {meth : Method} {c : Code} (h1 : s.methodNamed? y = some m) (h2 : s.vm.method? m = some meth) (h3 : meth.code = some c) (h4 : c.code = bytes)
    (h5 : (c.maxLocals == mx && c.exceptionTable.isEmpty && decide (c.maxStack ≤ mostOperands) && decide (meth.sig.returnType = rt) && !meth.locks && decide (parseMethodDescriptor y.desc = some meth.sig)) = true) : (Jvm.Cond.code y bytes mx rt).before a s = true := by
  simp only [Bool.and_eq_true, beq_iff_eq, Bool.not_eq_true', decide_eq_true_eq] at h5
  obtain ⟨⟨⟨⟨⟨g1, g2⟩, g3⟩, g4⟩, g5⟩, g6⟩ := h5
  simp [Cond.before, Cond.holds, Cond.value, h1, h2, h3, h4, g1, g2, g3, g4, g5, g6]
def isCode : Jvm.Cond → Bool
  | .code _ _ _ _ => true
  | _ => false
theorem all_split {L : List Jvm.Cond} {P : Jvm.Cond → Bool} (h1 : L.all (fun c => isCode c || P c) = true) (h2 : ∀ c ∈ L.filter isCode, P c = true) : L.all P = true := by
  refine List.all_eq_true.mpr fun c hc => ?_
  have h := List.all_eq_true.mp h1 c hc
  rcases Bool.eq_false_or_eq_true (isCode c) with hi | hi
  · exact h2 c (List.mem_filter.mpr ⟨hc, hi⟩)
  · simpa [hi] using h
set_option maxRecDepth 65536 in
theorem w_c0 : (Jvm.Cond.code x code maxLocals ret).before args0 about1 = true := code_word (m := ⟨1, 1⟩) (meth := k1m1) (c := k1c1) (by decide +kernel) rfl rfl rfl (by decide +kernel)
set_option maxRecDepth 65536 in
theorem w_c1 : (Jvm.Cond.code ({ cls := "com/example/cascadex/cascadex/Utf8", name := "<init>", desc := "([BII)V" } : Jvm.MethodName) prog_95_method_1_code (4 : Nat) (Option.none : Option Jvm.ClassFile.FieldType)).before args0 about1 = true := code_word (m := ⟨2, 0⟩) (meth := k2m0) (c := k2c0) (by decide +kernel) rfl rfl rfl (by decide +kernel)
set_option maxRecDepth 65536 in
theorem w_c2 : (Jvm.Cond.code ({ cls := "java/lang/Object", name := "<init>", desc := "()V" } : Jvm.MethodName) object_method_1_code (1 : Nat) (Option.none : Option Jvm.ClassFile.FieldType)).before args0 about1 = true := code_word (m := ⟨0, 0⟩) (meth := k0m0) (c := k0c0) (by decide +kernel) rfl rfl rfl (by decide +kernel)
set_option maxRecDepth 65536 in
theorem w_c3 : (Jvm.Cond.code ({ cls := "com/example/cascadex/cascadex/Utf8", name := "isEmpty", desc := "()Z" } : Jvm.MethodName) prog_95_method_7_code (1 : Nat) (Option.some Jvm.ClassFile.FieldType.boolean)).before args0 about1 = true := code_word (m := ⟨2, 1⟩) (meth := k2m1) (c := k2c1) (by decide +kernel) rfl rfl rfl (by decide +kernel)
set_option maxRecDepth 65536 in
theorem w_c4 : (Jvm.Cond.code ({ cls := "com/example/cascadex/cascadex/Utf8", name := "equals", desc := "(Ljava/lang/Object;)Z" } : Jvm.MethodName) prog_95_method_9_code (3 : Nat) (Option.some Jvm.ClassFile.FieldType.boolean)).before args0 about1 = true := code_word (m := ⟨2, 2⟩) (meth := k2m2) (c := k2c2) (by decide +kernel) rfl rfl rfl (by decide +kernel)
set_option maxRecDepth 65536 in
theorem w_c5 : (Jvm.Cond.code ({ cls := "java/util/Arrays", name := "equals", desc := "([BII[BII)Z" } : Jvm.MethodName) jdk_65_method_90_code (8 : Nat) (Option.some Jvm.ClassFile.FieldType.boolean)).before args0 about1 = true := code_word (m := ⟨3, 2⟩) (meth := k3m2) (c := k3c2) (by decide +kernel) rfl rfl rfl (by decide +kernel)
set_option maxRecDepth 65536 in
theorem w_c6 : (Jvm.Cond.code ({ cls := "java/util/Arrays", name := "rangeCheck", desc := "(III)V" } : Jvm.MethodName) jdk_65_method_30_code (3 : Nat) (Option.none : Option Jvm.ClassFile.FieldType)).before args0 about1 = true := code_word (m := ⟨3, 1⟩) (meth := k3m1) (c := k3c1) (by decide +kernel) rfl rfl rfl (by decide +kernel)
set_option maxRecDepth 65536 in
theorem w_c7 : (Jvm.Cond.code ({ cls := "jdk/internal/util/ArraysSupport", name := "mismatch", desc := "([BI[BII)I" } : Jvm.MethodName) jdk_48_method_14_code (8 : Nat) (Option.some Jvm.ClassFile.FieldType.int)).before args0 about1 = true := code_word (m := ⟨4, 1⟩) (meth := k4m1) (c := k4c1) (by decide +kernel) rfl rfl rfl (by decide +kernel)
def codes1 : List Jvm.Cond := [Jvm.Cond.code x code maxLocals ret, Jvm.Cond.code ({ cls := "com/example/cascadex/cascadex/Utf8", name := "<init>", desc := "([BII)V" } : Jvm.MethodName) prog_95_method_1_code (4 : Nat) (Option.none : Option Jvm.ClassFile.FieldType), Jvm.Cond.code ({ cls := "java/lang/Object", name := "<init>", desc := "()V" } : Jvm.MethodName) object_method_1_code (1 : Nat) (Option.none : Option Jvm.ClassFile.FieldType), Jvm.Cond.code ({ cls := "com/example/cascadex/cascadex/Utf8", name := "isEmpty", desc := "()Z" } : Jvm.MethodName) prog_95_method_7_code (1 : Nat) (Option.some Jvm.ClassFile.FieldType.boolean), Jvm.Cond.code ({ cls := "com/example/cascadex/cascadex/Utf8", name := "equals", desc := "(Ljava/lang/Object;)Z" } : Jvm.MethodName) prog_95_method_9_code (3 : Nat) (Option.some Jvm.ClassFile.FieldType.boolean), Jvm.Cond.code ({ cls := "java/util/Arrays", name := "equals", desc := "([BII[BII)Z" } : Jvm.MethodName) jdk_65_method_90_code (8 : Nat) (Option.some Jvm.ClassFile.FieldType.boolean), Jvm.Cond.code ({ cls := "java/util/Arrays", name := "rangeCheck", desc := "(III)V" } : Jvm.MethodName) jdk_65_method_30_code (3 : Nat) (Option.none : Option Jvm.ClassFile.FieldType), Jvm.Cond.code ({ cls := "jdk/internal/util/ArraysSupport", name := "mismatch", desc := "([BI[BII)I" } : Jvm.MethodName) jdk_48_method_14_code (8 : Nat) (Option.some Jvm.ClassFile.FieldType.int)]
set_option maxRecDepth 65536 in
theorem codes_eq : words1.filter isCode = codes1 := rfl
theorem w_codes : ∀ c ∈ words1.filter isCode, c.before args0 about1 = true := by
  rw [codes_eq]
  intro c hc
  simp only [codes1, List.mem_cons, List.not_mem_nil, or_false] at hc
  rcases hc with rfl | rfl | rfl | rfl | rfl | rfl | rfl | rfl
  · exact w_c0
  · exact w_c1
  · exact w_c2
  · exact w_c3
  · exact w_c4
  · exact w_c5
  · exact w_c6
  · exact w_c7
set_option maxRecDepth 65536 in
theorem w_t1 : (words1.take 24).all (fun c => isCode c || c.before args0 about1) = true := by decide +kernel
set_option maxRecDepth 65536 in
theorem w_t2 : (words1.drop 24).all (fun c => isCode c || c.before args0 about1) = true := by decide +kernel
theorem w_tables : (allAtoms (Jvm.Cond.code x code maxLocals ret :: tables_1)).before args0 about1 = true := by
  rw [allAtoms_all]
  show words1.all (fun c => c.before args0 about1) = true
  refine all_split ?_ w_codes
  rw [← List.take_append_drop 24 words1, List.all_append, w_t1, w_t2]
  rfl
set_option maxRecDepth 65536 in
theorem w_case : (Jvm.Cond.and given_1 narrow_1).before args0 about1 = true := by decide +kernel
theorem w_applies : (headSpec (Jvm.Cond.code x code maxLocals ret :: tables_1) room_1).applies x e0.platform about1 = true :=
  (Spec.applies_iff w_frames).mpr ⟨w_running, w_runnable, w_alone, w_named, w_hears, w_ripe, w_room, w_tables⟩
theorem atStart : AtStart classFile x code maxLocals ret World_1 tables_1 room_1 Calls_1 rest_1 Pre_1 launch0 p0 e0 about1 theMethod args0 below0 :=
  ⟨lists_1, trivial, launch0.admits_env _ _ _, launch0.least_env, fairChoices_fair.cas, fairChoices_fair.clock, w_frames, w_args, w_heap, w_applies, trivial, trivial, w_case⟩
end start1
theorem witness_1 : WitnessClaimed_1 := ⟨start1.p0, start1.e0, start1.about1, start1.theMethod, start1.args0, start1.below0, start1.atStart⟩
end Jvm.Pilot.@@N@@
