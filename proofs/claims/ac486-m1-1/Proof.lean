import JvmDerived
import JvmDerived.Pilot.@@N@@Statement
import JvmDerived.Pilot.@@N@@Code
set_option linter.unusedVariables false
set_option linter.unusedSimpArgs false
@@BLOCK:NumsL.lean.txt@@
namespace Jvm.Pilot.@@N@@
open Jvm Jvm.ClassFile Sem Op Lib Jvm.Free Jvm.Stand Jvm.LawKit Jvm.RoadKit Bundle Jvm.Pilot.@@N@@.Jvm.D
section own_kit
variable {p : Program} {l : Launch} {e : Env} {R : Room} {s : State} {m : MethodId} {args : Array Value} {below : List Frame} {meth : Method} {c : Code} {T T' : State} {locs : List Loc} {cells slots : Nat}
/-- from the frame g over the state T the run comes to an end of which K speaks -/
def Go (p : Program) (e : Env) (below : List Frame) (T : State) (g : JFrame) (K : Outcome → State → Prop) : Prop :=
  ∃ s₂ o, Steps p.tables e below (T.setTop g) s₂ ∧ s₂.status = .running ∧ Ended s₂ below o ∧ K o s₂
def KQ (s : State) (Q : Option Value → Heap → List Loc → Prop) (k n : Nat) (o : Outcome) (U : State) : Prop :=
  ∃ v L, o = .returned v ∧ Q v U.heap L ∧ FrameEnd s o U L k n
theorem Go.of {g g' : JFrame} {K : Outcome → State → Prop} (h : ∀ t, Steps p.tables e below (T'.setTop g') t → Steps p.tables e below (T.setTop g) t) (k : Go p e below T' g' K) : Go p e below T g K := by
  obtain ⟨s₂, o, h1, h2⟩ := k
  exact ⟨s₂, o, h _ h1, h2⟩
theorem Go.cast {g g' : JFrame} {K : Outcome → State → Prop} (q : g = g') (k : Go p e below T g' K) : Go p e below T g K := q ▸ k
theorem Go.ret0 (X : Stand p l e R s m args below meth c T locs cells slots) (hx : p.tables.exec = Jvm.exec) (hret : meth.sig.returnType = none) (hlk : meth.locks = false) {pc : Nat} {Ls : Array Slot} {Q : Option Value → Heap → List Loc → Prop} {k n : Nat} {h : Heap}
    (hd : decode c.code pc = .ok (.return_, 1)) (eT : T.heap = h) (hk : cells ≤ k) (hn : slots ≤ n) (hq : Q none h locs) : Go p e below T (mkF m pc Ls []) (KQ s Q k n) := by
  obtain ⟨fs, hr, hrun, hended, hW, hsame⟩ := X.leave (v := none) (fun _ => rfl) hlk
  exact ⟨_, _, X.returnOut hx hret hd hr, hrun, hended, _, _, rfl, by show Q none T.heap _; rw [eT]; exact hq, ⟨_, rfl⟩, hW, hsame.mono hk hn⟩
theorem Go.retV (X : Stand p l e R s m args below meth c T locs cells slots) (hx : p.tables.exec = Jvm.exec) {t : FieldType} {w : Value} {i : Instr} {rest : List Value} (hret : meth.sig.returnType = some t) (hlk : meth.locks = false) {pc : Nat} {Ls : Array Slot} {Q : Option Value → Heap → List Loc → Prop} {k n : Nat} {h : Heap} (hn0 : narrow t w = w)
    (hi : (i = .ireturn ∧ (t = .int ∨ t = .boolean ∨ t = .byte ∨ t = .char ∨ t = .short) ∧ ∃ z, w = .int z) ∨ (i = .lreturn ∧ t = .long ∧ ∃ z, w = .long z) ∨ (i = .dreturn ∧ t = .double ∧ ∃ z, w = .double z) ∨ (i = .freturn ∧ t = .float ∧ ∃ z, w = .float z) ∨ (i = .areturn ∧ t.isReference = true ∧ w.isRef = true))
    (hd : decode c.code pc = .ok (i, 1)) (eT : T.heap = h) (hk : cells ≤ k) (hn : slots ≤ n) (hq : Q (some w) h locs) : Go p e below T (mkF m pc Ls (w :: rest)) (KQ s Q k n) := by
  obtain ⟨fs, hr, hrun, hended, hW, hsame⟩ := X.leave (v := some w) (fun h => by rw [hret] at h; cases h) hlk
  exact ⟨_, _, retOut X hx hret hn0 hi hd hr, hrun, hended, _, _, rfl, by show Q (some w) T.heap _; rw [eT]; exact hq, ⟨_, rfl⟩, hW, hsame.mono hk hn⟩
theorem Go.retI (X : Stand p l e R s m args below meth c T locs cells slots) (hx : p.tables.exec = Jvm.exec) {z : Int32} {rest : List Value} (hret : meth.sig.returnType = some .int) (hlk : meth.locks = false) {pc : Nat} {Ls : Array Slot} {Q : Option Value → Heap → List Loc → Prop} {k n : Nat} {h : Heap}
    (hd : decode c.code pc = .ok (.ireturn, 1)) (eT : T.heap = h) (hk : cells ≤ k) (hn : slots ≤ n) (hq : Q (some (.int z)) h locs) : Go p e below T (mkF m pc Ls (.int z :: rest)) (KQ s Q k n) :=
  Go.retV X hx hret hlk rfl (Or.inl ⟨rfl, Or.inl rfl, z, rfl⟩) hd eT hk hn hq
theorem Go.retJ (X : Stand p l e R s m args below meth c T locs cells slots) (hx : p.tables.exec = Jvm.exec) {z : Int64} {rest : List Value} (hret : meth.sig.returnType = some .long) (hlk : meth.locks = false) {pc : Nat} {Ls : Array Slot} {Q : Option Value → Heap → List Loc → Prop} {k n : Nat} {h : Heap}
    (hd : decode c.code pc = .ok (.lreturn, 1)) (eT : T.heap = h) (hk : cells ≤ k) (hn : slots ≤ n) (hq : Q (some (.long z)) h locs) : Go p e below T (mkF m pc Ls (.long z :: rest)) (KQ s Q k n) :=
  Go.retV X hx hret hlk rfl (Or.inr (Or.inl ⟨rfl, rfl, z, rfl⟩)) hd eT hk hn hq
theorem narrow_ref {t : FieldType} {w : Value} (ht : t.isReference = true) (hw : w.isRef = true) : narrow t w = w := by
  rcases ref_cases hw with rfl | ⟨z, rfl⟩ <;> cases t <;> first | rfl | (cases ht; done)
theorem Go.retA (X : Stand p l e R s m args below meth c T locs cells slots) (hx : p.tables.exec = Jvm.exec) {t : FieldType} {w : Value} {rest : List Value} (hret : meth.sig.returnType = some t) (hlk : meth.locks = false) {pc : Nat} {Ls : Array Slot} {Q : Option Value → Heap → List Loc → Prop} {k n : Nat} {h : Heap} (ht : t.isReference = true) (hw : w.isRef = true)
    (hd : decode c.code pc = .ok (.areturn, 1)) (eT : T.heap = h) (hk : cells ≤ k) (hn : slots ≤ n) (hq : Q (some w) h locs) : Go p e below T (mkF m pc Ls (w :: rest)) (KQ s Q k n) :=
  Go.retV X hx hret hlk (narrow_ref ht hw) (Or.inr (Or.inr (Or.inr (Or.inr ⟨rfl, ht, hw⟩)))) hd eT hk hn hq
theorem Go.retN (X : Stand p l e R s m args below meth c T locs cells slots) (hx : p.tables.exec = Jvm.exec) {t : FieldType} {z : Int32} {rest : List Value} (hret : meth.sig.returnType = some t) (hlk : meth.locks = false) {pc : Nat} {Ls : Array Slot} {Q : Option Value → Heap → List Loc → Prop} {k n : Nat} {h : Heap} (ht : t = .boolean ∨ t = .byte ∨ t = .char ∨ t = .short)
    (hd : decode c.code pc = .ok (.ireturn, 1)) (eT : T.heap = h) (hk : cells ≤ k) (hn : slots ≤ n) (hq : Q (some (.int (nar t z))) h locs) : Go p e below T (mkF m pc Ls (.int z :: rest)) (KQ s Q k n) := by
  obtain ⟨fs, hr, hrun, hended, hW, hsame⟩ := X.leave (v := some (.int (nar t z))) (fun h => by rw [hret] at h; cases h) hlk
  exact ⟨_, _, Jvm.RoadKit.retN X hx hret ht hd hr, hrun, hended, _, _, rfl, by show Q _ T.heap _; rw [eT]; exact hq, ⟨_, rfl⟩, hW, hsame.mono hk hn⟩
/-- the contract of one body, at the arguments as and the heap h0 -/
abbrev Ctr (l : Launch) (Z : State) (y : MethodName) (bytes : ByteArray) (mx : Nat) (rt : Option FieldType) (ws : List Jvm.Cond) (R : Room) (as : Array Value) (h0 : Heap) (Q : Option Value → Heap → List Loc → Prop) : Prop :=
  MetFree l y (head1 (Jvm.Cond.code y bytes mx rt :: ws) R) (fun a U => a = as ∧ Z.Warmed39 U.vm ∧ U.heap = h0) (fun _ _ _ _ _ => True) (fun _ U o U' => ∃ v L, o = .returned v ∧ Q v U'.heap L ∧ FrameEnd U o U' L R.cells R.slots)
theorem Ctr.intro {Z : State} {y : MethodName} {bytes : ByteArray} {mx : Nat} {rt : Option FieldType} {ws : List Jvm.Cond} {as : Array Value} {h0 : Heap} {Q : Option Value → Heap → List Loc → Prop} (hpl : plainFor y = true)
    (body : ∀ (p : Program) (e : Env) (s : State) (m : MethodId) (below : List Frame) (meth : Method) (c : Code) (s₁ : State), p.tables.exec = Jvm.exec → c.code = bytes → c.maxLocals = mx → s.vm.findClass y.cls = some m.cls → meth.name = y.name → meth.sig.returnType = rt → meth.locks = false → Z.Warmed39 s.vm →
      Stand p l e R s m as below meth c s₁ [] 0 0 → s₁.heap = h0 → Go p e below s₁ (entryFrame m as mx) (KQ s Q R.cells R.slots)) : Ctr l Z y bytes mx rt ws R as h0 Q := by
  refine MetFree.of_bodySF hpl hisR ?_
  intro p e s m args below meth c s₁ Bd hml0 hP hK
  obtain ⟨rfl, hZ, hh⟩ := hP
  obtain ⟨s₂, o, h1, h2, h3, h4⟩ := body p e s m below meth c s₁ Bd.exec Bd.bytes hml0 (findClass_of_methodNamed Bd.named) (name_of_methodNamed Bd.named Bd.method).1 Bd.returns Bd.notSynchronized hZ (Stand.of_body Bd) (by rw [← hh, Bd.state]; rfl)
  exact ⟨s₂, o, h1, h2, h3, h4⟩
end own_kit
def fU (x : Int32) : Int32 := if x = 92 then x else if x = 34 then x else if x = 124 then x else -1
theorem d1_0 : decode prog_38_method_8_code 0 = .ok (.iload_n 0, 1) := by decide +kernel
theorem d1_1 : decode prog_38_method_8_code 1 = .ok (.bipush 92, 2) := by decide +kernel
theorem d1_3 : decode prog_38_method_8_code 3 = .ok (.if_icmp .eq 15, 3) := by decide +kernel
theorem d1_18 : decode prog_38_method_8_code 18 = .ok (.iload_n 0, 1) := by decide +kernel
theorem d1_19 : decode prog_38_method_8_code 19 = .ok (.goto 4, 3) := by decide +kernel
theorem d1_23 : decode prog_38_method_8_code 23 = .ok (.ireturn, 1) := by decide +kernel
theorem d1_6 : decode prog_38_method_8_code 6 = .ok (.iload_n 0, 1) := by decide +kernel
theorem d1_7 : decode prog_38_method_8_code 7 = .ok (.bipush 34, 2) := by decide +kernel
theorem d1_9 : decode prog_38_method_8_code 9 = .ok (.if_icmp .eq 9, 3) := by decide +kernel
theorem d1_12 : decode prog_38_method_8_code 12 = .ok (.iload_n 0, 1) := by decide +kernel
theorem d1_13 : decode prog_38_method_8_code 13 = .ok (.bipush 124, 2) := by decide +kernel
theorem d1_15 : decode prog_38_method_8_code 15 = .ok (.if_icmp .ne 7, 3) := by decide +kernel
theorem d1_22 : decode prog_38_method_8_code 22 = .ok (.iconst (-1), 1) := by decide +kernel
theorem own_pn0 : plainName "com/example/parenform/parenform/TwinjoSyntax" = true := by first | (simp [plainName, overriddenIn]; done) | decide +kernel
theorem own_ef_rm1 (m : MethodId) (x0 : Int32) : entryFrame m #[(.int x0)] 1 = mkF m 0 #[.val (.int x0)] [] := by first | (simp [entryFrame, mkF, argsToLocals, Value.category]; done) | rfl
def Q_rm1 (Z : State) (x0 : Int32) (h0 : Heap) (n0 : Nat) : Option Value → Heap → List Loc → Prop := fun v h L => v = some (.int (fU x0)) ∧ Fr n0 L ∧ h = h0
set_option maxRecDepth 65536 in
set_option maxHeartbeats 40000000 in
theorem rm1 (l : Launch) (Z : State) (a0 : Array Value) (hw : ∀ d ∈ tables_1, d.before a0 Z = true) (ws : List Jvm.Cond) (x0 : Int32) (h0 : Heap) (n0 : Nat) (Z0 : n0 ≤ h0.size)  :
    Ctr l Z (⟨"com/example/parenform/parenform/TwinjoSyntax", "unescaped", "(I)I"⟩ : MethodName) prog_38_method_8_code 1 (some .int) ws ({ frames := 0, cells := 0, slots := 0, locals := 0 } : Room) #[(.int x0)] h0 (Q_rm1 Z x0 h0 n0) := by
  refine Ctr.intro (plainFor_of_name own_pn0) ?_
  intro p e s m below meth c s₁ hx hby hml hown hnm hret hlk hZ X0 e0
  have hown : s.vm.findClass "com/example/parenform/parenform/TwinjoSyntax" = some m.cls := hown
  have hml : c.maxLocals = 1 := hml
  have N0 := Fr.nil n0
  refine Go.cast (own_ef_rm1 m x0) ?_
  show Go p e below s₁ (mkF m 0 #[.val (.int x0)] []) _
  refine Go.of (fun _ k => XS.iloadN X0.here hx rfl (hb hby d1_0) rfl  k) ?_
  show Go p e below s₁ (mkF m 1 #[.val (.int x0)] [(.int x0)]) _
  refine Go.of (fun _ k => XS.bipush X0.here hx rfl (hb hby d1_1) k) ?_
  show Go p e below s₁ (mkF m 3 #[.val (.int x0)] [(.int (92 : Int32)), (.int x0)]) _
  by_cases hc3_0 : x0 = (92 : Int32)
  · refine Go.of (fun _ k => XS.icmpYes X0.here hx rfl (pc0 := 3) (pc' := 18) rfl (hb hby d1_3) rfl (teq hc3_0).1 (by decide) (by decide) k) ?_
    show Go p e below s₁ (mkF m 18 #[.val (.int x0)] []) _
    refine Go.of (fun _ k => XS.iloadN X0.here hx rfl (hb hby d1_18) rfl  k) ?_
    show Go p e below s₁ (mkF m 19 #[.val (.int x0)] [(.int x0)]) _
    refine Go.of (fun _ k => XS.goto X0.here hx rfl (pc0 := 19) (pc' := 23) rfl (hb hby d1_19) (by decide) (by decide) k) ?_
    show Go p e below s₁ (mkF m 23 #[.val (.int x0)] [(.int x0)]) _
    refine Go.retI X0 hx hret hlk (hb hby d1_23) e0 (by decide) (by decide) ?_
    exact ⟨by simp [fU, *], N0, rfl⟩
  · refine Go.of (fun _ k => XS.icmpNo X0.here hx rfl (hb hby d1_3) rfl (feq hc3_0).1 k) ?_
    show Go p e below s₁ (mkF m 6 #[.val (.int x0)] []) _
    refine Go.of (fun _ k => XS.iloadN X0.here hx rfl (hb hby d1_6) rfl  k) ?_
    show Go p e below s₁ (mkF m 7 #[.val (.int x0)] [(.int x0)]) _
    refine Go.of (fun _ k => XS.bipush X0.here hx rfl (hb hby d1_7) k) ?_
    show Go p e below s₁ (mkF m 9 #[.val (.int x0)] [(.int (34 : Int32)), (.int x0)]) _
    by_cases hc9_1 : x0 = (34 : Int32)
    · refine Go.of (fun _ k => XS.icmpYes X0.here hx rfl (pc0 := 9) (pc' := 18) rfl (hb hby d1_9) rfl (teq hc9_1).1 (by decide) (by decide) k) ?_
      show Go p e below s₁ (mkF m 18 #[.val (.int x0)] []) _
      refine Go.of (fun _ k => XS.iloadN X0.here hx rfl (hb hby d1_18) rfl  k) ?_
      show Go p e below s₁ (mkF m 19 #[.val (.int x0)] [(.int x0)]) _
      refine Go.of (fun _ k => XS.goto X0.here hx rfl (pc0 := 19) (pc' := 23) rfl (hb hby d1_19) (by decide) (by decide) k) ?_
      show Go p e below s₁ (mkF m 23 #[.val (.int x0)] [(.int x0)]) _
      refine Go.retI X0 hx hret hlk (hb hby d1_23) e0 (by decide) (by decide) ?_
      exact ⟨by simp [fU, *], N0, rfl⟩
    · refine Go.of (fun _ k => XS.icmpNo X0.here hx rfl (hb hby d1_9) rfl (feq hc9_1).1 k) ?_
      show Go p e below s₁ (mkF m 12 #[.val (.int x0)] []) _
      refine Go.of (fun _ k => XS.iloadN X0.here hx rfl (hb hby d1_12) rfl  k) ?_
      show Go p e below s₁ (mkF m 13 #[.val (.int x0)] [(.int x0)]) _
      refine Go.of (fun _ k => XS.bipush X0.here hx rfl (hb hby d1_13) k) ?_
      show Go p e below s₁ (mkF m 15 #[.val (.int x0)] [(.int (124 : Int32)), (.int x0)]) _
      by_cases hc15_2 : x0 = (124 : Int32)
      · refine Go.of (fun _ k => XS.icmpNo X0.here hx rfl (hb hby d1_15) rfl (teq hc15_2).2 k) ?_
        show Go p e below s₁ (mkF m 18 #[.val (.int x0)] []) _
        refine Go.of (fun _ k => XS.iloadN X0.here hx rfl (hb hby d1_18) rfl  k) ?_
        show Go p e below s₁ (mkF m 19 #[.val (.int x0)] [(.int x0)]) _
        refine Go.of (fun _ k => XS.goto X0.here hx rfl (pc0 := 19) (pc' := 23) rfl (hb hby d1_19) (by decide) (by decide) k) ?_
        show Go p e below s₁ (mkF m 23 #[.val (.int x0)] [(.int x0)]) _
        refine Go.retI X0 hx hret hlk (hb hby d1_23) e0 (by decide) (by decide) ?_
        exact ⟨by simp [fU, *], N0, rfl⟩
      · refine Go.of (fun _ k => XS.icmpYes X0.here hx rfl (pc0 := 15) (pc' := 22) rfl (hb hby d1_15) rfl (feq hc15_2).2 (by decide) (by decide) k) ?_
        show Go p e below s₁ (mkF m 22 #[.val (.int x0)] []) _
        refine Go.of (fun _ k => XS.iconst X0.here hx rfl (hb hby d1_22) k) ?_
        show Go p e below s₁ (mkF m 23 #[.val (.int x0)] [(.int (-1 : Int32))]) _
        refine Go.retI X0 hx hret hlk (hb hby d1_23) e0 (by decide) (by decide) ?_
        exact ⟨by simp [fU, *], N0, rfl⟩
theorem own_pd0 : parseMethodDescriptor "(I)I" = some ⟨[.int], some .int⟩ := by decide +kernel
theorem own_pn1 : plainName "com/example/parenform/parenform/TwinjoSyntaxUnescapedPinLaw" = true := by first | (simp [plainName, overriddenIn]; done) | decide +kernel
theorem own_ef_rm0 (m : MethodId) (x0 : Int32) (x1 : Int32) : entryFrame m #[(.int x0), (.int x1)] maxLocals = mkF m 0 #[.val (.int x0), .val (.int x1), .unset, .unset, .unset, .unset] [] := by first | (simp [entryFrame, mkF, argsToLocals, Value.category, maxLocals]; done) | rfl
def Q_rm0 (Z : State) (x0 x1 : Int32) (h0 : Heap) (n0 : Nat) : Option Value → Heap → List Loc → Prop := fun v h L => v = some (.int 1) ∧ Fr n0 L
set_option maxRecDepth 65536 in
set_option maxHeartbeats 40000000 in
theorem rm0 (l : Launch) (Z : State) (a0 : Array Value) (hw : ∀ d ∈ tables_1, d.before a0 Z = true) (ws : List Jvm.Cond) (x0 x1 : Int32) (h0 : Heap) (n0 : Nat) (Z0 : n0 ≤ h0.size)  :
    Ctr l Z x code maxLocals ret ws room_1 #[(.int x0), (.int x1)] h0 (Q_rm0 Z x0 x1 h0 n0) := by
  refine Ctr.intro (plainFor_of_name own_pn1) ?_
  intro p e s m below meth c s₁ hx hby hml hown hnm hret hlk hZ X0 e0
  have hown : s.vm.findClass "com/example/parenform/parenform/TwinjoSyntaxUnescapedPinLaw" = some m.cls := hown
  have hml : c.maxLocals = 6 := hml
  have N0 := Fr.nil n0
  refine Go.cast (own_ef_rm0 m x0 x1) ?_
  show Go p e below s₁ (mkF m 0 #[.val (.int x0), .val (.int x1), .unset, .unset, .unset, .unset] []) _
  refine Go.of (fun _ k => XS.iloadN X0.here hx rfl (hb hby at_0) rfl  k) ?_
  show Go p e below s₁ (mkF m 1 #[.val (.int x0), .val (.int x1), .unset, .unset, .unset, .unset] [(.int x0)]) _
  refine Go.of (fun _ k => XS.iconst X0.here hx rfl (hb hby at_1) k) ?_
  show Go p e below s₁ (mkF m 2 #[.val (.int x0), .val (.int x1), .unset, .unset, .unset, .unset] [(.int (3 : Int32)), (.int x0)]) _
  refine Go.of (fun _ k => XS.iand X0.here hx rfl (hb hby at_2) rfl k) ?_
  show Go p e below s₁ (mkF m 3 #[.val (.int x0), .val (.int x1), .unset, .unset, .unset, .unset] [(.int (x0 &&& (3 : Int32)))]) _
  refine Go.of (fun _ k => XS.istoreN X0.here hx rfl (hb hby at_3) rfl (l' := #[.val (.int x0), .val (.int x1), .val (.int (x0 &&& (3 : Int32))), .unset, .unset, .unset]) rfl k) ?_
  show Go p e below s₁ (mkF m 4 #[.val (.int x0), .val (.int x1), .val (.int (x0 &&& (3 : Int32))), .unset, .unset, .unset] []) _
  refine Go.of (fun _ k => XS.iloadN X0.here hx rfl (hb hby at_4) rfl  k) ?_
  show Go p e below s₁ (mkF m 5 #[.val (.int x0), .val (.int x1), .val (.int (x0 &&& (3 : Int32))), .unset, .unset, .unset] [(.int (x0 &&& (3 : Int32)))]) _
  by_cases hc5_0 : (x0 &&& (3 : Int32)) = (0 : Int32)
  · refine Go.of (fun _ k => XS.ifNo X0.here hx rfl (hb hby at_5) rfl ((if0 _ _).trans (teq hc5_0).2) k) ?_
    show Go p e below s₁ (mkF m 8 #[.val (.int x0), .val (.int x1), .val (.int (x0 &&& (3 : Int32))), .unset, .unset, .unset] []) _
    refine Go.of (fun _ k => XS.bipush X0.here hx rfl (hb hby at_8) k) ?_
    show Go p e below s₁ (mkF m 10 #[.val (.int x0), .val (.int x1), .val (.int (x0 &&& (3 : Int32))), .unset, .unset, .unset] [(.int (92 : Int32))]) _
    refine Go.of (fun _ k => XS.istoreN X0.here hx rfl (hb hby at_10) rfl (l' := #[.val (.int x0), .val (.int x1), .val (.int (x0 &&& (3 : Int32))), .val (.int (92 : Int32)), .unset, .unset]) rfl k) ?_
    show Go p e below s₁ (mkF m 11 #[.val (.int x0), .val (.int x1), .val (.int (x0 &&& (3 : Int32))), .val (.int (92 : Int32)), .unset, .unset] []) _
    refine Go.of (fun _ k => XS.goto X0.here hx rfl (pc0 := 11) (pc' := 47) rfl (hb hby at_11) (by decide) (by decide) k) ?_
    show Go p e below s₁ (mkF m 47 #[.val (.int x0), .val (.int x1), .val (.int (x0 &&& (3 : Int32))), .val (.int (92 : Int32)), .unset, .unset] []) _
    refine Go.of (fun _ k => XS.iloadN X0.here hx rfl (hb hby at_47) rfl  k) ?_
    show Go p e below s₁ (mkF m 48 #[.val (.int x0), .val (.int x1), .val (.int (x0 &&& (3 : Int32))), .val (.int (92 : Int32)), .unset, .unset] [(.int (92 : Int32))]) _
    obtain ⟨_, _, ⟨T1, L1, k1, n1⟩, -, X1, ⟨Lc1, hQ1, l1, y1, z1⟩, st1⟩ := Jvm.LawKit.callS X0 hx (y := (⟨"com/example/parenform/parenform/TwinjoSyntax", "unescaped", "(I)I"⟩ : MethodName)) hown (mvT hZ (hw _ (List.mem_of_getElem? (i := 0) rfl))) (mvT hZ (hw _ (List.mem_of_getElem? (i := 1) rfl))) (mvT hZ (hw _ (List.mem_of_getElem? (i := 2) rfl))) (mvT hZ (hw _ (List.mem_of_getElem? (i := 3) rfl))) (by decide) (backOf (W := 0) (rm1 l Z a0 hw [] (92 : Int32) h0 n0 Z0) hZ (hw _ (List.mem_of_getElem? (i := 3) rfl)) (hw _ (List.mem_of_getElem? (i := 2) rfl)) (by decide) (by decide)) (g := (mkF m 48 #[.val (.int x0), .val (.int x1), .val (.int (x0 &&& (3 : Int32))), .val (.int (92 : Int32)), .unset, .unset] [(.int (92 : Int32))])) rfl (by rw [hml]; rfl) (argsL := [(.int (92 : Int32))]) (rest := []) (lenOf own_pd0 rfl) rfl (by show 2 * 0 + _ ≤ _; exact Nat.le_of_eq rfl) (hb hby at_48) (fun _ _ => ⟨rfl, e0, (by decide : 0 + 0 ≤ _), (by decide : 0 + 0 ≤ _)⟩)
    dsimp only [Pt.U, Pt.locs, Pt.cells, Pt.slots] at X1 l1 y1 z1 st1 hQ1
    subst l1 y1 z1
    obtain ⟨rfl, Nq1, e1⟩ := hQ1
    have N1 := Fr.app N0 Nq1
    refine Go.of (fun _ k => st1 _ k) ?_
    show Go p e below T1 (mkF m 51 #[.val (.int x0), .val (.int x1), .val (.int (x0 &&& (3 : Int32))), .val (.int (92 : Int32)), .unset, .unset] [(.int (fU (92 : Int32)))]) _
    refine Go.of (fun _ k => XS.istore X1.here hx rfl (hb hby at_51) rfl (l' := #[.val (.int x0), .val (.int x1), .val (.int (x0 &&& (3 : Int32))), .val (.int (92 : Int32)), .val (.int (fU (92 : Int32))), .unset]) rfl k) ?_
    show Go p e below T1 (mkF m 53 #[.val (.int x0), .val (.int x1), .val (.int (x0 &&& (3 : Int32))), .val (.int (92 : Int32)), .val (.int (fU (92 : Int32))), .unset] []) _
    refine Go.of (fun _ k => XS.iloadN X1.here hx rfl (hb hby at_53) rfl  k) ?_
    show Go p e below T1 (mkF m 54 #[.val (.int x0), .val (.int x1), .val (.int (x0 &&& (3 : Int32))), .val (.int (92 : Int32)), .val (.int (fU (92 : Int32))), .unset] [(.int (92 : Int32))]) _
    refine Go.of (fun _ k => XS.bipush X1.here hx rfl (hb hby at_54) k) ?_
    show Go p e below T1 (mkF m 56 #[.val (.int x0), .val (.int x1), .val (.int (x0 &&& (3 : Int32))), .val (.int (92 : Int32)), .val (.int (fU (92 : Int32))), .unset] [(.int (92 : Int32)), (.int (92 : Int32))]) _
    refine Go.of (fun _ k => XS.icmpYes X1.here hx rfl (pc0 := 56) (pc' := 71) rfl (hb hby at_56) rfl (teq (show (92 : Int32) = (92 : Int32) from (by decide))).1 (by decide) (by decide) k) ?_
    show Go p e below T1 (mkF m 71 #[.val (.int x0), .val (.int x1), .val (.int (x0 &&& (3 : Int32))), .val (.int (92 : Int32)), .val (.int (fU (92 : Int32))), .unset] []) _
    refine Go.of (fun _ k => XS.iconst X1.here hx rfl (hb hby at_71) k) ?_
    show Go p e below T1 (mkF m 72 #[.val (.int x0), .val (.int x1), .val (.int (x0 &&& (3 : Int32))), .val (.int (92 : Int32)), .val (.int (fU (92 : Int32))), .unset] [(.int (1 : Int32))]) _
    refine Go.of (fun _ k => XS.goto X1.here hx rfl (pc0 := 72) (pc' := 76) rfl (hb hby at_72) (by decide) (by decide) k) ?_
    show Go p e below T1 (mkF m 76 #[.val (.int x0), .val (.int x1), .val (.int (x0 &&& (3 : Int32))), .val (.int (92 : Int32)), .val (.int (fU (92 : Int32))), .unset] [(.int (1 : Int32))]) _
    refine Go.of (fun _ k => XS.istore X1.here hx rfl (hb hby at_76) rfl (l' := #[.val (.int x0), .val (.int x1), .val (.int (x0 &&& (3 : Int32))), .val (.int (92 : Int32)), .val (.int (fU (92 : Int32))), .val (.int (1 : Int32))]) rfl k) ?_
    show Go p e below T1 (mkF m 78 #[.val (.int x0), .val (.int x1), .val (.int (x0 &&& (3 : Int32))), .val (.int (92 : Int32)), .val (.int (fU (92 : Int32))), .val (.int (1 : Int32))] []) _
    refine Go.of (fun _ k => XS.iload X1.here hx rfl (hb hby at_78) rfl  k) ?_
    show Go p e below T1 (mkF m 80 #[.val (.int x0), .val (.int x1), .val (.int (x0 &&& (3 : Int32))), .val (.int (92 : Int32)), .val (.int (fU (92 : Int32))), .val (.int (1 : Int32))] [(.int (1 : Int32))]) _
    refine Go.of (fun _ k => XS.ifNo X1.here hx rfl (hb hby at_80) rfl ((if0 _ _).trans (feq (show ¬ ((1 : Int32) = (0 : Int32)) from (by decide))).1) k) ?_
    show Go p e below T1 (mkF m 83 #[.val (.int x0), .val (.int x1), .val (.int (x0 &&& (3 : Int32))), .val (.int (92 : Int32)), .val (.int (fU (92 : Int32))), .val (.int (1 : Int32))] []) _
    refine Go.of (fun _ k => XS.iload X1.here hx rfl (hb hby at_83) rfl  k) ?_
    show Go p e below T1 (mkF m 85 #[.val (.int x0), .val (.int x1), .val (.int (x0 &&& (3 : Int32))), .val (.int (92 : Int32)), .val (.int (fU (92 : Int32))), .val (.int (1 : Int32))] [(.int (fU (92 : Int32)))]) _
    refine Go.of (fun _ k => XS.iloadN X1.here hx rfl (hb hby at_85) rfl  k) ?_
    show Go p e below T1 (mkF m 86 #[.val (.int x0), .val (.int x1), .val (.int (x0 &&& (3 : Int32))), .val (.int (92 : Int32)), .val (.int (fU (92 : Int32))), .val (.int (1 : Int32))] [(.int (92 : Int32)), (.int (fU (92 : Int32)))]) _
    by_cases hc86_3 : (fU (92 : Int32)) = (92 : Int32)
    · refine Go.of (fun _ k => XS.icmpNo X1.here hx rfl (hb hby at_86) rfl (teq hc86_3).2 k) ?_
      show Go p e below T1 (mkF m 89 #[.val (.int x0), .val (.int x1), .val (.int (x0 &&& (3 : Int32))), .val (.int (92 : Int32)), .val (.int (fU (92 : Int32))), .val (.int (1 : Int32))] []) _
      refine Go.of (fun _ k => XS.iconst X1.here hx rfl (hb hby at_89) k) ?_
      show Go p e below T1 (mkF m 90 #[.val (.int x0), .val (.int x1), .val (.int (x0 &&& (3 : Int32))), .val (.int (92 : Int32)), .val (.int (fU (92 : Int32))), .val (.int (1 : Int32))] [(.int (1 : Int32))]) _
      refine Go.of (fun _ k => XS.goto X1.here hx rfl (pc0 := 90) (pc' := 94) rfl (hb hby at_90) (by decide) (by decide) k) ?_
      show Go p e below T1 (mkF m 94 #[.val (.int x0), .val (.int x1), .val (.int (x0 &&& (3 : Int32))), .val (.int (92 : Int32)), .val (.int (fU (92 : Int32))), .val (.int (1 : Int32))] [(.int (1 : Int32))]) _
      refine Go.retN X1 hx (t := .boolean) hret hlk (by simp) (hb hby at_94) e1 (by decide) (by decide) ?_
      exact ⟨rfl, N1⟩
    · refine Go.of (fun _ k => XS.icmpYes X1.here hx rfl (pc0 := 86) (pc' := 93) rfl (hb hby at_86) rfl (feq hc86_3).2 (by decide) (by decide) k) ?_
      show Go p e below T1 (mkF m 93 #[.val (.int x0), .val (.int x1), .val (.int (x0 &&& (3 : Int32))), .val (.int (92 : Int32)), .val (.int (fU (92 : Int32))), .val (.int (1 : Int32))] []) _
      refine Go.of (fun _ k => XS.iconst X1.here hx rfl (hb hby at_93) k) ?_
      show Go p e below T1 (mkF m 94 #[.val (.int x0), .val (.int x1), .val (.int (x0 &&& (3 : Int32))), .val (.int (92 : Int32)), .val (.int (fU (92 : Int32))), .val (.int (1 : Int32))] [(.int (0 : Int32))]) _
      refine Go.retN X1 hx (t := .boolean) hret hlk (by simp) (hb hby at_94) e1 (by decide) (by decide) ?_
      exfalso
      simp [fU, *] at *
  · refine Go.of (fun _ k => XS.ifYes X0.here hx rfl (pc0 := 5) (pc' := 14) rfl (hb hby at_5) rfl ((if0 _ _).trans (feq hc5_0).2) (by decide) (by decide) k) ?_
    show Go p e below s₁ (mkF m 14 #[.val (.int x0), .val (.int x1), .val (.int (x0 &&& (3 : Int32))), .unset, .unset, .unset] []) _
    refine Go.of (fun _ k => XS.iloadN X0.here hx rfl (hb hby at_14) rfl  k) ?_
    show Go p e below s₁ (mkF m 15 #[.val (.int x0), .val (.int x1), .val (.int (x0 &&& (3 : Int32))), .unset, .unset, .unset] [(.int (x0 &&& (3 : Int32)))]) _
    refine Go.of (fun _ k => XS.iconst X0.here hx rfl (hb hby at_15) k) ?_
    show Go p e below s₁ (mkF m 16 #[.val (.int x0), .val (.int x1), .val (.int (x0 &&& (3 : Int32))), .unset, .unset, .unset] [(.int (1 : Int32)), (.int (x0 &&& (3 : Int32)))]) _
    by_cases hc16_1 : (x0 &&& (3 : Int32)) = (1 : Int32)
    · refine Go.of (fun _ k => XS.icmpNo X0.here hx rfl (hb hby at_16) rfl (teq hc16_1).2 k) ?_
      show Go p e below s₁ (mkF m 19 #[.val (.int x0), .val (.int x1), .val (.int (x0 &&& (3 : Int32))), .unset, .unset, .unset] []) _
      refine Go.of (fun _ k => XS.bipush X0.here hx rfl (hb hby at_19) k) ?_
      show Go p e below s₁ (mkF m 21 #[.val (.int x0), .val (.int x1), .val (.int (x0 &&& (3 : Int32))), .unset, .unset, .unset] [(.int (34 : Int32))]) _
      refine Go.of (fun _ k => XS.istoreN X0.here hx rfl (hb hby at_21) rfl (l' := #[.val (.int x0), .val (.int x1), .val (.int (x0 &&& (3 : Int32))), .val (.int (34 : Int32)), .unset, .unset]) rfl k) ?_
      show Go p e below s₁ (mkF m 22 #[.val (.int x0), .val (.int x1), .val (.int (x0 &&& (3 : Int32))), .val (.int (34 : Int32)), .unset, .unset] []) _
      refine Go.of (fun _ k => XS.goto X0.here hx rfl (pc0 := 22) (pc' := 47) rfl (hb hby at_22) (by decide) (by decide) k) ?_
      show Go p e below s₁ (mkF m 47 #[.val (.int x0), .val (.int x1), .val (.int (x0 &&& (3 : Int32))), .val (.int (34 : Int32)), .unset, .unset] []) _
      refine Go.of (fun _ k => XS.iloadN X0.here hx rfl (hb hby at_47) rfl  k) ?_
      show Go p e below s₁ (mkF m 48 #[.val (.int x0), .val (.int x1), .val (.int (x0 &&& (3 : Int32))), .val (.int (34 : Int32)), .unset, .unset] [(.int (34 : Int32))]) _
      obtain ⟨_, _, ⟨T2, L2, k2, n2⟩, -, X2, ⟨Lc2, hQ2, l2, y2, z2⟩, st2⟩ := Jvm.LawKit.callS X0 hx (y := (⟨"com/example/parenform/parenform/TwinjoSyntax", "unescaped", "(I)I"⟩ : MethodName)) hown (mvT hZ (hw _ (List.mem_of_getElem? (i := 0) rfl))) (mvT hZ (hw _ (List.mem_of_getElem? (i := 1) rfl))) (mvT hZ (hw _ (List.mem_of_getElem? (i := 2) rfl))) (mvT hZ (hw _ (List.mem_of_getElem? (i := 3) rfl))) (by decide) (backOf (W := 0) (rm1 l Z a0 hw [] (34 : Int32) h0 n0 Z0) hZ (hw _ (List.mem_of_getElem? (i := 3) rfl)) (hw _ (List.mem_of_getElem? (i := 2) rfl)) (by decide) (by decide)) (g := (mkF m 48 #[.val (.int x0), .val (.int x1), .val (.int (x0 &&& (3 : Int32))), .val (.int (34 : Int32)), .unset, .unset] [(.int (34 : Int32))])) rfl (by rw [hml]; rfl) (argsL := [(.int (34 : Int32))]) (rest := []) (lenOf own_pd0 rfl) rfl (by show 2 * 0 + _ ≤ _; exact Nat.le_of_eq rfl) (hb hby at_48) (fun _ _ => ⟨rfl, e0, (by decide : 0 + 0 ≤ _), (by decide : 0 + 0 ≤ _)⟩)
      dsimp only [Pt.U, Pt.locs, Pt.cells, Pt.slots] at X2 l2 y2 z2 st2 hQ2
      subst l2 y2 z2
      obtain ⟨rfl, Nq2, e2⟩ := hQ2
      have N2 := Fr.app N0 Nq2
      refine Go.of (fun _ k => st2 _ k) ?_
      show Go p e below T2 (mkF m 51 #[.val (.int x0), .val (.int x1), .val (.int (x0 &&& (3 : Int32))), .val (.int (34 : Int32)), .unset, .unset] [(.int (fU (34 : Int32)))]) _
      refine Go.of (fun _ k => XS.istore X2.here hx rfl (hb hby at_51) rfl (l' := #[.val (.int x0), .val (.int x1), .val (.int (x0 &&& (3 : Int32))), .val (.int (34 : Int32)), .val (.int (fU (34 : Int32))), .unset]) rfl k) ?_
      show Go p e below T2 (mkF m 53 #[.val (.int x0), .val (.int x1), .val (.int (x0 &&& (3 : Int32))), .val (.int (34 : Int32)), .val (.int (fU (34 : Int32))), .unset] []) _
      refine Go.of (fun _ k => XS.iloadN X2.here hx rfl (hb hby at_53) rfl  k) ?_
      show Go p e below T2 (mkF m 54 #[.val (.int x0), .val (.int x1), .val (.int (x0 &&& (3 : Int32))), .val (.int (34 : Int32)), .val (.int (fU (34 : Int32))), .unset] [(.int (34 : Int32))]) _
      refine Go.of (fun _ k => XS.bipush X2.here hx rfl (hb hby at_54) k) ?_
      show Go p e below T2 (mkF m 56 #[.val (.int x0), .val (.int x1), .val (.int (x0 &&& (3 : Int32))), .val (.int (34 : Int32)), .val (.int (fU (34 : Int32))), .unset] [(.int (92 : Int32)), (.int (34 : Int32))]) _
      refine Go.of (fun _ k => XS.icmpNo X2.here hx rfl (hb hby at_56) rfl (feq (show ¬ ((34 : Int32) = (92 : Int32)) from (by decide))).1 k) ?_
      show Go p e below T2 (mkF m 59 #[.val (.int x0), .val (.int x1), .val (.int (x0 &&& (3 : Int32))), .val (.int (34 : Int32)), .val (.int (fU (34 : Int32))), .unset] []) _
      refine Go.of (fun _ k => XS.iloadN X2.here hx rfl (hb hby at_59) rfl  k) ?_
      show Go p e below T2 (mkF m 60 #[.val (.int x0), .val (.int x1), .val (.int (x0 &&& (3 : Int32))), .val (.int (34 : Int32)), .val (.int (fU (34 : Int32))), .unset] [(.int (34 : Int32))]) _
      refine Go.of (fun _ k => XS.bipush X2.here hx rfl (hb hby at_60) k) ?_
      show Go p e below T2 (mkF m 62 #[.val (.int x0), .val (.int x1), .val (.int (x0 &&& (3 : Int32))), .val (.int (34 : Int32)), .val (.int (fU (34 : Int32))), .unset] [(.int (34 : Int32)), (.int (34 : Int32))]) _
      refine Go.of (fun _ k => XS.icmpYes X2.here hx rfl (pc0 := 62) (pc' := 71) rfl (hb hby at_62) rfl (teq (show (34 : Int32) = (34 : Int32) from (by decide))).1 (by decide) (by decide) k) ?_
      show Go p e below T2 (mkF m 71 #[.val (.int x0), .val (.int x1), .val (.int (x0 &&& (3 : Int32))), .val (.int (34 : Int32)), .val (.int (fU (34 : Int32))), .unset] []) _
      refine Go.of (fun _ k => XS.iconst X2.here hx rfl (hb hby at_71) k) ?_
      show Go p e below T2 (mkF m 72 #[.val (.int x0), .val (.int x1), .val (.int (x0 &&& (3 : Int32))), .val (.int (34 : Int32)), .val (.int (fU (34 : Int32))), .unset] [(.int (1 : Int32))]) _
      refine Go.of (fun _ k => XS.goto X2.here hx rfl (pc0 := 72) (pc' := 76) rfl (hb hby at_72) (by decide) (by decide) k) ?_
      show Go p e below T2 (mkF m 76 #[.val (.int x0), .val (.int x1), .val (.int (x0 &&& (3 : Int32))), .val (.int (34 : Int32)), .val (.int (fU (34 : Int32))), .unset] [(.int (1 : Int32))]) _
      refine Go.of (fun _ k => XS.istore X2.here hx rfl (hb hby at_76) rfl (l' := #[.val (.int x0), .val (.int x1), .val (.int (x0 &&& (3 : Int32))), .val (.int (34 : Int32)), .val (.int (fU (34 : Int32))), .val (.int (1 : Int32))]) rfl k) ?_
      show Go p e below T2 (mkF m 78 #[.val (.int x0), .val (.int x1), .val (.int (x0 &&& (3 : Int32))), .val (.int (34 : Int32)), .val (.int (fU (34 : Int32))), .val (.int (1 : Int32))] []) _
      refine Go.of (fun _ k => XS.iload X2.here hx rfl (hb hby at_78) rfl  k) ?_
      show Go p e below T2 (mkF m 80 #[.val (.int x0), .val (.int x1), .val (.int (x0 &&& (3 : Int32))), .val (.int (34 : Int32)), .val (.int (fU (34 : Int32))), .val (.int (1 : Int32))] [(.int (1 : Int32))]) _
      refine Go.of (fun _ k => XS.ifNo X2.here hx rfl (hb hby at_80) rfl ((if0 _ _).trans (feq (show ¬ ((1 : Int32) = (0 : Int32)) from (by decide))).1) k) ?_
      show Go p e below T2 (mkF m 83 #[.val (.int x0), .val (.int x1), .val (.int (x0 &&& (3 : Int32))), .val (.int (34 : Int32)), .val (.int (fU (34 : Int32))), .val (.int (1 : Int32))] []) _
      refine Go.of (fun _ k => XS.iload X2.here hx rfl (hb hby at_83) rfl  k) ?_
      show Go p e below T2 (mkF m 85 #[.val (.int x0), .val (.int x1), .val (.int (x0 &&& (3 : Int32))), .val (.int (34 : Int32)), .val (.int (fU (34 : Int32))), .val (.int (1 : Int32))] [(.int (fU (34 : Int32)))]) _
      refine Go.of (fun _ k => XS.iloadN X2.here hx rfl (hb hby at_85) rfl  k) ?_
      show Go p e below T2 (mkF m 86 #[.val (.int x0), .val (.int x1), .val (.int (x0 &&& (3 : Int32))), .val (.int (34 : Int32)), .val (.int (fU (34 : Int32))), .val (.int (1 : Int32))] [(.int (34 : Int32)), (.int (fU (34 : Int32)))]) _
      by_cases hc86_5 : (fU (34 : Int32)) = (34 : Int32)
      · refine Go.of (fun _ k => XS.icmpNo X2.here hx rfl (hb hby at_86) rfl (teq hc86_5).2 k) ?_
        show Go p e below T2 (mkF m 89 #[.val (.int x0), .val (.int x1), .val (.int (x0 &&& (3 : Int32))), .val (.int (34 : Int32)), .val (.int (fU (34 : Int32))), .val (.int (1 : Int32))] []) _
        refine Go.of (fun _ k => XS.iconst X2.here hx rfl (hb hby at_89) k) ?_
        show Go p e below T2 (mkF m 90 #[.val (.int x0), .val (.int x1), .val (.int (x0 &&& (3 : Int32))), .val (.int (34 : Int32)), .val (.int (fU (34 : Int32))), .val (.int (1 : Int32))] [(.int (1 : Int32))]) _
        refine Go.of (fun _ k => XS.goto X2.here hx rfl (pc0 := 90) (pc' := 94) rfl (hb hby at_90) (by decide) (by decide) k) ?_
        show Go p e below T2 (mkF m 94 #[.val (.int x0), .val (.int x1), .val (.int (x0 &&& (3 : Int32))), .val (.int (34 : Int32)), .val (.int (fU (34 : Int32))), .val (.int (1 : Int32))] [(.int (1 : Int32))]) _
        refine Go.retN X2 hx (t := .boolean) hret hlk (by simp) (hb hby at_94) e2 (by decide) (by decide) ?_
        exact ⟨rfl, N2⟩
      · refine Go.of (fun _ k => XS.icmpYes X2.here hx rfl (pc0 := 86) (pc' := 93) rfl (hb hby at_86) rfl (feq hc86_5).2 (by decide) (by decide) k) ?_
        show Go p e below T2 (mkF m 93 #[.val (.int x0), .val (.int x1), .val (.int (x0 &&& (3 : Int32))), .val (.int (34 : Int32)), .val (.int (fU (34 : Int32))), .val (.int (1 : Int32))] []) _
        refine Go.of (fun _ k => XS.iconst X2.here hx rfl (hb hby at_93) k) ?_
        show Go p e below T2 (mkF m 94 #[.val (.int x0), .val (.int x1), .val (.int (x0 &&& (3 : Int32))), .val (.int (34 : Int32)), .val (.int (fU (34 : Int32))), .val (.int (1 : Int32))] [(.int (0 : Int32))]) _
        refine Go.retN X2 hx (t := .boolean) hret hlk (by simp) (hb hby at_94) e2 (by decide) (by decide) ?_
        exfalso
        simp [fU, *] at *
    · refine Go.of (fun _ k => XS.icmpYes X0.here hx rfl (pc0 := 16) (pc' := 25) rfl (hb hby at_16) rfl (feq hc16_1).2 (by decide) (by decide) k) ?_
      show Go p e below s₁ (mkF m 25 #[.val (.int x0), .val (.int x1), .val (.int (x0 &&& (3 : Int32))), .unset, .unset, .unset] []) _
      refine Go.of (fun _ k => XS.iloadN X0.here hx rfl (hb hby at_25) rfl  k) ?_
      show Go p e below s₁ (mkF m 26 #[.val (.int x0), .val (.int x1), .val (.int (x0 &&& (3 : Int32))), .unset, .unset, .unset] [(.int (x0 &&& (3 : Int32)))]) _
      refine Go.of (fun _ k => XS.iconst X0.here hx rfl (hb hby at_26) k) ?_
      show Go p e below s₁ (mkF m 27 #[.val (.int x0), .val (.int x1), .val (.int (x0 &&& (3 : Int32))), .unset, .unset, .unset] [(.int (2 : Int32)), (.int (x0 &&& (3 : Int32)))]) _
      by_cases hc27_2 : (x0 &&& (3 : Int32)) = (2 : Int32)
      · refine Go.of (fun _ k => XS.icmpNo X0.here hx rfl (hb hby at_27) rfl (teq hc27_2).2 k) ?_
        show Go p e below s₁ (mkF m 30 #[.val (.int x0), .val (.int x1), .val (.int (x0 &&& (3 : Int32))), .unset, .unset, .unset] []) _
        refine Go.of (fun _ k => XS.bipush X0.here hx rfl (hb hby at_30) k) ?_
        show Go p e below s₁ (mkF m 32 #[.val (.int x0), .val (.int x1), .val (.int (x0 &&& (3 : Int32))), .unset, .unset, .unset] [(.int (124 : Int32))]) _
        refine Go.of (fun _ k => XS.istoreN X0.here hx rfl (hb hby at_32) rfl (l' := #[.val (.int x0), .val (.int x1), .val (.int (x0 &&& (3 : Int32))), .val (.int (124 : Int32)), .unset, .unset]) rfl k) ?_
        show Go p e below s₁ (mkF m 33 #[.val (.int x0), .val (.int x1), .val (.int (x0 &&& (3 : Int32))), .val (.int (124 : Int32)), .unset, .unset] []) _
        refine Go.of (fun _ k => XS.goto X0.here hx rfl (pc0 := 33) (pc' := 47) rfl (hb hby at_33) (by decide) (by decide) k) ?_
        show Go p e below s₁ (mkF m 47 #[.val (.int x0), .val (.int x1), .val (.int (x0 &&& (3 : Int32))), .val (.int (124 : Int32)), .unset, .unset] []) _
        refine Go.of (fun _ k => XS.iloadN X0.here hx rfl (hb hby at_47) rfl  k) ?_
        show Go p e below s₁ (mkF m 48 #[.val (.int x0), .val (.int x1), .val (.int (x0 &&& (3 : Int32))), .val (.int (124 : Int32)), .unset, .unset] [(.int (124 : Int32))]) _
        obtain ⟨_, _, ⟨T3, L3, k3, n3⟩, -, X3, ⟨Lc3, hQ3, l3, y3, z3⟩, st3⟩ := Jvm.LawKit.callS X0 hx (y := (⟨"com/example/parenform/parenform/TwinjoSyntax", "unescaped", "(I)I"⟩ : MethodName)) hown (mvT hZ (hw _ (List.mem_of_getElem? (i := 0) rfl))) (mvT hZ (hw _ (List.mem_of_getElem? (i := 1) rfl))) (mvT hZ (hw _ (List.mem_of_getElem? (i := 2) rfl))) (mvT hZ (hw _ (List.mem_of_getElem? (i := 3) rfl))) (by decide) (backOf (W := 0) (rm1 l Z a0 hw [] (124 : Int32) h0 n0 Z0) hZ (hw _ (List.mem_of_getElem? (i := 3) rfl)) (hw _ (List.mem_of_getElem? (i := 2) rfl)) (by decide) (by decide)) (g := (mkF m 48 #[.val (.int x0), .val (.int x1), .val (.int (x0 &&& (3 : Int32))), .val (.int (124 : Int32)), .unset, .unset] [(.int (124 : Int32))])) rfl (by rw [hml]; rfl) (argsL := [(.int (124 : Int32))]) (rest := []) (lenOf own_pd0 rfl) rfl (by show 2 * 0 + _ ≤ _; exact Nat.le_of_eq rfl) (hb hby at_48) (fun _ _ => ⟨rfl, e0, (by decide : 0 + 0 ≤ _), (by decide : 0 + 0 ≤ _)⟩)
        dsimp only [Pt.U, Pt.locs, Pt.cells, Pt.slots] at X3 l3 y3 z3 st3 hQ3
        subst l3 y3 z3
        obtain ⟨rfl, Nq3, e3⟩ := hQ3
        have N3 := Fr.app N0 Nq3
        refine Go.of (fun _ k => st3 _ k) ?_
        show Go p e below T3 (mkF m 51 #[.val (.int x0), .val (.int x1), .val (.int (x0 &&& (3 : Int32))), .val (.int (124 : Int32)), .unset, .unset] [(.int (fU (124 : Int32)))]) _
        refine Go.of (fun _ k => XS.istore X3.here hx rfl (hb hby at_51) rfl (l' := #[.val (.int x0), .val (.int x1), .val (.int (x0 &&& (3 : Int32))), .val (.int (124 : Int32)), .val (.int (fU (124 : Int32))), .unset]) rfl k) ?_
        show Go p e below T3 (mkF m 53 #[.val (.int x0), .val (.int x1), .val (.int (x0 &&& (3 : Int32))), .val (.int (124 : Int32)), .val (.int (fU (124 : Int32))), .unset] []) _
        refine Go.of (fun _ k => XS.iloadN X3.here hx rfl (hb hby at_53) rfl  k) ?_
        show Go p e below T3 (mkF m 54 #[.val (.int x0), .val (.int x1), .val (.int (x0 &&& (3 : Int32))), .val (.int (124 : Int32)), .val (.int (fU (124 : Int32))), .unset] [(.int (124 : Int32))]) _
        refine Go.of (fun _ k => XS.bipush X3.here hx rfl (hb hby at_54) k) ?_
        show Go p e below T3 (mkF m 56 #[.val (.int x0), .val (.int x1), .val (.int (x0 &&& (3 : Int32))), .val (.int (124 : Int32)), .val (.int (fU (124 : Int32))), .unset] [(.int (92 : Int32)), (.int (124 : Int32))]) _
        refine Go.of (fun _ k => XS.icmpNo X3.here hx rfl (hb hby at_56) rfl (feq (show ¬ ((124 : Int32) = (92 : Int32)) from (by decide))).1 k) ?_
        show Go p e below T3 (mkF m 59 #[.val (.int x0), .val (.int x1), .val (.int (x0 &&& (3 : Int32))), .val (.int (124 : Int32)), .val (.int (fU (124 : Int32))), .unset] []) _
        refine Go.of (fun _ k => XS.iloadN X3.here hx rfl (hb hby at_59) rfl  k) ?_
        show Go p e below T3 (mkF m 60 #[.val (.int x0), .val (.int x1), .val (.int (x0 &&& (3 : Int32))), .val (.int (124 : Int32)), .val (.int (fU (124 : Int32))), .unset] [(.int (124 : Int32))]) _
        refine Go.of (fun _ k => XS.bipush X3.here hx rfl (hb hby at_60) k) ?_
        show Go p e below T3 (mkF m 62 #[.val (.int x0), .val (.int x1), .val (.int (x0 &&& (3 : Int32))), .val (.int (124 : Int32)), .val (.int (fU (124 : Int32))), .unset] [(.int (34 : Int32)), (.int (124 : Int32))]) _
        refine Go.of (fun _ k => XS.icmpNo X3.here hx rfl (hb hby at_62) rfl (feq (show ¬ ((124 : Int32) = (34 : Int32)) from (by decide))).1 k) ?_
        show Go p e below T3 (mkF m 65 #[.val (.int x0), .val (.int x1), .val (.int (x0 &&& (3 : Int32))), .val (.int (124 : Int32)), .val (.int (fU (124 : Int32))), .unset] []) _
        refine Go.of (fun _ k => XS.iloadN X3.here hx rfl (hb hby at_65) rfl  k) ?_
        show Go p e below T3 (mkF m 66 #[.val (.int x0), .val (.int x1), .val (.int (x0 &&& (3 : Int32))), .val (.int (124 : Int32)), .val (.int (fU (124 : Int32))), .unset] [(.int (124 : Int32))]) _
        refine Go.of (fun _ k => XS.bipush X3.here hx rfl (hb hby at_66) k) ?_
        show Go p e below T3 (mkF m 68 #[.val (.int x0), .val (.int x1), .val (.int (x0 &&& (3 : Int32))), .val (.int (124 : Int32)), .val (.int (fU (124 : Int32))), .unset] [(.int (124 : Int32)), (.int (124 : Int32))]) _
        refine Go.of (fun _ k => XS.icmpNo X3.here hx rfl (hb hby at_68) rfl (teq (show (124 : Int32) = (124 : Int32) from (by decide))).2 k) ?_
        show Go p e below T3 (mkF m 71 #[.val (.int x0), .val (.int x1), .val (.int (x0 &&& (3 : Int32))), .val (.int (124 : Int32)), .val (.int (fU (124 : Int32))), .unset] []) _
        refine Go.of (fun _ k => XS.iconst X3.here hx rfl (hb hby at_71) k) ?_
        show Go p e below T3 (mkF m 72 #[.val (.int x0), .val (.int x1), .val (.int (x0 &&& (3 : Int32))), .val (.int (124 : Int32)), .val (.int (fU (124 : Int32))), .unset] [(.int (1 : Int32))]) _
        refine Go.of (fun _ k => XS.goto X3.here hx rfl (pc0 := 72) (pc' := 76) rfl (hb hby at_72) (by decide) (by decide) k) ?_
        show Go p e below T3 (mkF m 76 #[.val (.int x0), .val (.int x1), .val (.int (x0 &&& (3 : Int32))), .val (.int (124 : Int32)), .val (.int (fU (124 : Int32))), .unset] [(.int (1 : Int32))]) _
        refine Go.of (fun _ k => XS.istore X3.here hx rfl (hb hby at_76) rfl (l' := #[.val (.int x0), .val (.int x1), .val (.int (x0 &&& (3 : Int32))), .val (.int (124 : Int32)), .val (.int (fU (124 : Int32))), .val (.int (1 : Int32))]) rfl k) ?_
        show Go p e below T3 (mkF m 78 #[.val (.int x0), .val (.int x1), .val (.int (x0 &&& (3 : Int32))), .val (.int (124 : Int32)), .val (.int (fU (124 : Int32))), .val (.int (1 : Int32))] []) _
        refine Go.of (fun _ k => XS.iload X3.here hx rfl (hb hby at_78) rfl  k) ?_
        show Go p e below T3 (mkF m 80 #[.val (.int x0), .val (.int x1), .val (.int (x0 &&& (3 : Int32))), .val (.int (124 : Int32)), .val (.int (fU (124 : Int32))), .val (.int (1 : Int32))] [(.int (1 : Int32))]) _
        refine Go.of (fun _ k => XS.ifNo X3.here hx rfl (hb hby at_80) rfl ((if0 _ _).trans (feq (show ¬ ((1 : Int32) = (0 : Int32)) from (by decide))).1) k) ?_
        show Go p e below T3 (mkF m 83 #[.val (.int x0), .val (.int x1), .val (.int (x0 &&& (3 : Int32))), .val (.int (124 : Int32)), .val (.int (fU (124 : Int32))), .val (.int (1 : Int32))] []) _
        refine Go.of (fun _ k => XS.iload X3.here hx rfl (hb hby at_83) rfl  k) ?_
        show Go p e below T3 (mkF m 85 #[.val (.int x0), .val (.int x1), .val (.int (x0 &&& (3 : Int32))), .val (.int (124 : Int32)), .val (.int (fU (124 : Int32))), .val (.int (1 : Int32))] [(.int (fU (124 : Int32)))]) _
        refine Go.of (fun _ k => XS.iloadN X3.here hx rfl (hb hby at_85) rfl  k) ?_
        show Go p e below T3 (mkF m 86 #[.val (.int x0), .val (.int x1), .val (.int (x0 &&& (3 : Int32))), .val (.int (124 : Int32)), .val (.int (fU (124 : Int32))), .val (.int (1 : Int32))] [(.int (124 : Int32)), (.int (fU (124 : Int32)))]) _
        by_cases hc86_7 : (fU (124 : Int32)) = (124 : Int32)
        · refine Go.of (fun _ k => XS.icmpNo X3.here hx rfl (hb hby at_86) rfl (teq hc86_7).2 k) ?_
          show Go p e below T3 (mkF m 89 #[.val (.int x0), .val (.int x1), .val (.int (x0 &&& (3 : Int32))), .val (.int (124 : Int32)), .val (.int (fU (124 : Int32))), .val (.int (1 : Int32))] []) _
          refine Go.of (fun _ k => XS.iconst X3.here hx rfl (hb hby at_89) k) ?_
          show Go p e below T3 (mkF m 90 #[.val (.int x0), .val (.int x1), .val (.int (x0 &&& (3 : Int32))), .val (.int (124 : Int32)), .val (.int (fU (124 : Int32))), .val (.int (1 : Int32))] [(.int (1 : Int32))]) _
          refine Go.of (fun _ k => XS.goto X3.here hx rfl (pc0 := 90) (pc' := 94) rfl (hb hby at_90) (by decide) (by decide) k) ?_
          show Go p e below T3 (mkF m 94 #[.val (.int x0), .val (.int x1), .val (.int (x0 &&& (3 : Int32))), .val (.int (124 : Int32)), .val (.int (fU (124 : Int32))), .val (.int (1 : Int32))] [(.int (1 : Int32))]) _
          refine Go.retN X3 hx (t := .boolean) hret hlk (by simp) (hb hby at_94) e3 (by decide) (by decide) ?_
          exact ⟨rfl, N3⟩
        · refine Go.of (fun _ k => XS.icmpYes X3.here hx rfl (pc0 := 86) (pc' := 93) rfl (hb hby at_86) rfl (feq hc86_7).2 (by decide) (by decide) k) ?_
          show Go p e below T3 (mkF m 93 #[.val (.int x0), .val (.int x1), .val (.int (x0 &&& (3 : Int32))), .val (.int (124 : Int32)), .val (.int (fU (124 : Int32))), .val (.int (1 : Int32))] []) _
          refine Go.of (fun _ k => XS.iconst X3.here hx rfl (hb hby at_93) k) ?_
          show Go p e below T3 (mkF m 94 #[.val (.int x0), .val (.int x1), .val (.int (x0 &&& (3 : Int32))), .val (.int (124 : Int32)), .val (.int (fU (124 : Int32))), .val (.int (1 : Int32))] [(.int (0 : Int32))]) _
          refine Go.retN X3 hx (t := .boolean) hret hlk (by simp) (hb hby at_94) e3 (by decide) (by decide) ?_
          exfalso
          simp [fU, *] at *
      · refine Go.of (fun _ k => XS.icmpYes X0.here hx rfl (pc0 := 27) (pc' := 36) rfl (hb hby at_27) rfl (feq hc27_2).2 (by decide) (by decide) k) ?_
        show Go p e below s₁ (mkF m 36 #[.val (.int x0), .val (.int x1), .val (.int (x0 &&& (3 : Int32))), .unset, .unset, .unset] []) _
        refine Go.of (fun _ k => XS.iloadN X0.here hx rfl (hb hby at_36) rfl  k) ?_
        show Go p e below s₁ (mkF m 37 #[.val (.int x0), .val (.int x1), .val (.int (x0 &&& (3 : Int32))), .unset, .unset, .unset] [(.int x1)]) _
        refine Go.of (fun _ k => X0.ldcInt hx hown (mvT hZ (hw _ (List.mem_of_getElem? (i := 4) rfl))) (g := (mkF m 37 #[.val (.int x0), .val (.int x1), .val (.int (x0 &&& (3 : Int32))), .unset, .unset, .unset] [(.int x1)])) rfl (hb hby at_37) _ k) ?_
        show Go p e below s₁ (mkF m 39 #[.val (.int x0), .val (.int x1), .val (.int (x0 &&& (3 : Int32))), .unset, .unset, .unset] [(.int (2147483647 : Int32)), (.int x1)]) _
        refine Go.of (fun _ k => XS.iand X0.here hx rfl (hb hby at_39) rfl k) ?_
        show Go p e below s₁ (mkF m 40 #[.val (.int x0), .val (.int x1), .val (.int (x0 &&& (3 : Int32))), .unset, .unset, .unset] [(.int (x1 &&& (2147483647 : Int32)))]) _
        refine Go.of (fun _ k => XS.sipush X0.here hx rfl (hb hby at_40) k) ?_
        show Go p e below s₁ (mkF m 43 #[.val (.int x0), .val (.int x1), .val (.int (x0 &&& (3 : Int32))), .unset, .unset, .unset] [(.int (257 : Int32)), (.int (x1 &&& (2147483647 : Int32)))]) _
        refine Go.of (fun _ k => iremM X0 hx rfl (hb hby at_43) rfl (by decide) k) ?_
        show Go p e below s₁ (mkF m 44 #[.val (.int x0), .val (.int x1), .val (.int (x0 &&& (3 : Int32))), .unset, .unset, .unset] [(.int ((x1 &&& (2147483647 : Int32)) % (257 : Int32)))]) _
        refine Go.of (fun _ k => XS.iconst X0.here hx rfl (hb hby at_44) k) ?_
        show Go p e below s₁ (mkF m 45 #[.val (.int x0), .val (.int x1), .val (.int (x0 &&& (3 : Int32))), .unset, .unset, .unset] [(.int (1 : Int32)), (.int ((x1 &&& (2147483647 : Int32)) % (257 : Int32)))]) _
        refine Go.of (fun _ k => XS.isub X0.here hx rfl (hb hby at_45) rfl k) ?_
        show Go p e below s₁ (mkF m 46 #[.val (.int x0), .val (.int x1), .val (.int (x0 &&& (3 : Int32))), .unset, .unset, .unset] [(.int (((x1 &&& (2147483647 : Int32)) % (257 : Int32)) - (1 : Int32)))]) _
        refine Go.of (fun _ k => XS.istoreN X0.here hx rfl (hb hby at_46) rfl (l' := #[.val (.int x0), .val (.int x1), .val (.int (x0 &&& (3 : Int32))), .val (.int (((x1 &&& (2147483647 : Int32)) % (257 : Int32)) - (1 : Int32))), .unset, .unset]) rfl k) ?_
        show Go p e below s₁ (mkF m 47 #[.val (.int x0), .val (.int x1), .val (.int (x0 &&& (3 : Int32))), .val (.int (((x1 &&& (2147483647 : Int32)) % (257 : Int32)) - (1 : Int32))), .unset, .unset] []) _
        refine Go.of (fun _ k => XS.iloadN X0.here hx rfl (hb hby at_47) rfl  k) ?_
        show Go p e below s₁ (mkF m 48 #[.val (.int x0), .val (.int x1), .val (.int (x0 &&& (3 : Int32))), .val (.int (((x1 &&& (2147483647 : Int32)) % (257 : Int32)) - (1 : Int32))), .unset, .unset] [(.int (((x1 &&& (2147483647 : Int32)) % (257 : Int32)) - (1 : Int32)))]) _
        obtain ⟨_, _, ⟨T4, L4, k4, n4⟩, -, X4, ⟨Lc4, hQ4, l4, y4, z4⟩, st4⟩ := Jvm.LawKit.callS X0 hx (y := (⟨"com/example/parenform/parenform/TwinjoSyntax", "unescaped", "(I)I"⟩ : MethodName)) hown (mvT hZ (hw _ (List.mem_of_getElem? (i := 0) rfl))) (mvT hZ (hw _ (List.mem_of_getElem? (i := 1) rfl))) (mvT hZ (hw _ (List.mem_of_getElem? (i := 2) rfl))) (mvT hZ (hw _ (List.mem_of_getElem? (i := 3) rfl))) (by decide) (backOf (W := 0) (rm1 l Z a0 hw [] (((x1 &&& (2147483647 : Int32)) % (257 : Int32)) - (1 : Int32)) h0 n0 Z0) hZ (hw _ (List.mem_of_getElem? (i := 3) rfl)) (hw _ (List.mem_of_getElem? (i := 2) rfl)) (by decide) (by decide)) (g := (mkF m 48 #[.val (.int x0), .val (.int x1), .val (.int (x0 &&& (3 : Int32))), .val (.int (((x1 &&& (2147483647 : Int32)) % (257 : Int32)) - (1 : Int32))), .unset, .unset] [(.int (((x1 &&& (2147483647 : Int32)) % (257 : Int32)) - (1 : Int32)))])) rfl (by rw [hml]; rfl) (argsL := [(.int (((x1 &&& (2147483647 : Int32)) % (257 : Int32)) - (1 : Int32)))]) (rest := []) (lenOf own_pd0 rfl) rfl (by show 2 * 0 + _ ≤ _; exact Nat.le_of_eq rfl) (hb hby at_48) (fun _ _ => ⟨rfl, e0, (by decide : 0 + 0 ≤ _), (by decide : 0 + 0 ≤ _)⟩)
        dsimp only [Pt.U, Pt.locs, Pt.cells, Pt.slots] at X4 l4 y4 z4 st4 hQ4
        subst l4 y4 z4
        obtain ⟨rfl, Nq4, e4⟩ := hQ4
        have N4 := Fr.app N0 Nq4
        refine Go.of (fun _ k => st4 _ k) ?_
        show Go p e below T4 (mkF m 51 #[.val (.int x0), .val (.int x1), .val (.int (x0 &&& (3 : Int32))), .val (.int (((x1 &&& (2147483647 : Int32)) % (257 : Int32)) - (1 : Int32))), .unset, .unset] [(.int (fU (((x1 &&& (2147483647 : Int32)) % (257 : Int32)) - (1 : Int32))))]) _
        refine Go.of (fun _ k => XS.istore X4.here hx rfl (hb hby at_51) rfl (l' := #[.val (.int x0), .val (.int x1), .val (.int (x0 &&& (3 : Int32))), .val (.int (((x1 &&& (2147483647 : Int32)) % (257 : Int32)) - (1 : Int32))), .val (.int (fU (((x1 &&& (2147483647 : Int32)) % (257 : Int32)) - (1 : Int32)))), .unset]) rfl k) ?_
        show Go p e below T4 (mkF m 53 #[.val (.int x0), .val (.int x1), .val (.int (x0 &&& (3 : Int32))), .val (.int (((x1 &&& (2147483647 : Int32)) % (257 : Int32)) - (1 : Int32))), .val (.int (fU (((x1 &&& (2147483647 : Int32)) % (257 : Int32)) - (1 : Int32)))), .unset] []) _
        refine Go.of (fun _ k => XS.iloadN X4.here hx rfl (hb hby at_53) rfl  k) ?_
        show Go p e below T4 (mkF m 54 #[.val (.int x0), .val (.int x1), .val (.int (x0 &&& (3 : Int32))), .val (.int (((x1 &&& (2147483647 : Int32)) % (257 : Int32)) - (1 : Int32))), .val (.int (fU (((x1 &&& (2147483647 : Int32)) % (257 : Int32)) - (1 : Int32)))), .unset] [(.int (((x1 &&& (2147483647 : Int32)) % (257 : Int32)) - (1 : Int32)))]) _
        refine Go.of (fun _ k => XS.bipush X4.here hx rfl (hb hby at_54) k) ?_
        show Go p e below T4 (mkF m 56 #[.val (.int x0), .val (.int x1), .val (.int (x0 &&& (3 : Int32))), .val (.int (((x1 &&& (2147483647 : Int32)) % (257 : Int32)) - (1 : Int32))), .val (.int (fU (((x1 &&& (2147483647 : Int32)) % (257 : Int32)) - (1 : Int32)))), .unset] [(.int (92 : Int32)), (.int (((x1 &&& (2147483647 : Int32)) % (257 : Int32)) - (1 : Int32)))]) _
        by_cases hc56_3 : (((x1 &&& (2147483647 : Int32)) % (257 : Int32)) - (1 : Int32)) = (92 : Int32)
        · refine Go.of (fun _ k => XS.icmpYes X4.here hx rfl (pc0 := 56) (pc' := 71) rfl (hb hby at_56) rfl (teq hc56_3).1 (by decide) (by decide) k) ?_
          show Go p e below T4 (mkF m 71 #[.val (.int x0), .val (.int x1), .val (.int (x0 &&& (3 : Int32))), .val (.int (((x1 &&& (2147483647 : Int32)) % (257 : Int32)) - (1 : Int32))), .val (.int (fU (((x1 &&& (2147483647 : Int32)) % (257 : Int32)) - (1 : Int32)))), .unset] []) _
          refine Go.of (fun _ k => XS.iconst X4.here hx rfl (hb hby at_71) k) ?_
          show Go p e below T4 (mkF m 72 #[.val (.int x0), .val (.int x1), .val (.int (x0 &&& (3 : Int32))), .val (.int (((x1 &&& (2147483647 : Int32)) % (257 : Int32)) - (1 : Int32))), .val (.int (fU (((x1 &&& (2147483647 : Int32)) % (257 : Int32)) - (1 : Int32)))), .unset] [(.int (1 : Int32))]) _
          refine Go.of (fun _ k => XS.goto X4.here hx rfl (pc0 := 72) (pc' := 76) rfl (hb hby at_72) (by decide) (by decide) k) ?_
          show Go p e below T4 (mkF m 76 #[.val (.int x0), .val (.int x1), .val (.int (x0 &&& (3 : Int32))), .val (.int (((x1 &&& (2147483647 : Int32)) % (257 : Int32)) - (1 : Int32))), .val (.int (fU (((x1 &&& (2147483647 : Int32)) % (257 : Int32)) - (1 : Int32)))), .unset] [(.int (1 : Int32))]) _
          refine Go.of (fun _ k => XS.istore X4.here hx rfl (hb hby at_76) rfl (l' := #[.val (.int x0), .val (.int x1), .val (.int (x0 &&& (3 : Int32))), .val (.int (((x1 &&& (2147483647 : Int32)) % (257 : Int32)) - (1 : Int32))), .val (.int (fU (((x1 &&& (2147483647 : Int32)) % (257 : Int32)) - (1 : Int32)))), .val (.int (1 : Int32))]) rfl k) ?_
          show Go p e below T4 (mkF m 78 #[.val (.int x0), .val (.int x1), .val (.int (x0 &&& (3 : Int32))), .val (.int (((x1 &&& (2147483647 : Int32)) % (257 : Int32)) - (1 : Int32))), .val (.int (fU (((x1 &&& (2147483647 : Int32)) % (257 : Int32)) - (1 : Int32)))), .val (.int (1 : Int32))] []) _
          refine Go.of (fun _ k => XS.iload X4.here hx rfl (hb hby at_78) rfl  k) ?_
          show Go p e below T4 (mkF m 80 #[.val (.int x0), .val (.int x1), .val (.int (x0 &&& (3 : Int32))), .val (.int (((x1 &&& (2147483647 : Int32)) % (257 : Int32)) - (1 : Int32))), .val (.int (fU (((x1 &&& (2147483647 : Int32)) % (257 : Int32)) - (1 : Int32)))), .val (.int (1 : Int32))] [(.int (1 : Int32))]) _
          refine Go.of (fun _ k => XS.ifNo X4.here hx rfl (hb hby at_80) rfl ((if0 _ _).trans (feq (show ¬ ((1 : Int32) = (0 : Int32)) from (by decide))).1) k) ?_
          show Go p e below T4 (mkF m 83 #[.val (.int x0), .val (.int x1), .val (.int (x0 &&& (3 : Int32))), .val (.int (((x1 &&& (2147483647 : Int32)) % (257 : Int32)) - (1 : Int32))), .val (.int (fU (((x1 &&& (2147483647 : Int32)) % (257 : Int32)) - (1 : Int32)))), .val (.int (1 : Int32))] []) _
          refine Go.of (fun _ k => XS.iload X4.here hx rfl (hb hby at_83) rfl  k) ?_
          show Go p e below T4 (mkF m 85 #[.val (.int x0), .val (.int x1), .val (.int (x0 &&& (3 : Int32))), .val (.int (((x1 &&& (2147483647 : Int32)) % (257 : Int32)) - (1 : Int32))), .val (.int (fU (((x1 &&& (2147483647 : Int32)) % (257 : Int32)) - (1 : Int32)))), .val (.int (1 : Int32))] [(.int (fU (((x1 &&& (2147483647 : Int32)) % (257 : Int32)) - (1 : Int32))))]) _
          refine Go.of (fun _ k => XS.iloadN X4.here hx rfl (hb hby at_85) rfl  k) ?_
          show Go p e below T4 (mkF m 86 #[.val (.int x0), .val (.int x1), .val (.int (x0 &&& (3 : Int32))), .val (.int (((x1 &&& (2147483647 : Int32)) % (257 : Int32)) - (1 : Int32))), .val (.int (fU (((x1 &&& (2147483647 : Int32)) % (257 : Int32)) - (1 : Int32)))), .val (.int (1 : Int32))] [(.int (((x1 &&& (2147483647 : Int32)) % (257 : Int32)) - (1 : Int32))), (.int (fU (((x1 &&& (2147483647 : Int32)) % (257 : Int32)) - (1 : Int32))))]) _
          by_cases hc86_5 : (fU (((x1 &&& (2147483647 : Int32)) % (257 : Int32)) - (1 : Int32))) = (((x1 &&& (2147483647 : Int32)) % (257 : Int32)) - (1 : Int32))
          · refine Go.of (fun _ k => XS.icmpNo X4.here hx rfl (hb hby at_86) rfl (teq hc86_5).2 k) ?_
            show Go p e below T4 (mkF m 89 #[.val (.int x0), .val (.int x1), .val (.int (x0 &&& (3 : Int32))), .val (.int (((x1 &&& (2147483647 : Int32)) % (257 : Int32)) - (1 : Int32))), .val (.int (fU (((x1 &&& (2147483647 : Int32)) % (257 : Int32)) - (1 : Int32)))), .val (.int (1 : Int32))] []) _
            refine Go.of (fun _ k => XS.iconst X4.here hx rfl (hb hby at_89) k) ?_
            show Go p e below T4 (mkF m 90 #[.val (.int x0), .val (.int x1), .val (.int (x0 &&& (3 : Int32))), .val (.int (((x1 &&& (2147483647 : Int32)) % (257 : Int32)) - (1 : Int32))), .val (.int (fU (((x1 &&& (2147483647 : Int32)) % (257 : Int32)) - (1 : Int32)))), .val (.int (1 : Int32))] [(.int (1 : Int32))]) _
            refine Go.of (fun _ k => XS.goto X4.here hx rfl (pc0 := 90) (pc' := 94) rfl (hb hby at_90) (by decide) (by decide) k) ?_
            show Go p e below T4 (mkF m 94 #[.val (.int x0), .val (.int x1), .val (.int (x0 &&& (3 : Int32))), .val (.int (((x1 &&& (2147483647 : Int32)) % (257 : Int32)) - (1 : Int32))), .val (.int (fU (((x1 &&& (2147483647 : Int32)) % (257 : Int32)) - (1 : Int32)))), .val (.int (1 : Int32))] [(.int (1 : Int32))]) _
            refine Go.retN X4 hx (t := .boolean) hret hlk (by simp) (hb hby at_94) e4 (by decide) (by decide) ?_
            exact ⟨rfl, N4⟩
          · refine Go.of (fun _ k => XS.icmpYes X4.here hx rfl (pc0 := 86) (pc' := 93) rfl (hb hby at_86) rfl (feq hc86_5).2 (by decide) (by decide) k) ?_
            show Go p e below T4 (mkF m 93 #[.val (.int x0), .val (.int x1), .val (.int (x0 &&& (3 : Int32))), .val (.int (((x1 &&& (2147483647 : Int32)) % (257 : Int32)) - (1 : Int32))), .val (.int (fU (((x1 &&& (2147483647 : Int32)) % (257 : Int32)) - (1 : Int32)))), .val (.int (1 : Int32))] []) _
            refine Go.of (fun _ k => XS.iconst X4.here hx rfl (hb hby at_93) k) ?_
            show Go p e below T4 (mkF m 94 #[.val (.int x0), .val (.int x1), .val (.int (x0 &&& (3 : Int32))), .val (.int (((x1 &&& (2147483647 : Int32)) % (257 : Int32)) - (1 : Int32))), .val (.int (fU (((x1 &&& (2147483647 : Int32)) % (257 : Int32)) - (1 : Int32)))), .val (.int (1 : Int32))] [(.int (0 : Int32))]) _
            refine Go.retN X4 hx (t := .boolean) hret hlk (by simp) (hb hby at_94) e4 (by decide) (by decide) ?_
            exfalso
            simp [fU, *] at *
        · refine Go.of (fun _ k => XS.icmpNo X4.here hx rfl (hb hby at_56) rfl (feq hc56_3).1 k) ?_
          show Go p e below T4 (mkF m 59 #[.val (.int x0), .val (.int x1), .val (.int (x0 &&& (3 : Int32))), .val (.int (((x1 &&& (2147483647 : Int32)) % (257 : Int32)) - (1 : Int32))), .val (.int (fU (((x1 &&& (2147483647 : Int32)) % (257 : Int32)) - (1 : Int32)))), .unset] []) _
          refine Go.of (fun _ k => XS.iloadN X4.here hx rfl (hb hby at_59) rfl  k) ?_
          show Go p e below T4 (mkF m 60 #[.val (.int x0), .val (.int x1), .val (.int (x0 &&& (3 : Int32))), .val (.int (((x1 &&& (2147483647 : Int32)) % (257 : Int32)) - (1 : Int32))), .val (.int (fU (((x1 &&& (2147483647 : Int32)) % (257 : Int32)) - (1 : Int32)))), .unset] [(.int (((x1 &&& (2147483647 : Int32)) % (257 : Int32)) - (1 : Int32)))]) _
          refine Go.of (fun _ k => XS.bipush X4.here hx rfl (hb hby at_60) k) ?_
          show Go p e below T4 (mkF m 62 #[.val (.int x0), .val (.int x1), .val (.int (x0 &&& (3 : Int32))), .val (.int (((x1 &&& (2147483647 : Int32)) % (257 : Int32)) - (1 : Int32))), .val (.int (fU (((x1 &&& (2147483647 : Int32)) % (257 : Int32)) - (1 : Int32)))), .unset] [(.int (34 : Int32)), (.int (((x1 &&& (2147483647 : Int32)) % (257 : Int32)) - (1 : Int32)))]) _
          by_cases hc62_4 : (((x1 &&& (2147483647 : Int32)) % (257 : Int32)) - (1 : Int32)) = (34 : Int32)
          · refine Go.of (fun _ k => XS.icmpYes X4.here hx rfl (pc0 := 62) (pc' := 71) rfl (hb hby at_62) rfl (teq hc62_4).1 (by decide) (by decide) k) ?_
            show Go p e below T4 (mkF m 71 #[.val (.int x0), .val (.int x1), .val (.int (x0 &&& (3 : Int32))), .val (.int (((x1 &&& (2147483647 : Int32)) % (257 : Int32)) - (1 : Int32))), .val (.int (fU (((x1 &&& (2147483647 : Int32)) % (257 : Int32)) - (1 : Int32)))), .unset] []) _
            refine Go.of (fun _ k => XS.iconst X4.here hx rfl (hb hby at_71) k) ?_
            show Go p e below T4 (mkF m 72 #[.val (.int x0), .val (.int x1), .val (.int (x0 &&& (3 : Int32))), .val (.int (((x1 &&& (2147483647 : Int32)) % (257 : Int32)) - (1 : Int32))), .val (.int (fU (((x1 &&& (2147483647 : Int32)) % (257 : Int32)) - (1 : Int32)))), .unset] [(.int (1 : Int32))]) _
            refine Go.of (fun _ k => XS.goto X4.here hx rfl (pc0 := 72) (pc' := 76) rfl (hb hby at_72) (by decide) (by decide) k) ?_
            show Go p e below T4 (mkF m 76 #[.val (.int x0), .val (.int x1), .val (.int (x0 &&& (3 : Int32))), .val (.int (((x1 &&& (2147483647 : Int32)) % (257 : Int32)) - (1 : Int32))), .val (.int (fU (((x1 &&& (2147483647 : Int32)) % (257 : Int32)) - (1 : Int32)))), .unset] [(.int (1 : Int32))]) _
            refine Go.of (fun _ k => XS.istore X4.here hx rfl (hb hby at_76) rfl (l' := #[.val (.int x0), .val (.int x1), .val (.int (x0 &&& (3 : Int32))), .val (.int (((x1 &&& (2147483647 : Int32)) % (257 : Int32)) - (1 : Int32))), .val (.int (fU (((x1 &&& (2147483647 : Int32)) % (257 : Int32)) - (1 : Int32)))), .val (.int (1 : Int32))]) rfl k) ?_
            show Go p e below T4 (mkF m 78 #[.val (.int x0), .val (.int x1), .val (.int (x0 &&& (3 : Int32))), .val (.int (((x1 &&& (2147483647 : Int32)) % (257 : Int32)) - (1 : Int32))), .val (.int (fU (((x1 &&& (2147483647 : Int32)) % (257 : Int32)) - (1 : Int32)))), .val (.int (1 : Int32))] []) _
            refine Go.of (fun _ k => XS.iload X4.here hx rfl (hb hby at_78) rfl  k) ?_
            show Go p e below T4 (mkF m 80 #[.val (.int x0), .val (.int x1), .val (.int (x0 &&& (3 : Int32))), .val (.int (((x1 &&& (2147483647 : Int32)) % (257 : Int32)) - (1 : Int32))), .val (.int (fU (((x1 &&& (2147483647 : Int32)) % (257 : Int32)) - (1 : Int32)))), .val (.int (1 : Int32))] [(.int (1 : Int32))]) _
            refine Go.of (fun _ k => XS.ifNo X4.here hx rfl (hb hby at_80) rfl ((if0 _ _).trans (feq (show ¬ ((1 : Int32) = (0 : Int32)) from (by decide))).1) k) ?_
            show Go p e below T4 (mkF m 83 #[.val (.int x0), .val (.int x1), .val (.int (x0 &&& (3 : Int32))), .val (.int (((x1 &&& (2147483647 : Int32)) % (257 : Int32)) - (1 : Int32))), .val (.int (fU (((x1 &&& (2147483647 : Int32)) % (257 : Int32)) - (1 : Int32)))), .val (.int (1 : Int32))] []) _
            refine Go.of (fun _ k => XS.iload X4.here hx rfl (hb hby at_83) rfl  k) ?_
            show Go p e below T4 (mkF m 85 #[.val (.int x0), .val (.int x1), .val (.int (x0 &&& (3 : Int32))), .val (.int (((x1 &&& (2147483647 : Int32)) % (257 : Int32)) - (1 : Int32))), .val (.int (fU (((x1 &&& (2147483647 : Int32)) % (257 : Int32)) - (1 : Int32)))), .val (.int (1 : Int32))] [(.int (fU (((x1 &&& (2147483647 : Int32)) % (257 : Int32)) - (1 : Int32))))]) _
            refine Go.of (fun _ k => XS.iloadN X4.here hx rfl (hb hby at_85) rfl  k) ?_
            show Go p e below T4 (mkF m 86 #[.val (.int x0), .val (.int x1), .val (.int (x0 &&& (3 : Int32))), .val (.int (((x1 &&& (2147483647 : Int32)) % (257 : Int32)) - (1 : Int32))), .val (.int (fU (((x1 &&& (2147483647 : Int32)) % (257 : Int32)) - (1 : Int32)))), .val (.int (1 : Int32))] [(.int (((x1 &&& (2147483647 : Int32)) % (257 : Int32)) - (1 : Int32))), (.int (fU (((x1 &&& (2147483647 : Int32)) % (257 : Int32)) - (1 : Int32))))]) _
            by_cases hc86_6 : (fU (((x1 &&& (2147483647 : Int32)) % (257 : Int32)) - (1 : Int32))) = (((x1 &&& (2147483647 : Int32)) % (257 : Int32)) - (1 : Int32))
            · refine Go.of (fun _ k => XS.icmpNo X4.here hx rfl (hb hby at_86) rfl (teq hc86_6).2 k) ?_
              show Go p e below T4 (mkF m 89 #[.val (.int x0), .val (.int x1), .val (.int (x0 &&& (3 : Int32))), .val (.int (((x1 &&& (2147483647 : Int32)) % (257 : Int32)) - (1 : Int32))), .val (.int (fU (((x1 &&& (2147483647 : Int32)) % (257 : Int32)) - (1 : Int32)))), .val (.int (1 : Int32))] []) _
              refine Go.of (fun _ k => XS.iconst X4.here hx rfl (hb hby at_89) k) ?_
              show Go p e below T4 (mkF m 90 #[.val (.int x0), .val (.int x1), .val (.int (x0 &&& (3 : Int32))), .val (.int (((x1 &&& (2147483647 : Int32)) % (257 : Int32)) - (1 : Int32))), .val (.int (fU (((x1 &&& (2147483647 : Int32)) % (257 : Int32)) - (1 : Int32)))), .val (.int (1 : Int32))] [(.int (1 : Int32))]) _
              refine Go.of (fun _ k => XS.goto X4.here hx rfl (pc0 := 90) (pc' := 94) rfl (hb hby at_90) (by decide) (by decide) k) ?_
              show Go p e below T4 (mkF m 94 #[.val (.int x0), .val (.int x1), .val (.int (x0 &&& (3 : Int32))), .val (.int (((x1 &&& (2147483647 : Int32)) % (257 : Int32)) - (1 : Int32))), .val (.int (fU (((x1 &&& (2147483647 : Int32)) % (257 : Int32)) - (1 : Int32)))), .val (.int (1 : Int32))] [(.int (1 : Int32))]) _
              refine Go.retN X4 hx (t := .boolean) hret hlk (by simp) (hb hby at_94) e4 (by decide) (by decide) ?_
              exact ⟨rfl, N4⟩
            · refine Go.of (fun _ k => XS.icmpYes X4.here hx rfl (pc0 := 86) (pc' := 93) rfl (hb hby at_86) rfl (feq hc86_6).2 (by decide) (by decide) k) ?_
              show Go p e below T4 (mkF m 93 #[.val (.int x0), .val (.int x1), .val (.int (x0 &&& (3 : Int32))), .val (.int (((x1 &&& (2147483647 : Int32)) % (257 : Int32)) - (1 : Int32))), .val (.int (fU (((x1 &&& (2147483647 : Int32)) % (257 : Int32)) - (1 : Int32)))), .val (.int (1 : Int32))] []) _
              refine Go.of (fun _ k => XS.iconst X4.here hx rfl (hb hby at_93) k) ?_
              show Go p e below T4 (mkF m 94 #[.val (.int x0), .val (.int x1), .val (.int (x0 &&& (3 : Int32))), .val (.int (((x1 &&& (2147483647 : Int32)) % (257 : Int32)) - (1 : Int32))), .val (.int (fU (((x1 &&& (2147483647 : Int32)) % (257 : Int32)) - (1 : Int32)))), .val (.int (1 : Int32))] [(.int (0 : Int32))]) _
              refine Go.retN X4 hx (t := .boolean) hret hlk (by simp) (hb hby at_94) e4 (by decide) (by decide) ?_
              exfalso
              simp [fU, *] at *
          · refine Go.of (fun _ k => XS.icmpNo X4.here hx rfl (hb hby at_62) rfl (feq hc62_4).1 k) ?_
            show Go p e below T4 (mkF m 65 #[.val (.int x0), .val (.int x1), .val (.int (x0 &&& (3 : Int32))), .val (.int (((x1 &&& (2147483647 : Int32)) % (257 : Int32)) - (1 : Int32))), .val (.int (fU (((x1 &&& (2147483647 : Int32)) % (257 : Int32)) - (1 : Int32)))), .unset] []) _
            refine Go.of (fun _ k => XS.iloadN X4.here hx rfl (hb hby at_65) rfl  k) ?_
            show Go p e below T4 (mkF m 66 #[.val (.int x0), .val (.int x1), .val (.int (x0 &&& (3 : Int32))), .val (.int (((x1 &&& (2147483647 : Int32)) % (257 : Int32)) - (1 : Int32))), .val (.int (fU (((x1 &&& (2147483647 : Int32)) % (257 : Int32)) - (1 : Int32)))), .unset] [(.int (((x1 &&& (2147483647 : Int32)) % (257 : Int32)) - (1 : Int32)))]) _
            refine Go.of (fun _ k => XS.bipush X4.here hx rfl (hb hby at_66) k) ?_
            show Go p e below T4 (mkF m 68 #[.val (.int x0), .val (.int x1), .val (.int (x0 &&& (3 : Int32))), .val (.int (((x1 &&& (2147483647 : Int32)) % (257 : Int32)) - (1 : Int32))), .val (.int (fU (((x1 &&& (2147483647 : Int32)) % (257 : Int32)) - (1 : Int32)))), .unset] [(.int (124 : Int32)), (.int (((x1 &&& (2147483647 : Int32)) % (257 : Int32)) - (1 : Int32)))]) _
            by_cases hc68_5 : (((x1 &&& (2147483647 : Int32)) % (257 : Int32)) - (1 : Int32)) = (124 : Int32)
            · refine Go.of (fun _ k => XS.icmpNo X4.here hx rfl (hb hby at_68) rfl (teq hc68_5).2 k) ?_
              show Go p e below T4 (mkF m 71 #[.val (.int x0), .val (.int x1), .val (.int (x0 &&& (3 : Int32))), .val (.int (((x1 &&& (2147483647 : Int32)) % (257 : Int32)) - (1 : Int32))), .val (.int (fU (((x1 &&& (2147483647 : Int32)) % (257 : Int32)) - (1 : Int32)))), .unset] []) _
              refine Go.of (fun _ k => XS.iconst X4.here hx rfl (hb hby at_71) k) ?_
              show Go p e below T4 (mkF m 72 #[.val (.int x0), .val (.int x1), .val (.int (x0 &&& (3 : Int32))), .val (.int (((x1 &&& (2147483647 : Int32)) % (257 : Int32)) - (1 : Int32))), .val (.int (fU (((x1 &&& (2147483647 : Int32)) % (257 : Int32)) - (1 : Int32)))), .unset] [(.int (1 : Int32))]) _
              refine Go.of (fun _ k => XS.goto X4.here hx rfl (pc0 := 72) (pc' := 76) rfl (hb hby at_72) (by decide) (by decide) k) ?_
              show Go p e below T4 (mkF m 76 #[.val (.int x0), .val (.int x1), .val (.int (x0 &&& (3 : Int32))), .val (.int (((x1 &&& (2147483647 : Int32)) % (257 : Int32)) - (1 : Int32))), .val (.int (fU (((x1 &&& (2147483647 : Int32)) % (257 : Int32)) - (1 : Int32)))), .unset] [(.int (1 : Int32))]) _
              refine Go.of (fun _ k => XS.istore X4.here hx rfl (hb hby at_76) rfl (l' := #[.val (.int x0), .val (.int x1), .val (.int (x0 &&& (3 : Int32))), .val (.int (((x1 &&& (2147483647 : Int32)) % (257 : Int32)) - (1 : Int32))), .val (.int (fU (((x1 &&& (2147483647 : Int32)) % (257 : Int32)) - (1 : Int32)))), .val (.int (1 : Int32))]) rfl k) ?_
              show Go p e below T4 (mkF m 78 #[.val (.int x0), .val (.int x1), .val (.int (x0 &&& (3 : Int32))), .val (.int (((x1 &&& (2147483647 : Int32)) % (257 : Int32)) - (1 : Int32))), .val (.int (fU (((x1 &&& (2147483647 : Int32)) % (257 : Int32)) - (1 : Int32)))), .val (.int (1 : Int32))] []) _
              refine Go.of (fun _ k => XS.iload X4.here hx rfl (hb hby at_78) rfl  k) ?_
              show Go p e below T4 (mkF m 80 #[.val (.int x0), .val (.int x1), .val (.int (x0 &&& (3 : Int32))), .val (.int (((x1 &&& (2147483647 : Int32)) % (257 : Int32)) - (1 : Int32))), .val (.int (fU (((x1 &&& (2147483647 : Int32)) % (257 : Int32)) - (1 : Int32)))), .val (.int (1 : Int32))] [(.int (1 : Int32))]) _
              refine Go.of (fun _ k => XS.ifNo X4.here hx rfl (hb hby at_80) rfl ((if0 _ _).trans (feq (show ¬ ((1 : Int32) = (0 : Int32)) from (by decide))).1) k) ?_
              show Go p e below T4 (mkF m 83 #[.val (.int x0), .val (.int x1), .val (.int (x0 &&& (3 : Int32))), .val (.int (((x1 &&& (2147483647 : Int32)) % (257 : Int32)) - (1 : Int32))), .val (.int (fU (((x1 &&& (2147483647 : Int32)) % (257 : Int32)) - (1 : Int32)))), .val (.int (1 : Int32))] []) _
              refine Go.of (fun _ k => XS.iload X4.here hx rfl (hb hby at_83) rfl  k) ?_
              show Go p e below T4 (mkF m 85 #[.val (.int x0), .val (.int x1), .val (.int (x0 &&& (3 : Int32))), .val (.int (((x1 &&& (2147483647 : Int32)) % (257 : Int32)) - (1 : Int32))), .val (.int (fU (((x1 &&& (2147483647 : Int32)) % (257 : Int32)) - (1 : Int32)))), .val (.int (1 : Int32))] [(.int (fU (((x1 &&& (2147483647 : Int32)) % (257 : Int32)) - (1 : Int32))))]) _
              refine Go.of (fun _ k => XS.iloadN X4.here hx rfl (hb hby at_85) rfl  k) ?_
              show Go p e below T4 (mkF m 86 #[.val (.int x0), .val (.int x1), .val (.int (x0 &&& (3 : Int32))), .val (.int (((x1 &&& (2147483647 : Int32)) % (257 : Int32)) - (1 : Int32))), .val (.int (fU (((x1 &&& (2147483647 : Int32)) % (257 : Int32)) - (1 : Int32)))), .val (.int (1 : Int32))] [(.int (((x1 &&& (2147483647 : Int32)) % (257 : Int32)) - (1 : Int32))), (.int (fU (((x1 &&& (2147483647 : Int32)) % (257 : Int32)) - (1 : Int32))))]) _
              by_cases hc86_7 : (fU (((x1 &&& (2147483647 : Int32)) % (257 : Int32)) - (1 : Int32))) = (((x1 &&& (2147483647 : Int32)) % (257 : Int32)) - (1 : Int32))
              · refine Go.of (fun _ k => XS.icmpNo X4.here hx rfl (hb hby at_86) rfl (teq hc86_7).2 k) ?_
                show Go p e below T4 (mkF m 89 #[.val (.int x0), .val (.int x1), .val (.int (x0 &&& (3 : Int32))), .val (.int (((x1 &&& (2147483647 : Int32)) % (257 : Int32)) - (1 : Int32))), .val (.int (fU (((x1 &&& (2147483647 : Int32)) % (257 : Int32)) - (1 : Int32)))), .val (.int (1 : Int32))] []) _
                refine Go.of (fun _ k => XS.iconst X4.here hx rfl (hb hby at_89) k) ?_
                show Go p e below T4 (mkF m 90 #[.val (.int x0), .val (.int x1), .val (.int (x0 &&& (3 : Int32))), .val (.int (((x1 &&& (2147483647 : Int32)) % (257 : Int32)) - (1 : Int32))), .val (.int (fU (((x1 &&& (2147483647 : Int32)) % (257 : Int32)) - (1 : Int32)))), .val (.int (1 : Int32))] [(.int (1 : Int32))]) _
                refine Go.of (fun _ k => XS.goto X4.here hx rfl (pc0 := 90) (pc' := 94) rfl (hb hby at_90) (by decide) (by decide) k) ?_
                show Go p e below T4 (mkF m 94 #[.val (.int x0), .val (.int x1), .val (.int (x0 &&& (3 : Int32))), .val (.int (((x1 &&& (2147483647 : Int32)) % (257 : Int32)) - (1 : Int32))), .val (.int (fU (((x1 &&& (2147483647 : Int32)) % (257 : Int32)) - (1 : Int32)))), .val (.int (1 : Int32))] [(.int (1 : Int32))]) _
                refine Go.retN X4 hx (t := .boolean) hret hlk (by simp) (hb hby at_94) e4 (by decide) (by decide) ?_
                exact ⟨rfl, N4⟩
              · refine Go.of (fun _ k => XS.icmpYes X4.here hx rfl (pc0 := 86) (pc' := 93) rfl (hb hby at_86) rfl (feq hc86_7).2 (by decide) (by decide) k) ?_
                show Go p e below T4 (mkF m 93 #[.val (.int x0), .val (.int x1), .val (.int (x0 &&& (3 : Int32))), .val (.int (((x1 &&& (2147483647 : Int32)) % (257 : Int32)) - (1 : Int32))), .val (.int (fU (((x1 &&& (2147483647 : Int32)) % (257 : Int32)) - (1 : Int32)))), .val (.int (1 : Int32))] []) _
                refine Go.of (fun _ k => XS.iconst X4.here hx rfl (hb hby at_93) k) ?_
                show Go p e below T4 (mkF m 94 #[.val (.int x0), .val (.int x1), .val (.int (x0 &&& (3 : Int32))), .val (.int (((x1 &&& (2147483647 : Int32)) % (257 : Int32)) - (1 : Int32))), .val (.int (fU (((x1 &&& (2147483647 : Int32)) % (257 : Int32)) - (1 : Int32)))), .val (.int (1 : Int32))] [(.int (0 : Int32))]) _
                refine Go.retN X4 hx (t := .boolean) hret hlk (by simp) (hb hby at_94) e4 (by decide) (by decide) ?_
                exfalso
                simp [fU, *] at *
            · refine Go.of (fun _ k => XS.icmpYes X4.here hx rfl (pc0 := 68) (pc' := 75) rfl (hb hby at_68) rfl (feq hc68_5).2 (by decide) (by decide) k) ?_
              show Go p e below T4 (mkF m 75 #[.val (.int x0), .val (.int x1), .val (.int (x0 &&& (3 : Int32))), .val (.int (((x1 &&& (2147483647 : Int32)) % (257 : Int32)) - (1 : Int32))), .val (.int (fU (((x1 &&& (2147483647 : Int32)) % (257 : Int32)) - (1 : Int32)))), .unset] []) _
              refine Go.of (fun _ k => XS.iconst X4.here hx rfl (hb hby at_75) k) ?_
              show Go p e below T4 (mkF m 76 #[.val (.int x0), .val (.int x1), .val (.int (x0 &&& (3 : Int32))), .val (.int (((x1 &&& (2147483647 : Int32)) % (257 : Int32)) - (1 : Int32))), .val (.int (fU (((x1 &&& (2147483647 : Int32)) % (257 : Int32)) - (1 : Int32)))), .unset] [(.int (0 : Int32))]) _
              refine Go.of (fun _ k => XS.istore X4.here hx rfl (hb hby at_76) rfl (l' := #[.val (.int x0), .val (.int x1), .val (.int (x0 &&& (3 : Int32))), .val (.int (((x1 &&& (2147483647 : Int32)) % (257 : Int32)) - (1 : Int32))), .val (.int (fU (((x1 &&& (2147483647 : Int32)) % (257 : Int32)) - (1 : Int32)))), .val (.int (0 : Int32))]) rfl k) ?_
              show Go p e below T4 (mkF m 78 #[.val (.int x0), .val (.int x1), .val (.int (x0 &&& (3 : Int32))), .val (.int (((x1 &&& (2147483647 : Int32)) % (257 : Int32)) - (1 : Int32))), .val (.int (fU (((x1 &&& (2147483647 : Int32)) % (257 : Int32)) - (1 : Int32)))), .val (.int (0 : Int32))] []) _
              refine Go.of (fun _ k => XS.iload X4.here hx rfl (hb hby at_78) rfl  k) ?_
              show Go p e below T4 (mkF m 80 #[.val (.int x0), .val (.int x1), .val (.int (x0 &&& (3 : Int32))), .val (.int (((x1 &&& (2147483647 : Int32)) % (257 : Int32)) - (1 : Int32))), .val (.int (fU (((x1 &&& (2147483647 : Int32)) % (257 : Int32)) - (1 : Int32)))), .val (.int (0 : Int32))] [(.int (0 : Int32))]) _
              refine Go.of (fun _ k => XS.ifYes X4.here hx rfl (pc0 := 80) (pc' := 95) rfl (hb hby at_80) rfl ((if0 _ _).trans (teq (show (0 : Int32) = (0 : Int32) from (by decide))).1) (by decide) (by decide) k) ?_
              show Go p e below T4 (mkF m 95 #[.val (.int x0), .val (.int x1), .val (.int (x0 &&& (3 : Int32))), .val (.int (((x1 &&& (2147483647 : Int32)) % (257 : Int32)) - (1 : Int32))), .val (.int (fU (((x1 &&& (2147483647 : Int32)) % (257 : Int32)) - (1 : Int32)))), .val (.int (0 : Int32))] []) _
              refine Go.of (fun _ k => XS.iload X4.here hx rfl (hb hby at_95) rfl  k) ?_
              show Go p e below T4 (mkF m 97 #[.val (.int x0), .val (.int x1), .val (.int (x0 &&& (3 : Int32))), .val (.int (((x1 &&& (2147483647 : Int32)) % (257 : Int32)) - (1 : Int32))), .val (.int (fU (((x1 &&& (2147483647 : Int32)) % (257 : Int32)) - (1 : Int32)))), .val (.int (0 : Int32))] [(.int (fU (((x1 &&& (2147483647 : Int32)) % (257 : Int32)) - (1 : Int32))))]) _
              refine Go.of (fun _ k => XS.iconst X4.here hx rfl (hb hby at_97) k) ?_
              show Go p e below T4 (mkF m 98 #[.val (.int x0), .val (.int x1), .val (.int (x0 &&& (3 : Int32))), .val (.int (((x1 &&& (2147483647 : Int32)) % (257 : Int32)) - (1 : Int32))), .val (.int (fU (((x1 &&& (2147483647 : Int32)) % (257 : Int32)) - (1 : Int32)))), .val (.int (0 : Int32))] [(.int (-1 : Int32)), (.int (fU (((x1 &&& (2147483647 : Int32)) % (257 : Int32)) - (1 : Int32))))]) _
              by_cases hc98_7 : (fU (((x1 &&& (2147483647 : Int32)) % (257 : Int32)) - (1 : Int32))) = (-1 : Int32)
              · refine Go.of (fun _ k => XS.icmpNo X4.here hx rfl (hb hby at_98) rfl (teq hc98_7).2 k) ?_
                show Go p e below T4 (mkF m 101 #[.val (.int x0), .val (.int x1), .val (.int (x0 &&& (3 : Int32))), .val (.int (((x1 &&& (2147483647 : Int32)) % (257 : Int32)) - (1 : Int32))), .val (.int (fU (((x1 &&& (2147483647 : Int32)) % (257 : Int32)) - (1 : Int32)))), .val (.int (0 : Int32))] []) _
                refine Go.of (fun _ k => XS.iconst X4.here hx rfl (hb hby at_101) k) ?_
                show Go p e below T4 (mkF m 102 #[.val (.int x0), .val (.int x1), .val (.int (x0 &&& (3 : Int32))), .val (.int (((x1 &&& (2147483647 : Int32)) % (257 : Int32)) - (1 : Int32))), .val (.int (fU (((x1 &&& (2147483647 : Int32)) % (257 : Int32)) - (1 : Int32)))), .val (.int (0 : Int32))] [(.int (1 : Int32))]) _
                refine Go.of (fun _ k => XS.goto X4.here hx rfl (pc0 := 102) (pc' := 106) rfl (hb hby at_102) (by decide) (by decide) k) ?_
                show Go p e below T4 (mkF m 106 #[.val (.int x0), .val (.int x1), .val (.int (x0 &&& (3 : Int32))), .val (.int (((x1 &&& (2147483647 : Int32)) % (257 : Int32)) - (1 : Int32))), .val (.int (fU (((x1 &&& (2147483647 : Int32)) % (257 : Int32)) - (1 : Int32)))), .val (.int (0 : Int32))] [(.int (1 : Int32))]) _
                refine Go.retN X4 hx (t := .boolean) hret hlk (by simp) (hb hby at_106) e4 (by decide) (by decide) ?_
                exact ⟨rfl, N4⟩
              · refine Go.of (fun _ k => XS.icmpYes X4.here hx rfl (pc0 := 98) (pc' := 105) rfl (hb hby at_98) rfl (feq hc98_7).2 (by decide) (by decide) k) ?_
                show Go p e below T4 (mkF m 105 #[.val (.int x0), .val (.int x1), .val (.int (x0 &&& (3 : Int32))), .val (.int (((x1 &&& (2147483647 : Int32)) % (257 : Int32)) - (1 : Int32))), .val (.int (fU (((x1 &&& (2147483647 : Int32)) % (257 : Int32)) - (1 : Int32)))), .val (.int (0 : Int32))] []) _
                refine Go.of (fun _ k => XS.iconst X4.here hx rfl (hb hby at_105) k) ?_
                show Go p e below T4 (mkF m 106 #[.val (.int x0), .val (.int x1), .val (.int (x0 &&& (3 : Int32))), .val (.int (((x1 &&& (2147483647 : Int32)) % (257 : Int32)) - (1 : Int32))), .val (.int (fU (((x1 &&& (2147483647 : Int32)) % (257 : Int32)) - (1 : Int32)))), .val (.int (0 : Int32))] [(.int (0 : Int32))]) _
                refine Go.retN X4 hx (t := .boolean) hret hlk (by simp) (hb hby at_106) e4 (by decide) (by decide) ?_
                exfalso
                simp [fU, *] at *
set_option maxRecDepth 65536 in
set_option maxHeartbeats 40000000 in
theorem comes_1 {Post : Tables → Env → Array Value → State → Outcome → State → Prop} (hpost : ∀ tb e args s v u, (limb_1_1.after args s (.returned v) u = true ∧ limb_1_2.after args s (.returned v) u = true ∧ True) → FrameEnd s (.returned v) u (Jvm.fieldLocs frame_1_writes args s ++ Jvm.arrayLocs frame_1_arrays args s ++ Jvm.staticLocs frame_1_statics s) 0 0 → Post tb e args s (.returned v) u) :
    ArmFor flags0 classFile x code maxLocals ret World_1 tables_1 room_1 Calls_1 rest_1 Pre_1 Post := by
  intro l hfl _ _ p e ha hc hk s m args below hf hA hF happ hP
  obtain ⟨hcalls, hrest, hpre⟩ := hP
  obtain ⟨-, -, -, hnamed, -, -, -, hat⟩ := (Spec.applies_iff hf).mp happ
  obtain ⟨hg, hn⟩ := and_e (Cond.before_iff.mp (show (Jvm.Cond.and given_1 narrow_1).before args s = true from hpre))
  obtain ⟨g1, g2⟩ := and_e hg
  obtain ⟨g3, g4⟩ := and_e g2
  obtain ⟨w0, w1, rfl⟩ : ∃ w0 w1 : Value, args = #[w0, w1] := by
    have hs : args.size = 2 := by simpa [Cond.value, given_1] using g1
    obtain ⟨L⟩ := args
    match L, hs with
    | [w0, w1], _ => exact ⟨w0, w1, rfl⟩
  have hw := fun d (hd : d ∈ tables_1) => atoms_spec (ws := Jvm.Cond.code x code maxLocals ret :: tables_1) hat d (List.mem_cons_of_mem _ hd)
  have hfit : Fit s := fun {y c} hc i hi => by
    obtain ⟨ha, rfl⟩ := Array.getElem?_eq_some_iff.mp hc
    have q := List.all_eq_true.mp ((Array.all_eq_true_iff_forall_mem.mp hF) _ (Array.getElem_mem ha)) i (List.mem_range.mpr hi)
    simpa [Array.getElem?_eq_getElem hi] using q
  obtain ⟨i0, ei0⟩ := is_v g3
  obtain rfl : w0 = (.int i0) := Option.some.inj ei0
  obtain ⟨i1, ei1⟩ := is_v g4
  obtain rfl : w1 = (.int i1) := Option.some.inj ei1
  obtain ⟨n, o, h1, h2, h3, _, L, rfl, ⟨rfl, N⟩, hq⟩ := rm0 l s _ hw tables_1 i0 i1 s.heap s.heap.size (Nat.le_refl _)  p e ha hc hk s m _ below hf ((Spec.applies_iff_loose hf).mp happ).1 ⟨rfl, State.Warmed39.refl s, rfl⟩ trivial
  refine ⟨n, _, h1, h2, h3, hpost _ _ _ _ _ _ ⟨Cond.after_iff.mpr rfl, Cond.after_iff.mpr (eq_i res_at (Term.int_eval (1)) rfl), trivial⟩ ⟨hq.1, hq.2.1, (hq.2.2.sift fun y hy => Or.inr (N y hy)).mono (by decide) (by decide)⟩⟩
theorem main_1_1 : Claimed_1_1 := comes_1 fun _ _ _ _ _ _ h hF => ⟨h.1, hF⟩
theorem main_1_2 : Claimed_1_2 := comes_1 fun _ _ _ _ _ _ h hF => ⟨h.2.1, hF⟩
end Jvm.Pilot.@@N@@
namespace Jvm.Pilot.@@N@@
open Jvm Jvm.ClassFile Sem Op Lib Jvm.Free Jvm.Stand Jvm.Pilot.@@N@@.Jvm.D
/-! MADE BY PROGRAM (witnessworld.py) out of the Statement's table words and the real class files: 9 classes; the members and pool entries that the words name. The judged class is class 1, her method 1. -/
namespace start1
open Jvm.ClassFile
def u (s : String) : CpInfo := .utf8 (stringToUtf16 s)
/-- a pool by its gaps: so many unusable entries, then the entry; so many at the end -/
def gap : Nat → List CpInfo → List CpInfo
  | 0, r => r
  | n + 1, r => .unusable :: gap n r
def poolList (es : List (Nat × CpInfo)) (last : Nat) : List CpInfo := es.foldr (fun e r => gap e.1 (e.2 :: r)) (gap last [])
def pool (es : List (Nat × CpInfo)) (last : Nat) : Array CpInfo := ⟨poolList es last⟩
def fileOf (pool : Array CpInfo) (this : Nat) (attrs : Array Attribute := #[]) (ms : Array MethodInfo := #[]) (fl : Nat := 33) (sup : Nat := 0) (ifs : Array Nat := #[]) (fds : Array FieldInfo := #[]) : ClassFile where
  minorVersion := 0
  majorVersion := 65
  constantPool := pool
  accessFlags := fl
  thisClass := this
  superClass := sup
  interfaces := ifs
  fields := fds
  methods := ms
  attributes := attrs
def plain (name : String) (sup : Option ClassId) : Class where
  name := name
  kind := .ordinary
  loader := none
  accessFlags := 33
  super := sup
  interfaces := #[]
  cf := none
  fields := #[]
  methods := #[]
  instanceTypes := #[]
  staticTypes := #[]
  resolved := #[]
  callSites := []
  init := .initialized
  statics := none
  mirror := none

def pool0 : Array CpInfo := pool [(5, u "<init>"), (0, u "()V"), (1, .class_ 10), (1, u "java/lang/Object")] 113

def k0m0 : Method := { name := "<init>", desc := "()V", sig := { parameters := [], returnType := none }, accessFlags := 1, code := none }
/-- java/lang/Object -/
def k0 : Class := { plain "java/lang/Object" none with
  accessFlags := 33
  interfaces := #[]
  cf := some (fileOf pool0 8 #[] #[{ accessFlags := 1, nameIndex := 5, descriptorIndex := 6, attributes := #[] }] 33 0 #[] #[])
  fields := #[]
  methods := #[k0m0]
  instanceTypes := #[]
  staticTypes := #[]
  resolved := Array.replicate 124 none
  statics := none }

def pool1 : Array CpInfo := pool [(2, .class_ 4), (1, u "java/lang/Object"), (0, u "<init>"), (0, u "()V"), (0, .integer 2147483647), (0, .methodref 9 10), (0, .class_ 11), (0, .nameAndType 12 13), (0, u "com/example/parenform/parenform/TwinjoSyntax"), (0, u "unescaped"), (0, u "(I)I"), (0, .class_ 15), (0, u "com/example/parenform/parenform/TwinjoSyntaxUnescapedPinLaw"), (2, u "law"), (0, u "(II)Z")] 3

def k1m0 : Method := { name := "<init>", desc := "()V", sig := { parameters := [], returnType := none }, accessFlags := 2, code := none }
def k1c1 : Code := { maxStack := 2, maxLocals := 6, code := code, exceptionTable := #[], attributes := #[] }
def k1m1 : Method := { name := "law", desc := "(II)Z", sig := { parameters := [.int, .int], returnType := some .boolean }, accessFlags := 9, code := some k1c1 }
/-- com/example/parenform/parenform/TwinjoSyntaxUnescapedPinLaw -/
def k1 : Class := { plain "com/example/parenform/parenform/TwinjoSyntaxUnescapedPinLaw" (some 0) with
  accessFlags := 49
  interfaces := #[]
  cf := some (fileOf pool1 14 #[] #[{ accessFlags := 2, nameIndex := 5, descriptorIndex := 6, attributes := #[] }, { accessFlags := 9, nameIndex := 18, descriptorIndex := 19, attributes := #[] }] 49 2 #[] #[])
  fields := #[]
  methods := #[k1m0, k1m1]
  instanceTypes := #[]
  staticTypes := #[]
  resolved := Array.replicate 23 none
  statics := none }

def pool2 : Array CpInfo := pool [(2, .class_ 4), (1, u "java/lang/Object"), (0, u "<init>"), (0, u "()V"), (0, .class_ 8), (0, u "com/example/parenform/parenform/TwinjoSyntax"), (24, u "(I)I"), (2, u "CLASSES"), (0, u "[B"), (19, u "SYMBOL"), (0, u "I"), (2, u "SYMBOL_START"), (1, u "DELIMITER"), (8, u "unescaped")] 6

def k2m0 : Method := { name := "<init>", desc := "()V", sig := { parameters := [], returnType := none }, accessFlags := 2, code := none }
def k2c1 : Code := { maxStack := 2, maxLocals := 1, code := prog_38_method_8_code, exceptionTable := #[], attributes := #[] }
def k2m1 : Method := { name := "unescaped", desc := "(I)I", sig := { parameters := [.int], returnType := some .int }, accessFlags := 8, code := some k2c1 }
/-- com/example/parenform/parenform/TwinjoSyntax -/
def k2 : Class := { plain "com/example/parenform/parenform/TwinjoSyntax" (some 0) with
  accessFlags := 48
  interfaces := #[]
  cf := some (fileOf pool2 7 #[] #[{ accessFlags := 2, nameIndex := 5, descriptorIndex := 6, attributes := #[] }, { accessFlags := 8, nameIndex := 72, descriptorIndex := 33, attributes := #[] }] 48 2 #[] #[{ accessFlags := 26, nameIndex := 57, descriptorIndex := 58, attributes := #[] }, { accessFlags := 26, nameIndex := 61, descriptorIndex := 58, attributes := #[] }, { accessFlags := 26, nameIndex := 63, descriptorIndex := 58, attributes := #[] }, { accessFlags := 26, nameIndex := 36, descriptorIndex := 37, attributes := #[] }])
  fields := #[{ name := "SYMBOL", type := .int, accessFlags := 26, slot := 0, constantValue := 0 }, { name := "SYMBOL_START", type := .int, accessFlags := 26, slot := 1, constantValue := 0 }, { name := "DELIMITER", type := .int, accessFlags := 26, slot := 2, constantValue := 0 }, { name := "CLASSES", type := (.array .byte), accessFlags := 26, slot := 3, constantValue := 0 }]
  methods := #[k2m0, k2m1]
  instanceTypes := #[]
  staticTypes := #[.int, .int, .int, (.array .byte)]
  resolved := Array.replicate 79 none
  statics := none }

def pool3 : Array CpInfo := pool [(1, u "java/lang/Cloneable"), (0, .class_ 1), (0, u "java/lang/Object"), (0, .class_ 3)] 3

/-- java/lang/Cloneable -/
def k3 : Class := { plain "java/lang/Cloneable" (some 0) with
  accessFlags := 1537
  interfaces := #[]
  cf := some (fileOf pool3 2 #[] #[] 1537 4 #[] #[])
  fields := #[]
  methods := #[]
  instanceTypes := #[]
  staticTypes := #[]
  resolved := Array.replicate 8 none
  statics := none }

def pool4 : Array CpInfo := pool [(1, u "java/io/Serializable"), (0, .class_ 1), (0, u "java/lang/Object"), (0, .class_ 3)] 3

/-- java/io/Serializable -/
def k4 : Class := { plain "java/io/Serializable" (some 0) with
  accessFlags := 1537
  interfaces := #[]
  cf := some (fileOf pool4 2 #[] #[] 1537 4 #[] #[])
  fields := #[]
  methods := #[]
  instanceTypes := #[]
  staticTypes := #[]
  resolved := Array.replicate 8 none
  statics := none }

/-- the primitive byte -/
def k5 : Class := { plain "byte" none with kind := .primitive 'B', accessFlags := 0x411 }
/-- [B -/
def k6 : Class := { plain "[B" (some 0) with kind := .array 5 .byte, interfaces := #[3, 4], accessFlags := 1041 }

/-- the primitive int -/
def k7 : Class := { plain "int" none with kind := .primitive 'I', accessFlags := 0x411 }
/-- [I -/
def k8 : Class := { plain "[I" (some 0) with kind := .array 7 .int, interfaces := #[3, 4], accessFlags := 1041 }

def heap : Heap := #[]
def classes : Array Class := #[k0, k1, k2, k3, k4, k5, k6, k7, k8]
def interned : List (Array UInt16 × Addr) := []
def slotsUsed : Nat := 0
def theMethod : MethodId := ⟨1, 1⟩
def args0 : Array Value := #[.int 5, .int 7]
def aboutOver (below : List Frame) : State where
  vm := { classes := classes, interned := interned.toArray }
  heap := heap
  slotsUsed := slotsUsed
  threads := #[{ frames := .invoking theMethod args0 :: below }]
def below0 : List Frame := [.native { method := ⟨0, 0⟩, args := #[] }]
def about1 : State := aboutOver below0
def p0 : Program := .bare "" "" ""
def e0 : Env := launch0.env 0 0 0
theorem w_frames : about1.frames = Frame.invoking theMethod args0 :: below0 := rfl
set_option maxRecDepth 65536 in
theorem w_args : argsFit about1.vm theMethod args0 = true := by decide +kernel
set_option maxRecDepth 65536 in
theorem w_heap : heapFits about1 = true := by decide +kernel
set_option maxRecDepth 65536 in
theorem w_runnable : about1.curStatus? = some .runnable := by decide +kernel
set_option maxRecDepth 65536 in
theorem w_alone : about1.alone = true := by decide +kernel
set_option maxRecDepth 65536 in
theorem w_named : about1.methodNamed? x = some theMethod := by decide +kernel
set_option maxRecDepth 65536 in
theorem w_hears : about1.hears theMethod below0 = true := by decide +kernel
set_option maxRecDepth 65536 in
theorem w_ripe : about1.ripe theMethod args0 below0 = true := by decide +kernel
theorem w_running : about1.status = .running := rfl
set_option maxRecDepth 65536 in
theorem w_room : about1.hasRoom e0.platform room_1 = true :=
  launch0.hasRoom_least _ room_1 (by decide +kernel) (by decide +kernel) (by decide +kernel) (by decide +kernel) (by decide +kernel) (by decide +kernel)
theorem allAtoms_all (ts : List Jvm.Cond) (a : Array Jvm.Value) (st : Jvm.State) : (allAtoms ts).before a st = ts.all (fun c => c.before a st) := by
  induction ts with
  | nil => rfl
  | cons c t ih =>
    show (Jvm.Cond.and c (allAtoms t)).before a st = _
    rw [Jvm.Cond.before_and, ih, List.all_cons]
def words1 : List Jvm.Cond := Jvm.Cond.code x code maxLocals ret :: tables_1
/-- a 'code' word, met by the world's own term for the bytes: nothing is compared byte by byte -/
theorem code_word {y : MethodName} {bytes : ByteArray} {mx : Nat} {rt : Option FieldType} {a : Array Value} {s : State} {m : MethodId} {meth : Method} {c : Code} (h1 : s.methodNamed? y = some m) (h2 : s.vm.method? m = some meth) (h3 : meth.code = some c) (h4 : c.code = bytes)
    (h5 : (c.maxLocals == mx && c.exceptionTable.isEmpty && decide (c.maxStack ≤ mostOperands) && decide (meth.sig.returnType = rt) && !meth.locks && decide (parseMethodDescriptor y.desc = some meth.sig)) = true) : (Jvm.Cond.code y bytes mx rt).before a s = true := by
  simp only [Bool.and_eq_true, beq_iff_eq, Bool.not_eq_true', decide_eq_true_eq] at h5
  obtain ⟨⟨⟨⟨⟨g1, g2⟩, g3⟩, g4⟩, g5⟩, g6⟩ := h5
  simp [Cond.before, Cond.holds, Cond.value, h1, h2, h3, h4, g1, g2, g3, g4, g5, g6]
def isCode : Jvm.Cond → Bool
  | .code _ _ _ _ => true
  | _ => false
theorem all_split {L : List Jvm.Cond} {P : Jvm.Cond → Bool} (h1 : L.all (fun c => isCode c || P c) = true) (h2 : ∀ c ∈ L.filter isCode, P c = true) : L.all P = true := by
  refine List.all_eq_true.mpr fun c hc => ?_
  have h := List.all_eq_true.mp h1 c hc
  rcases Bool.eq_false_or_eq_true (isCode c) with hi | hi
  · exact h2 c (List.mem_filter.mpr ⟨hc, hi⟩)
  · simpa [hi] using h
set_option maxRecDepth 65536 in
theorem w_c0 : (Jvm.Cond.code x code maxLocals ret).before args0 about1 = true := code_word (m := ⟨1, 1⟩) (meth := k1m1) (c := k1c1) (by decide +kernel) rfl rfl rfl (by decide +kernel)
set_option maxRecDepth 65536 in
theorem w_c1 : (Jvm.Cond.code ({ cls := "com/example/parenform/parenform/TwinjoSyntax", name := "unescaped", desc := "(I)I" } : Jvm.MethodName) prog_38_method_8_code (1 : Nat) (Option.some Jvm.ClassFile.FieldType.int)).before args0 about1 = true := code_word (m := ⟨2, 1⟩) (meth := k2m1) (c := k2c1) (by decide +kernel) rfl rfl rfl (by decide +kernel)
def codes1 : List Jvm.Cond := [Jvm.Cond.code x code maxLocals ret, Jvm.Cond.code ({ cls := "com/example/parenform/parenform/TwinjoSyntax", name := "unescaped", desc := "(I)I" } : Jvm.MethodName) prog_38_method_8_code (1 : Nat) (Option.some Jvm.ClassFile.FieldType.int)]
set_option maxRecDepth 65536 in
theorem codes_eq : words1.filter isCode = codes1 := rfl
theorem w_codes : ∀ c ∈ words1.filter isCode, c.before args0 about1 = true := by
  rw [codes_eq]
  intro c hc
  simp only [codes1, List.mem_cons, List.not_mem_nil, or_false] at hc
  rcases hc with rfl | rfl
  · exact w_c0
  · exact w_c1
set_option maxRecDepth 65536 in
theorem w_t1 : words1.all (fun c => isCode c || c.before args0 about1) = true := by decide +kernel
theorem w_tables : (allAtoms (Jvm.Cond.code x code maxLocals ret :: tables_1)).before args0 about1 = true := by
  rw [allAtoms_all]
  show words1.all (fun c => c.before args0 about1) = true
  refine all_split ?_ w_codes
  rw [w_t1]
set_option maxRecDepth 65536 in
theorem w_case : (Jvm.Cond.and given_1 narrow_1).before args0 about1 = true := by decide +kernel
theorem w_applies : (headSpec (Jvm.Cond.code x code maxLocals ret :: tables_1) room_1).applies x e0.platform about1 = true :=
  (Spec.applies_iff w_frames).mpr ⟨w_running, w_runnable, w_alone, w_named, w_hears, w_ripe, w_room, w_tables⟩
theorem atStart : AtStart classFile x code maxLocals ret World_1 tables_1 room_1 Calls_1 rest_1 Pre_1 launch0 p0 e0 about1 theMethod args0 below0 :=
  ⟨lists_1, trivial, launch0.admits_env _ _ _, launch0.least_env, fairChoices_fair.cas, fairChoices_fair.clock, w_frames, w_args, w_heap, w_applies, trivial, trivial, w_case⟩
end start1
theorem witness_1 : WitnessClaimed_1 := ⟨start1.p0, start1.e0, start1.about1, start1.theMethod, start1.args0, start1.below0, start1.atStart⟩
end Jvm.Pilot.@@N@@
