import JvmDerived
import JvmDerived.Pilot.@@N@@Statement
import JvmDerived.Pilot.@@N@@Code
set_option linter.unusedVariables false
set_option linter.unusedSimpArgs false
namespace Jvm.Pilot.@@N@@
open Jvm Jvm.ClassFile Sem Op Lib Jvm.Free Jvm.Stand Jvm.LawKit Jvm.RoadKit Bundle Jvm.Pilot.@@N@@.Jvm.D
/-! own kit: a walk as a chain of "from here the run ends well" -/
section OwnKit
/-- from T with the frame g on top the run goes on and ends as Q says -/
def Own (p : Program) (e : Env) (below : List Frame) (s : State) (kc ks : Nat) (Q : Option Value → Heap → List Loc → Prop) (T : State) (g : JFrame) : Prop :=
  ∃ s₂ o, Steps p.tables e below (T.setTop g) s₂ ∧ s₂.status = .running ∧ Ended s₂ below o ∧ ∃ v L, o = .returned v ∧ Q v s₂.heap L ∧ FrameEnd s o s₂ L kc ks
variable {p : Program} {l : Launch} {e : Env} {R : Room} {s : State} {m : MethodId} {args : Array Value} {below : List Frame} {meth : Method} {c : Code} {T T' : State} {locs : List Loc} {cells slots kc ks : Nat} {Q : Option Value → Heap → List Loc → Prop}
theorem own_go {g g' : JFrame} (h : ∀ t, Steps p.tables e below (T'.setTop g') t → Steps p.tables e below (T.setTop g) t) (k : Own p e below s kc ks Q T' g') : Own p e below s kc ks Q T g := by
  obtain ⟨s₂, o, h1, r⟩ := k
  exact ⟨s₂, o, h _ h1, r⟩
theorem own_to (T' : State) (g' : JFrame) {g : JFrame} (h : ∀ t, Steps p.tables e below (T'.setTop g') t → Steps p.tables e below (T.setTop g) t) (k : Own p e below s kc ks Q T' g') : Own p e below s kc ks Q T g := own_go h k
theorem own_ret (X : Stand p l e R s m args below meth c T locs cells slots) (hx : p.tables.exec = Jvm.exec) {pc : Nat} {Ls : Array Slot} {w : Value} {t : FieldType} {i : Instr} {rest : List Value} (hret : meth.sig.returnType = some t) (hlk : meth.locks = false) (hn : narrow t w = w)
    (hi : (i = .ireturn ∧ (t = .int ∨ t = .boolean ∨ t = .byte ∨ t = .char ∨ t = .short) ∧ ∃ z, w = .int z) ∨ (i = .lreturn ∧ t = .long ∧ ∃ z, w = .long z) ∨ (i = .dreturn ∧ t = .double ∧ ∃ z, w = .double z) ∨ (i = .freturn ∧ t = .float ∧ ∃ z, w = .float z) ∨ (i = .areturn ∧ t.isReference = true ∧ w.isRef = true))
    (hd : decode c.code pc = .ok (i, 1)) (hc : cells ≤ kc) (hs : slots ≤ ks) (q : Q (some w) T.heap locs) : Own p e below s kc ks Q T (mkF m pc Ls (w :: rest)) := by
  obtain ⟨fs, hr, hrun, hended, hW, hsame⟩ := X.leave (v := some w) (fun h => by rw [hret] at h; cases h) hlk
  exact ⟨_, _, retOut X hx hret hn hi hd hr, hrun, hended, _, locs, rfl, q, ⟨_, rfl⟩, hW, hsame.mono hc hs⟩
theorem own_retI (X : Stand p l e R s m args below meth c T locs cells slots) (hx : p.tables.exec = Jvm.exec) {pc : Nat} {Ls : Array Slot} {z : Int32} {rest : List Value} (hret : meth.sig.returnType = some .int) (hlk : meth.locks = false)
    (hd : decode c.code pc = .ok (.ireturn, 1)) (hc : cells ≤ kc) (hs : slots ≤ ks) (q : Q (some (.int z)) T.heap locs) : Own p e below s kc ks Q T (mkF m pc Ls (.int z :: rest)) :=
  own_ret X hx hret hlk rfl (Or.inl ⟨rfl, Or.inl rfl, _, rfl⟩) hd hc hs q
theorem own_retZ (X : Stand p l e R s m args below meth c T locs cells slots) (hx : p.tables.exec = Jvm.exec) {pc : Nat} {Ls : Array Slot} {z : Int32} {rest : List Value} (hret : meth.sig.returnType = some .boolean) (hlk : meth.locks = false)
    (hd : decode c.code pc = .ok (.ireturn, 1)) (hc : cells ≤ kc) (hs : slots ≤ ks) (hz : z = 0 ∨ z = 1) (q : Q (some (.int z)) T.heap locs) : Own p e below s kc ks Q T (mkF m pc Ls (.int z :: rest)) :=
  own_ret X hx hret hlk (by rcases hz with rfl | rfl <;> rfl) (Or.inl ⟨rfl, Or.inr (Or.inl rfl), _, rfl⟩) hd hc hs q
theorem own_retC (X : Stand p l e R s m args below meth c T locs cells slots) (hx : p.tables.exec = Jvm.exec) {pc : Nat} {Ls : Array Slot} {z : Int32} {rest : List Value} (hret : meth.sig.returnType = some .char) (hlk : meth.locks = false)
    (hd : decode c.code pc = .ok (.ireturn, 1)) (hc : cells ≤ kc) (hs : slots ≤ ks) (hz : z.toUInt32.toUInt16.toUInt32.toInt32 = z) (q : Q (some (.int z)) T.heap locs) : Own p e below s kc ks Q T (mkF m pc Ls (.int z :: rest)) :=
  own_ret X hx hret hlk (congrArg Value.int hz) (Or.inl ⟨rfl, Or.inr (Or.inr (Or.inr (Or.inl rfl))), _, rfl⟩) hd hc hs q
theorem own_retJ (X : Stand p l e R s m args below meth c T locs cells slots) (hx : p.tables.exec = Jvm.exec) {pc : Nat} {Ls : Array Slot} {z : Int64} {rest : List Value} (hret : meth.sig.returnType = some .long) (hlk : meth.locks = false)
    (hd : decode c.code pc = .ok (.lreturn, 1)) (hc : cells ≤ kc) (hs : slots ≤ ks) (q : Q (some (.long z)) T.heap locs) : Own p e below s kc ks Q T (mkF m pc Ls (.long z :: rest)) :=
  own_ret X hx hret hlk rfl (Or.inr (Or.inl ⟨rfl, rfl, _, rfl⟩)) hd hc hs q
theorem own_retD (X : Stand p l e R s m args below meth c T locs cells slots) (hx : p.tables.exec = Jvm.exec) {pc : Nat} {Ls : Array Slot} {z : UInt64} {rest : List Value} (hret : meth.sig.returnType = some .double) (hlk : meth.locks = false)
    (hd : decode c.code pc = .ok (.dreturn, 1)) (hc : cells ≤ kc) (hs : slots ≤ ks) (q : Q (some (.double z)) T.heap locs) : Own p e below s kc ks Q T (mkF m pc Ls (.double z :: rest)) :=
  own_ret X hx hret hlk rfl (Or.inr (Or.inr (Or.inl ⟨rfl, rfl, _, rfl⟩))) hd hc hs q
theorem own_retA (X : Stand p l e R s m args below meth c T locs cells slots) (hx : p.tables.exec = Jvm.exec) {pc : Nat} {Ls : Array Slot} {w : Value} {t : FieldType} {rest : List Value} (hret : meth.sig.returnType = some t) (hlk : meth.locks = false)
    (ht : t.isReference = true) (hw : w.isRef = true) (hd : decode c.code pc = .ok (.areturn, 1)) (hc : cells ≤ kc) (hs : slots ≤ ks) (q : Q (some w) T.heap locs) : Own p e below s kc ks Q T (mkF m pc Ls (w :: rest)) :=
  own_ret X hx hret hlk (by cases t <;> cases w <;> first | rfl | (cases ht; done) | (cases hw; done)) (Or.inr (Or.inr (Or.inr (Or.inr ⟨rfl, ht, hw⟩)))) hd hc hs q
theorem own_retV (X : Stand p l e R s m args below meth c T locs cells slots) (hx : p.tables.exec = Jvm.exec) {pc : Nat} {Ls : Array Slot} (hret : meth.sig.returnType = none) (hlk : meth.locks = false)
    (hd : decode c.code pc = .ok (.return_, 1)) (hc : cells ≤ kc) (hs : slots ≤ ks) (q : Q none T.heap locs) : Own p e below s kc ks Q T (mkF m pc Ls []) := by
  obtain ⟨fs, hr, hrun, hended, hW, hsame⟩ := X.leave (v := none) (fun _ => rfl) hlk
  exact ⟨_, _, X.returnOut hx hret hd hr, hrun, hended, _, locs, rfl, q, ⟨_, rfl⟩, hW, hsame.mono hc hs⟩
/-- a body's contract out of its walk -/
theorem own_met {Z : State} {h0 : Heap} {y : MethodName} {bytes : ByteArray} {ml : Nat} {ret : Option FieldType} {ws : List Jvm.Cond} {rm : Room} {as' : Array Value} (hp : plainFor y = true)
    (body : ∀ (p : Program) (e : Env) (s : State) (m : MethodId) (below : List Frame) (meth : Method) (c : Code) (s₁ : State), Stand p l e rm s m as' below meth c s₁ [] 0 0 → p.tables.exec = Jvm.exec → c.code = bytes → c.maxLocals = ml → meth.sig.returnType = ret → meth.locks = false →
      s.vm.findClass y.cls = some m.cls → meth.name = y.name → Z.Warmed39 s.vm → s₁.heap = h0 → Own p e below s rm.cells rm.slots Q s₁ (entryFrame m as' ml)) :
    MetFree l y (head1 (Jvm.Cond.code y bytes ml ret :: ws) rm) (fun a U => a = as' ∧ Z.Warmed39 U.vm ∧ U.heap = h0) (fun _ _ _ _ _ => True) (fun _ U o U' => ∃ v L, o = .returned v ∧ Q v U'.heap L ∧ FrameEnd U o U' L rm.cells rm.slots) := by
  refine MetFree.of_bodySF hp hisR ?_
  intro p e s m args below meth c s₁ Bd hml0 hP hK
  obtain ⟨rfl, hZ, hh⟩ := hP
  exact body p e s m below meth c s₁ (Stand.of_body Bd) Bd.exec Bd.bytes hml0 Bd.returns Bd.notSynchronized (findClass_of_methodNamed Bd.named) (name_of_methodNamed Bd.named Bd.method).1 hZ (by rw [← hh, Bd.state]; rfl)
theorem own_entry {g g' : JFrame} (q : g = g') (k : Own p e below s kc ks Q T g') : Own p e below s kc ks Q T g := q ▸ k
theorem own_mvMN {Z s : State} {a0 args : Array Value} {own host : String} {index : Nat} {y : MethodName} (hZ : Z.Warmed39 s.vm) (w : (Jvm.Cond.methodLinkNest own index y host).before a0 Z = true) : (Jvm.Cond.methodLinkNest own index y host).before args s = true := (Jvm.Cond.methodLinkNest_wide hZ w :)
theorem own_w {Z : State} {a0 : Array Value} (hw : ∀ d ∈ tables_1, d.before a0 Z = true) (i : Nat) {d : Jvm.Cond} (h : tables_1[i]? = some d) : d.before a0 Z = true := hw _ (List.mem_of_getElem? h)
end OwnKit
def own_tl (x : Int32) : Int32 := if x = (-2147483648 : Int32) ∨ x = (2147483647 : Int32) then 1 else 0
theorem own_a {x : Int32} (h : x < (-2147483647 : Int32) ∨ (2147483646 : Int32) < x) : own_tl x = (1 : Int32) := by
  have r := x.le_toInt
  have r' := x.toInt_lt
  refine if_pos ?_
  rw [Int32.lt_iff_toInt_lt, Int32.lt_iff_toInt_lt] at h
  rw [← Int32.toInt_inj, ← Int32.toInt_inj]
  have e1 : (-2147483647 : Int32).toInt = -2147483647 := by decide
  have e2 : (2147483646 : Int32).toInt = 2147483646 := by decide
  have e3 : (-2147483648 : Int32).toInt = -2147483648 := by decide
  have e4 : (2147483647 : Int32).toInt = 2147483647 := by decide
  omega
theorem own_b {x : Int32} (h : ¬ x < (-2147483647 : Int32)) (h' : ¬ (2147483646 : Int32) < x) : own_tl x = (0 : Int32) := by
  refine if_neg ?_
  rw [Int32.lt_iff_toInt_lt] at h h'
  rw [← Int32.toInt_inj, ← Int32.toInt_inj]
  have e1 : (-2147483647 : Int32).toInt = -2147483647 := by decide
  have e2 : (2147483646 : Int32).toInt = 2147483646 := by decide
  have e3 : (-2147483648 : Int32).toInt = -2147483648 := by decide
  have e4 : (2147483647 : Int32).toInt = 2147483647 := by decide
  omega
theorem d1_0 : decode prog_33_method_6_code 0 = .ok (.iload_n 0, 1) := by decide +kernel
theorem d1_1 : decode prog_33_method_6_code 1 = .ok (.ldc 5, 2) := by decide +kernel
theorem d1_3 : decode prog_33_method_6_code 3 = .ok (.if_icmp .eq 9, 3) := by decide +kernel
theorem d1_6 : decode prog_33_method_6_code 6 = .ok (.iload_n 0, 1) := by decide +kernel
theorem d1_7 : decode prog_33_method_6_code 7 = .ok (.ldc 6, 2) := by decide +kernel
theorem d1_9 : decode prog_33_method_6_code 9 = .ok (.if_icmp .ne 7, 3) := by decide +kernel
theorem d1_12 : decode prog_33_method_6_code 12 = .ok (.iconst 1, 1) := by decide +kernel
theorem d1_13 : decode prog_33_method_6_code 13 = .ok (.goto 4, 3) := by decide +kernel
theorem d1_16 : decode prog_33_method_6_code 16 = .ok (.iconst 0, 1) := by decide +kernel
theorem d1_17 : decode prog_33_method_6_code 17 = .ok (.ireturn, 1) := by decide +kernel
theorem pn_1 : plainName "com/example/chronoweave/chronoweave/Statement" = true := by first | (simp [plainName, overriddenIn]; done) | decide +kernel
theorem ef_1_I (m : MethodId) (x0 : Int32) : entryFrame m #[(.int x0)] 1 = mkF m 0 #[.val (.int x0)] [] := by first | (simp [entryFrame, mkF, argsToLocals, Value.category]; done) | rfl
def Q_rm1 (Z : State) (p0 : Int32) (h0 : Heap) (n0 : Nat) (v : Option Value) (h : Heap) (L : List Loc) : Prop := v = some (.int (own_tl p0)) ∧ Fr n0 L ∧ h = h0
set_option maxRecDepth 65536 in
set_option maxHeartbeats 40000000 in
theorem rm1 (l : Launch) (Z : State) (a0 : Array Value) (hw : ∀ d ∈ tables_1, d.before a0 Z = true) (ws : List Jvm.Cond) (p0 : Int32) (h0 : Heap) (n0 : Nat) (Z0 : n0 ≤ h0.size)  :
    MetFree l (⟨"com/example/chronoweave/chronoweave/Statement", "isTimeless", "(I)Z"⟩ : MethodName) (head1 (Jvm.Cond.code (⟨"com/example/chronoweave/chronoweave/Statement", "isTimeless", "(I)Z"⟩ : MethodName) prog_33_method_6_code 1 (some .boolean) :: ws) ({ frames := 0, cells := 0, slots := 0, locals := 0 } : Room)) (fun a U => a = #[(.int p0)] ∧ Z.Warmed39 U.vm ∧ U.heap = h0) (fun _ _ _ _ _ => True) (fun _ U o U' => ∃ v L, o = .returned v ∧ Q_rm1 Z p0 h0 n0 v U'.heap L ∧ FrameEnd U o U' L ({ frames := 0, cells := 0, slots := 0, locals := 0 } : Room).cells ({ frames := 0, cells := 0, slots := 0, locals := 0 } : Room).slots) := by
  refine own_met (y := (⟨"com/example/chronoweave/chronoweave/Statement", "isTimeless", "(I)Z"⟩ : MethodName)) (Q := (Q_rm1 Z p0 h0 n0)) (plainFor_of_name pn_1) fun p e s m below meth c s₁ X0 hx hby hml hret hlk hown hnm hZ e0 => ?_
  refine own_entry (ef_1_I m p0) ?_
  refine own_to s₁ (mkF m 3 #[.val (.int p0)] [(.int (-2147483648 : Int32)), (.int p0)]) (fun t k => XS.iloadN X0.here hx rfl (hb hby d1_0) rfl (X0.ldcInt hx hown (mvT hZ (own_w hw 6 rfl)) (g := (mkF m 1 #[.val (.int p0)] [(.int p0)])) rfl (hb hby d1_1) _ k)) ?_
  by_cases c3 : p0 = (-2147483648 : Int32)
  · skip
    refine own_to s₁ (mkF m 17 #[.val (.int p0)] [(.int (1 : Int32))]) (fun t k => XS.icmpYes X0.here hx rfl (pc0 := 3) (pc' := 12) rfl (hb hby d1_3) rfl (teq c3).1 (by decide) (by decide) (XS.iconst X0.here hx rfl (hb hby d1_12) (XS.goto X0.here hx rfl (pc0 := 13) (pc' := 17) rfl (hb hby d1_13) (by decide) (by decide) k))) ?_
    exact own_retZ X0 hx hret hlk (hb hby d1_17) (by decide) (by decide) (Or.inr rfl) ⟨congrArg (fun z => some (Value.int z)) (show (1 : Int32) = own_tl p0 from (if_pos (Or.inl c3)).symm), (Fr.nil n0), e0⟩
  · skip
    refine own_to s₁ (mkF m 9 #[.val (.int p0)] [(.int (2147483647 : Int32)), (.int p0)]) (fun t k => XS.icmpNo X0.here hx rfl (hb hby d1_3) rfl (feq c3).1 (XS.iloadN X0.here hx rfl (hb hby d1_6) rfl (X0.ldcInt hx hown (mvT hZ (own_w hw 7 rfl)) (g := (mkF m 7 #[.val (.int p0)] [(.int p0)])) rfl (hb hby d1_7) _ k))) ?_
    by_cases c9 : p0 = (2147483647 : Int32)
    · skip
      refine own_to s₁ (mkF m 17 #[.val (.int p0)] [(.int (1 : Int32))]) (fun t k => XS.icmpNo X0.here hx rfl (hb hby d1_9) rfl (teq c9).2 (XS.iconst X0.here hx rfl (hb hby d1_12) (XS.goto X0.here hx rfl (pc0 := 13) (pc' := 17) rfl (hb hby d1_13) (by decide) (by decide) k))) ?_
      exact own_retZ X0 hx hret hlk (hb hby d1_17) (by decide) (by decide) (Or.inr rfl) ⟨congrArg (fun z => some (Value.int z)) (show (1 : Int32) = own_tl p0 from (if_pos (Or.inr c9)).symm), (Fr.nil n0), e0⟩
    · skip
      refine own_to s₁ (mkF m 17 #[.val (.int p0)] [(.int (0 : Int32))]) (fun t k => XS.icmpYes X0.here hx rfl (pc0 := 9) (pc' := 16) rfl (hb hby d1_9) rfl (feq c9).2 (by decide) (by decide) (XS.iconst X0.here hx rfl (hb hby d1_16) k)) ?_
      exact own_retZ X0 hx hret hlk (hb hby d1_17) (by decide) (by decide) (Or.inl rfl) ⟨congrArg (fun z => some (Value.int z)) (show (0 : Int32) = own_tl p0 from (if_neg (fun q => q.elim c3 c9)).symm), (Fr.nil n0), e0⟩
theorem pn_0 : plainName "com/example/chronoweave/chronoweave/StatementIsTimelessPinLaw" = true := by first | (simp [plainName, overriddenIn]; done) | decide +kernel
theorem ef_0_II (m : MethodId) (x0 : Int32) (x1 : Int32) : entryFrame m #[(.int x0), (.int x1)] maxLocals = mkF m 0 #[.val (.int x0), .val (.int x1), .unset, .unset, .unset, .unset, .unset] [] := by first | (simp [entryFrame, mkF, argsToLocals, Value.category, maxLocals]; done) | rfl
def Q_rm0 (Z : State) (i0 i1 : Int32) (h0 : Heap) (n0 : Nat) (v : Option Value) (h : Heap) (L : List Loc) : Prop := v = some (.int 1) ∧ Fr n0 L
theorem pd_0 : parseMethodDescriptor "(I)Z" = some ⟨[.int], some .boolean⟩ := by decide +kernel
set_option maxRecDepth 65536 in
set_option maxHeartbeats 40000000 in
theorem rm0 (l : Launch) (Z : State) (a0 : Array Value) (hw : ∀ d ∈ tables_1, d.before a0 Z = true) (ws : List Jvm.Cond) (i0 i1 : Int32) (h0 : Heap) (n0 : Nat) (Z0 : n0 ≤ h0.size)  :
    MetFree l x (head1 (Jvm.Cond.code x code maxLocals ret :: ws) room_1) (fun a U => a = #[(.int i0), (.int i1)] ∧ Z.Warmed39 U.vm ∧ U.heap = h0) (fun _ _ _ _ _ => True) (fun _ U o U' => ∃ v L, o = .returned v ∧ Q_rm0 Z i0 i1 h0 n0 v U'.heap L ∧ FrameEnd U o U' L room_1.cells room_1.slots) := by
  refine own_met (y := x) (Q := (Q_rm0 Z i0 i1 h0 n0)) (plainFor_of_name pn_0) fun p e s m below meth c s₁ X0 hx hby hml hret hlk hown hnm hZ e0 => ?_
  refine own_entry (ef_0_II m i0 i1) ?_
  have J36 : ∀ (m2 x3 : Int32), Own p e below s room_1.cells room_1.slots (Q_rm0 Z i0 i1 h0 n0) s₁ (mkF m 36 #[.val (.int i0), .val (.int i1), .val (.int m2), .val (.int x3), .unset, .unset, .unset] []) := by
    intro m2 x3
    refine own_to s₁ (mkF m 39 #[.val (.int i0), .val (.int i1), .val (.int m2), .val (.int x3), .unset, .unset, .unset] [(.int (-2147483647 : Int32)), (.int x3)]) (fun t k => XS.iloadN X0.here hx rfl (hb hby at_36) rfl (X0.ldcInt hx hown (mvT hZ (own_w hw 0 rfl)) (g := (mkF m 37 #[.val (.int i0), .val (.int i1), .val (.int m2), .val (.int x3), .unset, .unset, .unset] [(.int x3)])) rfl (hb hby at_37) _ k)) ?_
    by_cases c39 : x3 < (-2147483647 : Int32)
    · skip
      refine own_to s₁ (mkF m 52 #[.val (.int i0), .val (.int i1), .val (.int m2), .val (.int x3), .val (.int (1 : Int32)), .unset, .unset] [(.int (2147483646 : Int32)), (.int x3)]) (fun t k => XS.icmpNo X0.here hx rfl (hb hby at_39) rfl (tlt c39).2.1 (XS.iconst X0.here hx rfl (hb hby at_42) (XS.goto X0.here hx rfl (pc0 := 43) (pc' := 47) rfl (hb hby at_43) (by decide) (by decide) (XS.istore X0.here hx rfl (hb hby at_47) rfl (l' := #[.val (.int i0), .val (.int i1), .val (.int m2), .val (.int x3), .val (.int (1 : Int32)), .unset, .unset]) rfl (XS.iloadN X0.here hx rfl (hb hby at_49) rfl (X0.ldcInt hx hown (mvT hZ (own_w hw 1 rfl)) (g := (mkF m 50 #[.val (.int i0), .val (.int i1), .val (.int m2), .val (.int x3), .val (.int (1 : Int32)), .unset, .unset] [(.int x3)])) rfl (hb hby at_50) _ k)))))) ?_
      by_cases c52 : (2147483646 : Int32) < x3
      · skip
        refine own_to s₁ (mkF m 80 #[.val (.int i0), .val (.int i1), .val (.int m2), .val (.int x3), .val (.int (1 : Int32)), .val (.int (1 : Int32)), .val (.int (1 : Int32))] [(.int x3)]) (fun t k => XS.icmpNo X0.here hx rfl (hb hby at_52) rfl (tlt c52).2.2.2 (XS.iconst X0.here hx rfl (hb hby at_55) (XS.goto X0.here hx rfl (pc0 := 56) (pc' := 60) rfl (hb hby at_56) (by decide) (by decide) (XS.istore X0.here hx rfl (hb hby at_60) rfl (l' := #[.val (.int i0), .val (.int i1), .val (.int m2), .val (.int x3), .val (.int (1 : Int32)), .val (.int (1 : Int32)), .unset]) rfl (XS.iload X0.here hx rfl (hb hby at_62) rfl (XS.ifYes X0.here hx rfl (pc0 := 64) (pc' := 72) rfl (hb hby at_64) rfl ((if0 _ _).trans (feq (by decide : ¬ ((1 : Int32) = (0 : Int32)))).2) (by decide) (by decide) (XS.iconst X0.here hx rfl (hb hby at_72) (XS.goto X0.here hx rfl (pc0 := 73) (pc' := 77) rfl (hb hby at_73) (by decide) (by decide) (XS.istore X0.here hx rfl (hb hby at_77) rfl (l' := #[.val (.int i0), .val (.int i1), .val (.int m2), .val (.int x3), .val (.int (1 : Int32)), .val (.int (1 : Int32)), .val (.int (1 : Int32))]) rfl (XS.iloadN X0.here hx rfl (hb hby at_79) rfl k)))))))))) ?_
        obtain ⟨_, _, ⟨T1, L1, k1, n1⟩, -, X1, ⟨Lc1, hQ1, l1, y1, z1⟩, st1⟩ := Jvm.LawKit.callS X0 hx (y := (⟨"com/example/chronoweave/chronoweave/Statement", "isTimeless", "(I)Z"⟩ : MethodName)) hown (mvT hZ (own_w hw 2 rfl)) (mvT hZ (own_w hw 3 rfl)) (mvT hZ (own_w hw 4 rfl)) (mvT hZ (own_w hw 5 rfl)) (by decide) (backOf (W := 0) (rm1 l Z a0 hw [] x3 h0 n0 Z0) hZ (own_w hw 5 rfl) (own_w hw 4 rfl) (by decide) (by decide)) (g := (mkF m 80 #[.val (.int i0), .val (.int i1), .val (.int m2), .val (.int x3), .val (.int (1 : Int32)), .val (.int (1 : Int32)), .val (.int (1 : Int32))] [(.int x3)])) rfl (by rw [hml]; rfl) (argsL := [(.int x3)]) (rest := []) (lenOf pd_0 rfl) rfl (by show 2 * 0 + _ ≤ _; exact Nat.le_of_eq rfl) (hb hby at_80) (fun _ _ => ⟨rfl, e0, (by decide : 0 + 0 ≤ _), (by decide : 0 + 0 ≤ _)⟩)
        dsimp only [Pt.U, Pt.locs, Pt.cells, Pt.slots] at X1 l1 y1 z1 st1 hQ1
        subst l1 y1 z1
        obtain ⟨rfl, N1q, e1⟩ := hQ1
        have N1 := Fr.app (Fr.nil n0) N1q
        refine own_to T1 (mkF m 93 #[.val (.int i0), .val (.int i1), .val (.int m2), .val (.int x3), .val (.int (1 : Int32)), .val (.int (1 : Int32)), .val (.int (1 : Int32))] [(.int (1 : Int32))]) (fun t k => st1 _ (XS.iload X1.here hx rfl (hb hby at_83) rfl (XS.icmpNo X1.here hx rfl (hb hby at_85) rfl (teq (own_a (Or.inl c39))).2 (XS.iconst X1.here hx rfl (hb hby at_88) (XS.goto X1.here hx rfl (pc0 := 89) (pc' := 93) rfl (hb hby at_89) (by decide) (by decide) k))))) ?_
        exact own_retZ X1 hx hret hlk (hb hby at_93) (by decide) (by decide) (Or.inr rfl) ⟨rfl, N1⟩
      · skip
        refine own_to s₁ (mkF m 80 #[.val (.int i0), .val (.int i1), .val (.int m2), .val (.int x3), .val (.int (1 : Int32)), .val (.int (0 : Int32)), .val (.int (1 : Int32))] [(.int x3)]) (fun t k => XS.icmpYes X0.here hx rfl (pc0 := 52) (pc' := 59) rfl (hb hby at_52) rfl (flt c52).2.2.2 (by decide) (by decide) (XS.iconst X0.here hx rfl (hb hby at_59) (XS.istore X0.here hx rfl (hb hby at_60) rfl (l' := #[.val (.int i0), .val (.int i1), .val (.int m2), .val (.int x3), .val (.int (1 : Int32)), .val (.int (0 : Int32)), .unset]) rfl (XS.iload X0.here hx rfl (hb hby at_62) rfl (XS.ifYes X0.here hx rfl (pc0 := 64) (pc' := 72) rfl (hb hby at_64) rfl ((if0 _ _).trans (feq (by decide : ¬ ((1 : Int32) = (0 : Int32)))).2) (by decide) (by decide) (XS.iconst X0.here hx rfl (hb hby at_72) (XS.goto X0.here hx rfl (pc0 := 73) (pc' := 77) rfl (hb hby at_73) (by decide) (by decide) (XS.istore X0.here hx rfl (hb hby at_77) rfl (l' := #[.val (.int i0), .val (.int i1), .val (.int m2), .val (.int x3), .val (.int (1 : Int32)), .val (.int (0 : Int32)), .val (.int (1 : Int32))]) rfl (XS.iloadN X0.here hx rfl (hb hby at_79) rfl k))))))))) ?_
        obtain ⟨_, _, ⟨T2, L2, k2, n2⟩, -, X2, ⟨Lc2, hQ2, l2, y2, z2⟩, st2⟩ := Jvm.LawKit.callS X0 hx (y := (⟨"com/example/chronoweave/chronoweave/Statement", "isTimeless", "(I)Z"⟩ : MethodName)) hown (mvT hZ (own_w hw 2 rfl)) (mvT hZ (own_w hw 3 rfl)) (mvT hZ (own_w hw 4 rfl)) (mvT hZ (own_w hw 5 rfl)) (by decide) (backOf (W := 0) (rm1 l Z a0 hw [] x3 h0 n0 Z0) hZ (own_w hw 5 rfl) (own_w hw 4 rfl) (by decide) (by decide)) (g := (mkF m 80 #[.val (.int i0), .val (.int i1), .val (.int m2), .val (.int x3), .val (.int (1 : Int32)), .val (.int (0 : Int32)), .val (.int (1 : Int32))] [(.int x3)])) rfl (by rw [hml]; rfl) (argsL := [(.int x3)]) (rest := []) (lenOf pd_0 rfl) rfl (by show 2 * 0 + _ ≤ _; exact Nat.le_of_eq rfl) (hb hby at_80) (fun _ _ => ⟨rfl, e0, (by decide : 0 + 0 ≤ _), (by decide : 0 + 0 ≤ _)⟩)
        dsimp only [Pt.U, Pt.locs, Pt.cells, Pt.slots] at X2 l2 y2 z2 st2 hQ2
        subst l2 y2 z2
        obtain ⟨rfl, N2q, e2⟩ := hQ2
        have N2 := Fr.app (Fr.nil n0) N2q
        refine own_to T2 (mkF m 93 #[.val (.int i0), .val (.int i1), .val (.int m2), .val (.int x3), .val (.int (1 : Int32)), .val (.int (0 : Int32)), .val (.int (1 : Int32))] [(.int (1 : Int32))]) (fun t k => st2 _ (XS.iload X2.here hx rfl (hb hby at_83) rfl (XS.icmpNo X2.here hx rfl (hb hby at_85) rfl (teq (own_a (Or.inl c39))).2 (XS.iconst X2.here hx rfl (hb hby at_88) (XS.goto X2.here hx rfl (pc0 := 89) (pc' := 93) rfl (hb hby at_89) (by decide) (by decide) k))))) ?_
        exact own_retZ X2 hx hret hlk (hb hby at_93) (by decide) (by decide) (Or.inr rfl) ⟨rfl, N2⟩
    · skip
      refine own_to s₁ (mkF m 52 #[.val (.int i0), .val (.int i1), .val (.int m2), .val (.int x3), .val (.int (0 : Int32)), .unset, .unset] [(.int (2147483646 : Int32)), (.int x3)]) (fun t k => XS.icmpYes X0.here hx rfl (pc0 := 39) (pc' := 46) rfl (hb hby at_39) rfl (flt c39).2.1 (by decide) (by decide) (XS.iconst X0.here hx rfl (hb hby at_46) (XS.istore X0.here hx rfl (hb hby at_47) rfl (l' := #[.val (.int i0), .val (.int i1), .val (.int m2), .val (.int x3), .val (.int (0 : Int32)), .unset, .unset]) rfl (XS.iloadN X0.here hx rfl (hb hby at_49) rfl (X0.ldcInt hx hown (mvT hZ (own_w hw 1 rfl)) (g := (mkF m 50 #[.val (.int i0), .val (.int i1), .val (.int m2), .val (.int x3), .val (.int (0 : Int32)), .unset, .unset] [(.int x3)])) rfl (hb hby at_50) _ k))))) ?_
      by_cases c52 : (2147483646 : Int32) < x3
      · skip
        refine own_to s₁ (mkF m 77 #[.val (.int i0), .val (.int i1), .val (.int m2), .val (.int x3), .val (.int (0 : Int32)), .val (.int (1 : Int32)), .unset] [(.int (1 : Int32))]) (fun t k => XS.icmpNo X0.here hx rfl (hb hby at_52) rfl (tlt c52).2.2.2 (XS.iconst X0.here hx rfl (hb hby at_55) (XS.goto X0.here hx rfl (pc0 := 56) (pc' := 60) rfl (hb hby at_56) (by decide) (by decide) (XS.istore X0.here hx rfl (hb hby at_60) rfl (l' := #[.val (.int i0), .val (.int i1), .val (.int m2), .val (.int x3), .val (.int (0 : Int32)), .val (.int (1 : Int32)), .unset]) rfl (XS.iload X0.here hx rfl (hb hby at_62) rfl (XS.ifNo X0.here hx rfl (hb hby at_64) rfl ((if0 _ _).trans (teq (by decide : (0 : Int32) = (0 : Int32))).2) (XS.iload X0.here hx rfl (hb hby at_67) rfl (XS.ifNo X0.here hx rfl (hb hby at_69) rfl ((if0 _ _).trans (feq (by decide : ¬ ((1 : Int32) = (0 : Int32)))).1) (XS.iconst X0.here hx rfl (hb hby at_72) (XS.goto X0.here hx rfl (pc0 := 73) (pc' := 77) rfl (hb hby at_73) (by decide) (by decide) k)))))))))) ?_
        refine own_to s₁ (mkF m 80 #[.val (.int i0), .val (.int i1), .val (.int m2), .val (.int x3), .val (.int (0 : Int32)), .val (.int (1 : Int32)), .val (.int (1 : Int32))] [(.int x3)]) (fun t k => XS.istore X0.here hx rfl (hb hby at_77) rfl (l' := #[.val (.int i0), .val (.int i1), .val (.int m2), .val (.int x3), .val (.int (0 : Int32)), .val (.int (1 : Int32)), .val (.int (1 : Int32))]) rfl (XS.iloadN X0.here hx rfl (hb hby at_79) rfl k)) ?_
        obtain ⟨_, _, ⟨T3, L3, k3, n3⟩, -, X3, ⟨Lc3, hQ3, l3, y3, z3⟩, st3⟩ := Jvm.LawKit.callS X0 hx (y := (⟨"com/example/chronoweave/chronoweave/Statement", "isTimeless", "(I)Z"⟩ : MethodName)) hown (mvT hZ (own_w hw 2 rfl)) (mvT hZ (own_w hw 3 rfl)) (mvT hZ (own_w hw 4 rfl)) (mvT hZ (own_w hw 5 rfl)) (by decide) (backOf (W := 0) (rm1 l Z a0 hw [] x3 h0 n0 Z0) hZ (own_w hw 5 rfl) (own_w hw 4 rfl) (by decide) (by decide)) (g := (mkF m 80 #[.val (.int i0), .val (.int i1), .val (.int m2), .val (.int x3), .val (.int (0 : Int32)), .val (.int (1 : Int32)), .val (.int (1 : Int32))] [(.int x3)])) rfl (by rw [hml]; rfl) (argsL := [(.int x3)]) (rest := []) (lenOf pd_0 rfl) rfl (by show 2 * 0 + _ ≤ _; exact Nat.le_of_eq rfl) (hb hby at_80) (fun _ _ => ⟨rfl, e0, (by decide : 0 + 0 ≤ _), (by decide : 0 + 0 ≤ _)⟩)
        dsimp only [Pt.U, Pt.locs, Pt.cells, Pt.slots] at X3 l3 y3 z3 st3 hQ3
        subst l3 y3 z3
        obtain ⟨rfl, N3q, e3⟩ := hQ3
        have N3 := Fr.app (Fr.nil n0) N3q
        refine own_to T3 (mkF m 93 #[.val (.int i0), .val (.int i1), .val (.int m2), .val (.int x3), .val (.int (0 : Int32)), .val (.int (1 : Int32)), .val (.int (1 : Int32))] [(.int (1 : Int32))]) (fun t k => st3 _ (XS.iload X3.here hx rfl (hb hby at_83) rfl (XS.icmpNo X3.here hx rfl (hb hby at_85) rfl (teq (own_a (Or.inr c52))).2 (XS.iconst X3.here hx rfl (hb hby at_88) (XS.goto X3.here hx rfl (pc0 := 89) (pc' := 93) rfl (hb hby at_89) (by decide) (by decide) k))))) ?_
        exact own_retZ X3 hx hret hlk (hb hby at_93) (by decide) (by decide) (Or.inr rfl) ⟨rfl, N3⟩
      · skip
        refine own_to s₁ (mkF m 80 #[.val (.int i0), .val (.int i1), .val (.int m2), .val (.int x3), .val (.int (0 : Int32)), .val (.int (0 : Int32)), .val (.int (0 : Int32))] [(.int x3)]) (fun t k => XS.icmpYes X0.here hx rfl (pc0 := 52) (pc' := 59) rfl (hb hby at_52) rfl (flt c52).2.2.2 (by decide) (by decide) (XS.iconst X0.here hx rfl (hb hby at_59) (XS.istore X0.here hx rfl (hb hby at_60) rfl (l' := #[.val (.int i0), .val (.int i1), .val (.int m2), .val (.int x3), .val (.int (0 : Int32)), .val (.int (0 : Int32)), .unset]) rfl (XS.iload X0.here hx rfl (hb hby at_62) rfl (XS.ifNo X0.here hx rfl (hb hby at_64) rfl ((if0 _ _).trans (teq (by decide : (0 : Int32) = (0 : Int32))).2) (XS.iload X0.here hx rfl (hb hby at_67) rfl (XS.ifYes X0.here hx rfl (pc0 := 69) (pc' := 76) rfl (hb hby at_69) rfl ((if0 _ _).trans (teq (by decide : (0 : Int32) = (0 : Int32))).1) (by decide) (by decide) (XS.iconst X0.here hx rfl (hb hby at_76) (XS.istore X0.here hx rfl (hb hby at_77) rfl (l' := #[.val (.int i0), .val (.int i1), .val (.int m2), .val (.int x3), .val (.int (0 : Int32)), .val (.int (0 : Int32)), .val (.int (0 : Int32))]) rfl (XS.iloadN X0.here hx rfl (hb hby at_79) rfl k)))))))))) ?_
        obtain ⟨_, _, ⟨T4, L4, k4, n4⟩, -, X4, ⟨Lc4, hQ4, l4, y4, z4⟩, st4⟩ := Jvm.LawKit.callS X0 hx (y := (⟨"com/example/chronoweave/chronoweave/Statement", "isTimeless", "(I)Z"⟩ : MethodName)) hown (mvT hZ (own_w hw 2 rfl)) (mvT hZ (own_w hw 3 rfl)) (mvT hZ (own_w hw 4 rfl)) (mvT hZ (own_w hw 5 rfl)) (by decide) (backOf (W := 0) (rm1 l Z a0 hw [] x3 h0 n0 Z0) hZ (own_w hw 5 rfl) (own_w hw 4 rfl) (by decide) (by decide)) (g := (mkF m 80 #[.val (.int i0), .val (.int i1), .val (.int m2), .val (.int x3), .val (.int (0 : Int32)), .val (.int (0 : Int32)), .val (.int (0 : Int32))] [(.int x3)])) rfl (by rw [hml]; rfl) (argsL := [(.int x3)]) (rest := []) (lenOf pd_0 rfl) rfl (by show 2 * 0 + _ ≤ _; exact Nat.le_of_eq rfl) (hb hby at_80) (fun _ _ => ⟨rfl, e0, (by decide : 0 + 0 ≤ _), (by decide : 0 + 0 ≤ _)⟩)
        dsimp only [Pt.U, Pt.locs, Pt.cells, Pt.slots] at X4 l4 y4 z4 st4 hQ4
        subst l4 y4 z4
        obtain ⟨rfl, N4q, e4⟩ := hQ4
        have N4 := Fr.app (Fr.nil n0) N4q
        refine own_to T4 (mkF m 93 #[.val (.int i0), .val (.int i1), .val (.int m2), .val (.int x3), .val (.int (0 : Int32)), .val (.int (0 : Int32)), .val (.int (0 : Int32))] [(.int (1 : Int32))]) (fun t k => st4 _ (XS.iload X4.here hx rfl (hb hby at_83) rfl (XS.icmpNo X4.here hx rfl (hb hby at_85) rfl (teq (own_b c39 c52)).2 (XS.iconst X4.here hx rfl (hb hby at_88) (XS.goto X4.here hx rfl (pc0 := 89) (pc' := 93) rfl (hb hby at_89) (by decide) (by decide) k))))) ?_
        exact own_retZ X4 hx hret hlk (hb hby at_93) (by decide) (by decide) (Or.inr rfl) ⟨rfl, N4⟩
  refine own_to s₁ (mkF m 6 #[.val (.int i0), .val (.int i1), .val (.int (i0 &&& (3 : Int32))), .unset, .unset, .unset, .unset] [(.int (1 : Int32)), (.int (i0 &&& (3 : Int32)))]) (fun t k => XS.iloadN X0.here hx rfl (hb hby at_0) rfl (XS.iconst X0.here hx rfl (hb hby at_1) (XS.iand X0.here hx rfl (hb hby at_2) rfl (XS.istoreN X0.here hx rfl (hb hby at_3) rfl (l' := #[.val (.int i0), .val (.int i1), .val (.int (i0 &&& (3 : Int32))), .unset, .unset, .unset, .unset]) rfl (XS.iloadN X0.here hx rfl (hb hby at_4) rfl (XS.iconst X0.here hx rfl (hb hby at_5) k)))))) ?_
  by_cases c6 : (i0 &&& (3 : Int32)) = (1 : Int32)
  · skip
    refine own_to s₁ (mkF m 36 #[.val (.int i0), .val (.int i1), .val (.int (i0 &&& (3 : Int32))), .val (.int ((-2147483648 : Int32) + (i1 &&& (1 : Int32)))), .unset, .unset, .unset] []) (fun t k => XS.icmpNo X0.here hx rfl (hb hby at_6) rfl (teq c6).2 (X0.ldcInt hx hown (mvT hZ (own_w hw 9 rfl)) (g := (mkF m 9 #[.val (.int i0), .val (.int i1), .val (.int (i0 &&& (3 : Int32))), .unset, .unset, .unset, .unset] [])) rfl (hb hby at_9) _ (XS.iloadN X0.here hx rfl (hb hby at_11) rfl (XS.iconst X0.here hx rfl (hb hby at_12) (XS.iand X0.here hx rfl (hb hby at_13) rfl (XS.iadd X0.here hx rfl (hb hby at_14) rfl (XS.istoreN X0.here hx rfl (hb hby at_15) rfl (l' := #[.val (.int i0), .val (.int i1), .val (.int (i0 &&& (3 : Int32))), .val (.int ((-2147483648 : Int32) + (i1 &&& (1 : Int32)))), .unset, .unset, .unset]) rfl (XS.goto X0.here hx rfl (pc0 := 16) (pc' := 36) rfl (hb hby at_16) (by decide) (by decide) k)))))))) ?_
    exact J36 _ _
  · skip
    refine own_to s₁ (mkF m 21 #[.val (.int i0), .val (.int i1), .val (.int (i0 &&& (3 : Int32))), .unset, .unset, .unset, .unset] [(.int (2 : Int32)), (.int (i0 &&& (3 : Int32)))]) (fun t k => XS.icmpYes X0.here hx rfl (pc0 := 6) (pc' := 19) rfl (hb hby at_6) rfl (feq c6).2 (by decide) (by decide) (XS.iloadN X0.here hx rfl (hb hby at_19) rfl (XS.iconst X0.here hx rfl (hb hby at_20) k))) ?_
    by_cases c21 : (i0 &&& (3 : Int32)) = (2 : Int32)
    · skip
      refine own_to s₁ (mkF m 36 #[.val (.int i0), .val (.int i1), .val (.int (i0 &&& (3 : Int32))), .val (.int ((2147483647 : Int32) - (i1 &&& (1 : Int32)))), .unset, .unset, .unset] []) (fun t k => XS.icmpNo X0.here hx rfl (hb hby at_21) rfl (teq c21).2 (X0.ldcInt hx hown (mvT hZ (own_w hw 8 rfl)) (g := (mkF m 24 #[.val (.int i0), .val (.int i1), .val (.int (i0 &&& (3 : Int32))), .unset, .unset, .unset, .unset] [])) rfl (hb hby at_24) _ (XS.iloadN X0.here hx rfl (hb hby at_26) rfl (XS.iconst X0.here hx rfl (hb hby at_27) (XS.iand X0.here hx rfl (hb hby at_28) rfl (XS.isub X0.here hx rfl (hb hby at_29) rfl (XS.istoreN X0.here hx rfl (hb hby at_30) rfl (l' := #[.val (.int i0), .val (.int i1), .val (.int (i0 &&& (3 : Int32))), .val (.int ((2147483647 : Int32) - (i1 &&& (1 : Int32)))), .unset, .unset, .unset]) rfl (XS.goto X0.here hx rfl (pc0 := 31) (pc' := 36) rfl (hb hby at_31) (by decide) (by decide) k)))))))) ?_
      exact J36 _ _
    · skip
      refine own_to s₁ (mkF m 36 #[.val (.int i0), .val (.int i1), .val (.int (i0 &&& (3 : Int32))), .val (.int i1), .unset, .unset, .unset] []) (fun t k => XS.icmpYes X0.here hx rfl (pc0 := 21) (pc' := 34) rfl (hb hby at_21) rfl (feq c21).2 (by decide) (by decide) (XS.iloadN X0.here hx rfl (hb hby at_34) rfl (XS.istoreN X0.here hx rfl (hb hby at_35) rfl (l' := #[.val (.int i0), .val (.int i1), .val (.int (i0 &&& (3 : Int32))), .val (.int i1), .unset, .unset, .unset]) rfl k))) ?_
      exact J36 _ _
set_option maxRecDepth 65536 in
set_option maxHeartbeats 40000000 in
theorem comes_1 {Post : Tables → Env → Array Value → State → Outcome → State → Prop} (hpost : ∀ tb e args s v u, (limb_1_1.after args s (.returned v) u = true ∧ limb_1_2.after args s (.returned v) u = true ∧ True) → FrameEnd s (.returned v) u (Jvm.fieldLocs frame_1_writes args s ++ Jvm.arrayLocs frame_1_arrays args s ++ Jvm.staticLocs frame_1_statics s) 0 0 → Post tb e args s (.returned v) u) :
    ArmFor flags0 classFile x code maxLocals ret World_1 tables_1 room_1 Calls_1 rest_1 Pre_1 Post := by
  intro l hfl _ _ p e ha hc hk s m args below hf hA hF happ hP
  obtain ⟨hcalls, hrest, hpre⟩ := hP
  obtain ⟨-, -, -, hnamed, -, -, -, hat⟩ := (Spec.applies_iff hf).mp happ
  obtain ⟨hg, hn⟩ := and_e (Cond.before_iff.mp (show (Jvm.Cond.and given_1 narrow_1).before args s = true from hpre))
  obtain ⟨q1, q2⟩ := and_e hg
  obtain ⟨q3, q4⟩ := and_e q2
  obtain ⟨w0, w1, rfl⟩ : ∃ w0 w1 : Value, args = #[w0, w1] := by
    have hs : args.size = 2 := by simpa [Cond.value, given_1] using q1
    obtain ⟨L⟩ := args
    match L, hs with
    | [w0, w1], _ => exact ⟨w0, w1, rfl⟩
  have hw := fun d (hd : d ∈ tables_1) => atoms_spec (ws := Jvm.Cond.code x code maxLocals ret :: tables_1) hat d (List.mem_cons_of_mem _ hd)
  have hfit : Fit s := fun {y c} hc i hi => by
    obtain ⟨ha, rfl⟩ := Array.getElem?_eq_some_iff.mp hc
    have q := List.all_eq_true.mp ((Array.all_eq_true_iff_forall_mem.mp hF) _ (Array.getElem_mem ha)) i (List.mem_range.mpr hi)
    simpa [Array.getElem?_eq_getElem hi] using q
  obtain ⟨i0, ei0⟩ := is_v q3
  obtain rfl : w0 = (.int i0) := Option.some.inj ei0
  obtain ⟨i1, ei1⟩ := is_v q4
  obtain rfl : w1 = (.int i1) := Option.some.inj ei1
  obtain ⟨n, o, h1, h2, h3, _, L, rfl, ⟨rfl, N⟩, hq⟩ := rm0 l s _ hw tables_1 i0 i1 s.heap s.heap.size (Nat.le_refl _)  p e ha hc hk s m _ below hf ((Spec.applies_iff_loose hf).mp happ).1 ⟨rfl, State.Warmed39.refl s, rfl⟩ trivial
  refine ⟨n, _, h1, h2, h3, hpost _ _ _ _ _ _ ⟨Cond.after_iff.mpr rfl, Cond.after_iff.mpr (eq_i res_at (Term.int_eval (1)) rfl), trivial⟩ ⟨hq.1, hq.2.1, (hq.2.2.sift fun y hy => Or.inr (N y hy)).mono (by decide) (by decide)⟩⟩
theorem main_1_1 : Claimed_1_1 := comes_1 fun _ _ _ _ _ _ h hF => ⟨h.1, hF⟩
theorem main_1_2 : Claimed_1_2 := comes_1 fun _ _ _ _ _ _ h hF => ⟨h.2.1, hF⟩
end Jvm.Pilot.@@N@@
namespace Jvm.Pilot.@@N@@
open Jvm Jvm.ClassFile Sem Op Lib Jvm.Free Jvm.Stand Jvm.Pilot.@@N@@.Jvm.D
/-! MADE BY PROGRAM (witnessworld.py) out of the Statement's table words and the real class files: 9 classes; the members and pool entries that the words name. The judged class is class 1, her method 1. -/
namespace start1
open Jvm.ClassFile
def u (s : String) : CpInfo := .utf8 (stringToUtf16 s)
/-- a pool by its gaps: so many unusable entries, then the entry; so many at the end -/
def gap : Nat → List CpInfo → List CpInfo
  | 0, r => r
  | n + 1, r => .unusable :: gap n r
def poolList (es : List (Nat × CpInfo)) (last : Nat) : List CpInfo := es.foldr (fun e r => gap e.1 (e.2 :: r)) (gap last [])
def pool (es : List (Nat × CpInfo)) (last : Nat) : Array CpInfo := ⟨poolList es last⟩
def fileOf (pool : Array CpInfo) (this : Nat) (attrs : Array Attribute := #[]) (ms : Array MethodInfo := #[]) (fl : Nat := 33) (sup : Nat := 0) (ifs : Array Nat := #[]) (fds : Array FieldInfo := #[]) : ClassFile where
  minorVersion := 0
  majorVersion := 65
  constantPool := pool
  accessFlags := fl
  thisClass := this
  superClass := sup
  interfaces := ifs
  fields := fds
  methods := ms
  attributes := attrs
def plain (name : String) (sup : Option ClassId) : Class where
  name := name
  kind := .ordinary
  loader := none
  accessFlags := 33
  super := sup
  interfaces := #[]
  cf := none
  fields := #[]
  methods := #[]
  instanceTypes := #[]
  staticTypes := #[]
  resolved := #[]
  callSites := []
  init := .initialized
  statics := none
  mirror := none

def pool0 : Array CpInfo := pool [(5, u "<init>"), (0, u "()V"), (1, .class_ 10), (1, u "java/lang/Object")] 113

def k0m0 : Method := { name := "<init>", desc := "()V", sig := { parameters := [], returnType := none }, accessFlags := 1, code := none }
/-- java/lang/Object -/
def k0 : Class := { plain "java/lang/Object" none with
  accessFlags := 33
  interfaces := #[]
  cf := some (fileOf pool0 8 #[] #[{ accessFlags := 1, nameIndex := 5, descriptorIndex := 6, attributes := #[] }] 33 0 #[] #[])
  fields := #[]
  methods := #[k0m0]
  instanceTypes := #[]
  staticTypes := #[]
  resolved := Array.replicate 124 none
  statics := none }

def pool1 : Array CpInfo := pool [(2, .class_ 4), (1, u "java/lang/Object"), (0, u "<init>"), (0, u "()V"), (2, .integer 2147483648), (0, .integer 2147483647), (0, .integer 2147483649), (0, .integer 2147483646), (0, .interfaceMethodref 14 15), (0, .class_ 16), (0, .nameAndType 17 18), (0, u "com/example/chronoweave/chronoweave/Statement"), (0, u "isTimeless"), (0, u "(I)Z"), (0, .class_ 20), (0, u "com/example/chronoweave/chronoweave/StatementIsTimelessPinLaw"), (2, u "law"), (0, u "(II)Z")] 3

def k1m0 : Method := { name := "<init>", desc := "()V", sig := { parameters := [], returnType := none }, accessFlags := 1, code := none }
def k1c1 : Code := { maxStack := 3, maxLocals := 7, code := code, exceptionTable := #[], attributes := #[] }
def k1m1 : Method := { name := "law", desc := "(II)Z", sig := { parameters := [.int, .int], returnType := some .boolean }, accessFlags := 9, code := some k1c1 }
/-- com/example/chronoweave/chronoweave/StatementIsTimelessPinLaw -/
def k1 : Class := { plain "com/example/chronoweave/chronoweave/StatementIsTimelessPinLaw" (some 0) with
  accessFlags := 49
  interfaces := #[]
  cf := some (fileOf pool1 19 #[] #[{ accessFlags := 1, nameIndex := 5, descriptorIndex := 6, attributes := #[] }, { accessFlags := 9, nameIndex := 23, descriptorIndex := 24, attributes := #[] }] 49 2 #[] #[])
  fields := #[]
  methods := #[k1m0, k1m1]
  instanceTypes := #[]
  staticTypes := #[]
  resolved := Array.replicate 28 none
  statics := none }

def pool2 : Array CpInfo := pool [(3, .class_ 4), (0, u "com/example/chronoweave/chronoweave/Statement"), (0, .integer 2147483648), (0, .integer 2147483647), (0, .class_ 8), (0, u "java/lang/Object"), (0, u "TIMELESS_BEGIN"), (0, u "I"), (1, u "TIMELESS_END"), (7, u "isTimeless"), (0, u "(I)Z")] 5

def k2c0 : Code := { maxStack := 2, maxLocals := 1, code := prog_33_method_6_code, exceptionTable := #[], attributes := #[] }
def k2m0 : Method := { name := "isTimeless", desc := "(I)Z", sig := { parameters := [.int], returnType := some .boolean }, accessFlags := 9, code := some k2c0 }
/-- com/example/chronoweave/chronoweave/Statement -/
def k2 : Class := { plain "com/example/chronoweave/chronoweave/Statement" (some 0) with
  accessFlags := 1537
  interfaces := #[]
  cf := some (fileOf pool2 3 #[] #[{ accessFlags := 9, nameIndex := 20, descriptorIndex := 21, attributes := #[] }] 1537 7 #[] #[{ accessFlags := 25, nameIndex := 9, descriptorIndex := 10, attributes := #[] }, { accessFlags := 25, nameIndex := 12, descriptorIndex := 10, attributes := #[] }])
  fields := #[{ name := "TIMELESS_BEGIN", type := .int, accessFlags := 25, slot := 0, constantValue := 0 }, { name := "TIMELESS_END", type := .int, accessFlags := 25, slot := 1, constantValue := 0 }]
  methods := #[k2m0]
  instanceTypes := #[]
  staticTypes := #[.int, .int]
  resolved := Array.replicate 27 none
  statics := none }

def pool3 : Array CpInfo := pool [(1, u "java/lang/Cloneable"), (0, .class_ 1), (0, u "java/lang/Object"), (0, .class_ 3)] 3

/-- java/lang/Cloneable -/
def k3 : Class := { plain "java/lang/Cloneable" (some 0) with
  accessFlags := 1537
  interfaces := #[]
  cf := some (fileOf pool3 2 #[] #[] 1537 4 #[] #[])
  fields := #[]
  methods := #[]
  instanceTypes := #[]
  staticTypes := #[]
  resolved := Array.replicate 8 none
  statics := none }

def pool4 : Array CpInfo := pool [(1, u "java/io/Serializable"), (0, .class_ 1), (0, u "java/lang/Object"), (0, .class_ 3)] 3

/-- java/io/Serializable -/
def k4 : Class := { plain "java/io/Serializable" (some 0) with
  accessFlags := 1537
  interfaces := #[]
  cf := some (fileOf pool4 2 #[] #[] 1537 4 #[] #[])
  fields := #[]
  methods := #[]
  instanceTypes := #[]
  staticTypes := #[]
  resolved := Array.replicate 8 none
  statics := none }

/-- the primitive byte -/
def k5 : Class := { plain "byte" none with kind := .primitive 'B', accessFlags := 0x411 }
/-- [B -/
def k6 : Class := { plain "[B" (some 0) with kind := .array 5 .byte, interfaces := #[3, 4], accessFlags := 1041 }

/-- the primitive int -/
def k7 : Class := { plain "int" none with kind := .primitive 'I', accessFlags := 0x411 }
/-- [I -/
def k8 : Class := { plain "[I" (some 0) with kind := .array 7 .int, interfaces := #[3, 4], accessFlags := 1041 }

def heap : Heap := #[]
def classes : Array Class := #[k0, k1, k2, k3, k4, k5, k6, k7, k8]
def interned : List (Array UInt16 × Addr) := []
def slotsUsed : Nat := 0
def theMethod : MethodId := ⟨1, 1⟩
def args0 : Array Value := #[.int 1, .int 5]
def aboutOver (below : List Frame) : State where
  vm := { classes := classes, interned := interned.toArray }
  heap := heap
  slotsUsed := slotsUsed
  threads := #[{ frames := .invoking theMethod args0 :: below }]
def below0 : List Frame := [.native { method := ⟨0, 0⟩, args := #[] }]
def about1 : State := aboutOver below0
def p0 : Program := .bare "" "" ""
def e0 : Env := launch0.env 0 0 0
theorem w_frames : about1.frames = Frame.invoking theMethod args0 :: below0 := rfl
set_option maxRecDepth 65536 in
theorem w_args : argsFit about1.vm theMethod args0 = true := by decide +kernel
set_option maxRecDepth 65536 in
theorem w_heap : heapFits about1 = true := by decide +kernel
set_option maxRecDepth 65536 in
theorem w_runnable : about1.curStatus? = some .runnable := by decide +kernel
set_option maxRecDepth 65536 in
theorem w_alone : about1.alone = true := by decide +kernel
set_option maxRecDepth 65536 in
theorem w_named : about1.methodNamed? x = some theMethod := by decide +kernel
set_option maxRecDepth 65536 in
theorem w_hears : about1.hears theMethod below0 = true := by decide +kernel
set_option maxRecDepth 65536 in
theorem w_ripe : about1.ripe theMethod args0 below0 = true := by decide +kernel
theorem w_running : about1.status = .running := rfl
set_option maxRecDepth 65536 in
theorem w_room : about1.hasRoom e0.platform room_1 = true :=
  launch0.hasRoom_least _ room_1 (by decide +kernel) (by decide +kernel) (by decide +kernel) (by decide +kernel) (by decide +kernel) (by decide +kernel)
theorem allAtoms_all (ts : List Jvm.Cond) (a : Array Jvm.Value) (st : Jvm.State) : (allAtoms ts).before a st = ts.all (fun c => c.before a st) := by
  induction ts with
  | nil => rfl
  | cons c t ih =>
    show (Jvm.Cond.and c (allAtoms t)).before a st = _
    rw [Jvm.Cond.before_and, ih, List.all_cons]
def words1 : List Jvm.Cond := Jvm.Cond.code x code maxLocals ret :: tables_1
/-- a 'code' word, met by the world's own term for the bytes: nothing is compared byte by byte -/
theorem code_word {y : MethodName} {bytes : ByteArray} {mx : Nat} {rt : Option FieldType} {a : Array Value} {s : State} {m : MethodId} {meth : Method} {c : Code} (h1 : s.methodNamed? y = some m) (h2 : s.vm.method? m = some meth) (h3 : meth.code = some c) (h4 : c.code = bytes)
    (h5 : (c.maxLocals == mx && c.exceptionTable.isEmpty && decide (c.maxStack ≤ mostOperands) && decide (meth.sig.returnType = rt) && !meth.locks && decide (parseMethodDescriptor y.desc = some meth.sig)) = true) : (Jvm.Cond.code y bytes mx rt).before a s = true := by
  simp only [Bool.and_eq_true, beq_iff_eq, Bool.not_eq_true', decide_eq_true_eq] at h5
  obtain ⟨⟨⟨⟨⟨g1, g2⟩, g3⟩, g4⟩, g5⟩, g6⟩ := h5
  simp [Cond.before, Cond.holds, Cond.value, h1, h2, h3, h4, g1, g2, g3, g4, g5, g6]
def isCode : Jvm.Cond → Bool
  | .code _ _ _ _ => true
  | _ => false
theorem all_split {L : List Jvm.Cond} {P : Jvm.Cond → Bool} (h1 : L.all (fun c => isCode c || P c) = true) (h2 : ∀ c ∈ L.filter isCode, P c = true) : L.all P = true := by
  refine List.all_eq_true.mpr fun c hc => ?_
  have h := List.all_eq_true.mp h1 c hc
  rcases Bool.eq_false_or_eq_true (isCode c) with hi | hi
  · exact h2 c (List.mem_filter.mpr ⟨hc, hi⟩)
  · simpa [hi] using h
set_option maxRecDepth 65536 in
theorem w_c0 : (Jvm.Cond.code x code maxLocals ret).before args0 about1 = true := code_word (m := ⟨1, 1⟩) (meth := k1m1) (c := k1c1) (by decide +kernel) rfl rfl rfl (by decide +kernel)
set_option maxRecDepth 65536 in
theorem w_c1 : (Jvm.Cond.code ({ cls := "com/example/chronoweave/chronoweave/Statement", name := "isTimeless", desc := "(I)Z" } : Jvm.MethodName) prog_33_method_6_code (1 : Nat) (Option.some Jvm.ClassFile.FieldType.boolean)).before args0 about1 = true := code_word (m := ⟨2, 0⟩) (meth := k2m0) (c := k2c0) (by decide +kernel) rfl rfl rfl (by decide +kernel)
def codes1 : List Jvm.Cond := [Jvm.Cond.code x code maxLocals ret, Jvm.Cond.code ({ cls := "com/example/chronoweave/chronoweave/Statement", name := "isTimeless", desc := "(I)Z" } : Jvm.MethodName) prog_33_method_6_code (1 : Nat) (Option.some Jvm.ClassFile.FieldType.boolean)]
set_option maxRecDepth 65536 in
theorem codes_eq : words1.filter isCode = codes1 := rfl
theorem w_codes : ∀ c ∈ words1.filter isCode, c.before args0 about1 = true := by
  rw [codes_eq]
  intro c hc
  simp only [codes1, List.mem_cons, List.not_mem_nil, or_false] at hc
  rcases hc with rfl | rfl
  · exact w_c0
  · exact w_c1
set_option maxRecDepth 65536 in
theorem w_t1 : words1.all (fun c => isCode c || c.before args0 about1) = true := by decide +kernel
theorem w_tables : (allAtoms (Jvm.Cond.code x code maxLocals ret :: tables_1)).before args0 about1 = true := by
  rw [allAtoms_all]
  show words1.all (fun c => c.before args0 about1) = true
  refine all_split ?_ w_codes
  rw [w_t1]
set_option maxRecDepth 65536 in
theorem w_case : (Jvm.Cond.and given_1 narrow_1).before args0 about1 = true := by decide +kernel
theorem w_applies : (headSpec (Jvm.Cond.code x code maxLocals ret :: tables_1) room_1).applies x e0.platform about1 = true :=
  (Spec.applies_iff w_frames).mpr ⟨w_running, w_runnable, w_alone, w_named, w_hears, w_ripe, w_room, w_tables⟩
theorem atStart : AtStart classFile x code maxLocals ret World_1 tables_1 room_1 Calls_1 rest_1 Pre_1 launch0 p0 e0 about1 theMethod args0 below0 :=
  ⟨lists_1, trivial, launch0.admits_env _ _ _, launch0.least_env, fairChoices_fair.cas, fairChoices_fair.clock, w_frames, w_args, w_heap, w_applies, trivial, trivial, w_case⟩
end start1
theorem witness_1 : WitnessClaimed_1 := ⟨start1.p0, start1.e0, start1.about1, start1.theMethod, start1.args0, start1.below0, start1.atStart⟩
end Jvm.Pilot.@@N@@
