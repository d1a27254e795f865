import JvmDerived
import JvmDerived.Pilot.@@N@@Statement
import JvmDerived.Pilot.@@N@@Code
set_option linter.unusedVariables false
set_option linter.unusedSimpArgs false
namespace Jvm.Pilot.@@N@@
open Jvm Jvm.ClassFile Sem Op Lib Jvm.Free Jvm.Stand Jvm.LawKit Jvm.RoadKit Bundle Jvm.Pilot.@@N@@.Jvm.D
/-! own kit: a walk as a chain of "from here the run ends well" -/
section OwnKit
/-- from T with the frame g on top the run goes on and ends as Q says -/
def Own (p : Program) (e : Env) (below : List Frame) (s : State) (kc ks : Nat) (Q : Option Value → Heap → List Loc → Prop) (T : State) (g : JFrame) : Prop :=
  ∃ s₂ o, Steps p.tables e below (T.setTop g) s₂ ∧ s₂.status = .running ∧ Ended s₂ below o ∧ ∃ v L, o = .returned v ∧ Q v s₂.heap L ∧ FrameEnd s o s₂ L kc ks
variable {p : Program} {l : Launch} {e : Env} {R : Room} {s : State} {m : MethodId} {args : Array Value} {below : List Frame} {meth : Method} {c : Code} {T T' : State} {locs : List Loc} {cells slots kc ks : Nat} {Q : Option Value → Heap → List Loc → Prop}
theorem own_go {g g' : JFrame} (h : ∀ t, Steps p.tables e below (T'.setTop g') t → Steps p.tables e below (T.setTop g) t) (k : Own p e below s kc ks Q T' g') : Own p e below s kc ks Q T g := by
  obtain ⟨s₂, o, h1, r⟩ := k
  exact ⟨s₂, o, h _ h1, r⟩
theorem own_to (T' : State) (g' : JFrame) {g : JFrame} (h : ∀ t, Steps p.tables e below (T'.setTop g') t → Steps p.tables e below (T.setTop g) t) (k : Own p e below s kc ks Q T' g') : Own p e below s kc ks Q T g := own_go h k
theorem own_ret (X : Stand p l e R s m args below meth c T locs cells slots) (hx : p.tables.exec = Jvm.exec) {pc : Nat} {Ls : Array Slot} {w : Value} {t : FieldType} {i : Instr} {rest : List Value} (hret : meth.sig.returnType = some t) (hlk : meth.locks = false) (hn : narrow t w = w)
    (hi : (i = .ireturn ∧ (t = .int ∨ t = .boolean ∨ t = .byte ∨ t = .char ∨ t = .short) ∧ ∃ z, w = .int z) ∨ (i = .lreturn ∧ t = .long ∧ ∃ z, w = .long z) ∨ (i = .dreturn ∧ t = .double ∧ ∃ z, w = .double z) ∨ (i = .freturn ∧ t = .float ∧ ∃ z, w = .float z) ∨ (i = .areturn ∧ t.isReference = true ∧ w.isRef = true))
    (hd : decode c.code pc = .ok (i, 1)) (hc : cells ≤ kc) (hs : slots ≤ ks) (q : Q (some w) T.heap locs) : Own p e below s kc ks Q T (mkF m pc Ls (w :: rest)) := by
  obtain ⟨fs, hr, hrun, hended, hW, hsame⟩ := X.leave (v := some w) (fun h => by rw [hret] at h; cases h) hlk
  exact ⟨_, _, retOut X hx hret hn hi hd hr, hrun, hended, _, locs, rfl, q, ⟨_, rfl⟩, hW, hsame.mono hc hs⟩
theorem own_retI (X : Stand p l e R s m args below meth c T locs cells slots) (hx : p.tables.exec = Jvm.exec) {pc : Nat} {Ls : Array Slot} {z : Int32} {rest : List Value} (hret : meth.sig.returnType = some .int) (hlk : meth.locks = false)
    (hd : decode c.code pc = .ok (.ireturn, 1)) (hc : cells ≤ kc) (hs : slots ≤ ks) (q : Q (some (.int z)) T.heap locs) : Own p e below s kc ks Q T (mkF m pc Ls (.int z :: rest)) :=
  own_ret X hx hret hlk rfl (Or.inl ⟨rfl, Or.inl rfl, _, rfl⟩) hd hc hs q
theorem own_retZ (X : Stand p l e R s m args below meth c T locs cells slots) (hx : p.tables.exec = Jvm.exec) {pc : Nat} {Ls : Array Slot} {z : Int32} {rest : List Value} (hret : meth.sig.returnType = some .boolean) (hlk : meth.locks = false)
    (hd : decode c.code pc = .ok (.ireturn, 1)) (hc : cells ≤ kc) (hs : slots ≤ ks) (hz : z = 0 ∨ z = 1) (q : Q (some (.int z)) T.heap locs) : Own p e below s kc ks Q T (mkF m pc Ls (.int z :: rest)) :=
  own_ret X hx hret hlk (by rcases hz with rfl | rfl <;> rfl) (Or.inl ⟨rfl, Or.inr (Or.inl rfl), _, rfl⟩) hd hc hs q
theorem own_retC (X : Stand p l e R s m args below meth c T locs cells slots) (hx : p.tables.exec = Jvm.exec) {pc : Nat} {Ls : Array Slot} {z : Int32} {rest : List Value} (hret : meth.sig.returnType = some .char) (hlk : meth.locks = false)
    (hd : decode c.code pc = .ok (.ireturn, 1)) (hc : cells ≤ kc) (hs : slots ≤ ks) (hz : z.toUInt32.toUInt16.toUInt32.toInt32 = z) (q : Q (some (.int z)) T.heap locs) : Own p e below s kc ks Q T (mkF m pc Ls (.int z :: rest)) :=
  own_ret X hx hret hlk (congrArg Value.int hz) (Or.inl ⟨rfl, Or.inr (Or.inr (Or.inr (Or.inl rfl))), _, rfl⟩) hd hc hs q
theorem own_retJ (X : Stand p l e R s m args below meth c T locs cells slots) (hx : p.tables.exec = Jvm.exec) {pc : Nat} {Ls : Array Slot} {z : Int64} {rest : List Value} (hret : meth.sig.returnType = some .long) (hlk : meth.locks = false)
    (hd : decode c.code pc = .ok (.lreturn, 1)) (hc : cells ≤ kc) (hs : slots ≤ ks) (q : Q (some (.long z)) T.heap locs) : Own p e below s kc ks Q T (mkF m pc Ls (.long z :: rest)) :=
  own_ret X hx hret hlk rfl (Or.inr (Or.inl ⟨rfl, rfl, _, rfl⟩)) hd hc hs q
theorem own_retD (X : Stand p l e R s m args below meth c T locs cells slots) (hx : p.tables.exec = Jvm.exec) {pc : Nat} {Ls : Array Slot} {z : UInt64} {rest : List Value} (hret : meth.sig.returnType = some .double) (hlk : meth.locks = false)
    (hd : decode c.code pc = .ok (.dreturn, 1)) (hc : cells ≤ kc) (hs : slots ≤ ks) (q : Q (some (.double z)) T.heap locs) : Own p e below s kc ks Q T (mkF m pc Ls (.double z :: rest)) :=
  own_ret X hx hret hlk rfl (Or.inr (Or.inr (Or.inl ⟨rfl, rfl, _, rfl⟩))) hd hc hs q
theorem own_retA (X : Stand p l e R s m args below meth c T locs cells slots) (hx : p.tables.exec = Jvm.exec) {pc : Nat} {Ls : Array Slot} {w : Value} {t : FieldType} {rest : List Value} (hret : meth.sig.returnType = some t) (hlk : meth.locks = false)
    (ht : t.isReference = true) (hw : w.isRef = true) (hd : decode c.code pc = .ok (.areturn, 1)) (hc : cells ≤ kc) (hs : slots ≤ ks) (q : Q (some w) T.heap locs) : Own p e below s kc ks Q T (mkF m pc Ls (w :: rest)) :=
  own_ret X hx hret hlk (by cases t <;> cases w <;> first | rfl | (cases ht; done) | (cases hw; done)) (Or.inr (Or.inr (Or.inr (Or.inr ⟨rfl, ht, hw⟩)))) hd hc hs q
theorem own_retV (X : Stand p l e R s m args below meth c T locs cells slots) (hx : p.tables.exec = Jvm.exec) {pc : Nat} {Ls : Array Slot} (hret : meth.sig.returnType = none) (hlk : meth.locks = false)
    (hd : decode c.code pc = .ok (.return_, 1)) (hc : cells ≤ kc) (hs : slots ≤ ks) (q : Q none T.heap locs) : Own p e below s kc ks Q T (mkF m pc Ls []) := by
  obtain ⟨fs, hr, hrun, hended, hW, hsame⟩ := X.leave (v := none) (fun _ => rfl) hlk
  exact ⟨_, _, X.returnOut hx hret hd hr, hrun, hended, _, locs, rfl, q, ⟨_, rfl⟩, hW, hsame.mono hc hs⟩
/-- a body's contract out of its walk -/
theorem own_met {Z : State} {h0 : Heap} {y : MethodName} {bytes : ByteArray} {ml : Nat} {ret : Option FieldType} {ws : List Jvm.Cond} {rm : Room} {as' : Array Value} (hp : plainFor y = true)
    (body : ∀ (p : Program) (e : Env) (s : State) (m : MethodId) (below : List Frame) (meth : Method) (c : Code) (s₁ : State), Stand p l e rm s m as' below meth c s₁ [] 0 0 → p.tables.exec = Jvm.exec → c.code = bytes → c.maxLocals = ml → meth.sig.returnType = ret → meth.locks = false →
      s.vm.findClass y.cls = some m.cls → meth.name = y.name → Z.Warmed39 s.vm → s₁.heap = h0 → Own p e below s rm.cells rm.slots Q s₁ (entryFrame m as' ml)) :
    MetFree l y (head1 (Jvm.Cond.code y bytes ml ret :: ws) rm) (fun a U => a = as' ∧ Z.Warmed39 U.vm ∧ U.heap = h0) (fun _ _ _ _ _ => True) (fun _ U o U' => ∃ v L, o = .returned v ∧ Q v U'.heap L ∧ FrameEnd U o U' L rm.cells rm.slots) := by
  refine MetFree.of_bodySF hp hisR ?_
  intro p e s m args below meth c s₁ Bd hml0 hP hK
  obtain ⟨rfl, hZ, hh⟩ := hP
  exact body p e s m below meth c s₁ (Stand.of_body Bd) Bd.exec Bd.bytes hml0 Bd.returns Bd.notSynchronized (findClass_of_methodNamed Bd.named) (name_of_methodNamed Bd.named Bd.method).1 hZ (by rw [← hh, Bd.state]; rfl)
theorem own_entry {g g' : JFrame} (q : g = g') (k : Own p e below s kc ks Q T g') : Own p e below s kc ks Q T g := q ▸ k
theorem own_mvMN {Z s : State} {a0 args : Array Value} {own host : String} {index : Nat} {y : MethodName} (hZ : Z.Warmed39 s.vm) (w : (Jvm.Cond.methodLinkNest own index y host).before a0 Z = true) : (Jvm.Cond.methodLinkNest own index y host).before args s = true := (Jvm.Cond.methodLinkNest_wide hZ w :)
theorem own_w {Z : State} {a0 : Array Value} (hw : ∀ d ∈ tables_1, d.before a0 Z = true) (i : Nat) {d : Jvm.Cond} (h : tables_1[i]? = some d) : d.before a0 Z = true := hw _ (List.mem_of_getElem? h)
end OwnKit
def own_ctl (x : Int32) : Int32 := if (x < (32 : Int32) ∧ ¬ x = (9 : Int32)) ∨ x = (127 : Int32) then 1 else 0
theorem own_ctl_spec (v : Int32) : own_ctl v = if (v.toInt < 32 ∧ ¬ v.toInt = 9) ∨ v.toInt = 127 then (1 : Int32) else 0 := by
  unfold own_ctl
  have z1 : (32 : Int32).toInt = 32 := by decide
  have z2 : (9 : Int32).toInt = 9 := by decide
  have z3 : (127 : Int32).toInt = 127 := by decide
  simp only [Int32.lt_iff_toInt_lt, ← Int32.toInt_inj, z1, z2, z3]
theorem d1_0 : decode prog_11_method_27_code 0 = .ok (.iload_n 0, 1) := by decide +kernel
theorem d1_1 : decode prog_11_method_27_code 1 = .ok (.bipush 32, 2) := by decide +kernel
theorem d1_3 : decode prog_11_method_27_code 3 = .ok (.if_icmp .ge 9, 3) := by decide +kernel
theorem d1_6 : decode prog_11_method_27_code 6 = .ok (.iload_n 0, 1) := by decide +kernel
theorem d1_7 : decode prog_11_method_27_code 7 = .ok (.bipush 9, 2) := by decide +kernel
theorem d1_9 : decode prog_11_method_27_code 9 = .ok (.if_icmp .ne 9, 3) := by decide +kernel
theorem d1_12 : decode prog_11_method_27_code 12 = .ok (.iload_n 0, 1) := by decide +kernel
theorem d1_13 : decode prog_11_method_27_code 13 = .ok (.bipush 127, 2) := by decide +kernel
theorem d1_15 : decode prog_11_method_27_code 15 = .ok (.if_icmp .ne 7, 3) := by decide +kernel
theorem d1_18 : decode prog_11_method_27_code 18 = .ok (.iconst 1, 1) := by decide +kernel
theorem d1_19 : decode prog_11_method_27_code 19 = .ok (.goto 4, 3) := by decide +kernel
theorem d1_22 : decode prog_11_method_27_code 22 = .ok (.iconst 0, 1) := by decide +kernel
theorem d1_23 : decode prog_11_method_27_code 23 = .ok (.ireturn, 1) := by decide +kernel
theorem pn_1 : plainName "com/example/wayline/wayline/HeaderReader" = true := by first | (simp [plainName, overriddenIn]; done) | decide +kernel
theorem ef_1_I (m : MethodId) (x0 : Int32) : entryFrame m #[(.int x0)] 1 = mkF m 0 #[.val (.int x0)] [] := by first | (simp [entryFrame, mkF, argsToLocals, Value.category]; done) | rfl
def Q_rm1 (Z : State) (p0 : Int32) (h0 : Heap) (n0 : Nat) (v : Option Value) (h : Heap) (L : List Loc) : Prop := v = some (.int (own_ctl p0)) ∧ Fr n0 L ∧ h = h0
set_option maxRecDepth 65536 in
set_option maxHeartbeats 40000000 in
theorem rm1 (l : Launch) (Z : State) (a0 : Array Value) (hw : ∀ d ∈ tables_1, d.before a0 Z = true) (ws : List Jvm.Cond) (p0 : Int32) (h0 : Heap) (n0 : Nat) (Z0 : n0 ≤ h0.size)  :
    MetFree l (⟨"com/example/wayline/wayline/HeaderReader", "isControl", "(C)Z"⟩ : MethodName) (head1 (Jvm.Cond.code (⟨"com/example/wayline/wayline/HeaderReader", "isControl", "(C)Z"⟩ : MethodName) prog_11_method_27_code 1 (some .boolean) :: ws) ({ frames := 0, cells := 0, slots := 0, locals := 0 } : Room)) (fun a U => a = #[(.int p0)] ∧ Z.Warmed39 U.vm ∧ U.heap = h0) (fun _ _ _ _ _ => True) (fun _ U o U' => ∃ v L, o = .returned v ∧ Q_rm1 Z p0 h0 n0 v U'.heap L ∧ FrameEnd U o U' L ({ frames := 0, cells := 0, slots := 0, locals := 0 } : Room).cells ({ frames := 0, cells := 0, slots := 0, locals := 0 } : Room).slots) := by
  refine own_met (y := (⟨"com/example/wayline/wayline/HeaderReader", "isControl", "(C)Z"⟩ : MethodName)) (Q := (Q_rm1 Z p0 h0 n0)) (plainFor_of_name pn_1) fun p e s m below meth c s₁ X0 hx hby hml hret hlk hown hnm hZ e0 => ?_
  refine own_entry (ef_1_I m p0) ?_
  refine own_to s₁ (mkF m 3 #[.val (.int p0)] [(.int (32 : Int32)), (.int p0)]) (fun t k => XS.iloadN X0.here hx rfl (hb hby d1_0) rfl (XS.bipush X0.here hx rfl (hb hby d1_1) k)) ?_
  by_cases c3 : p0 < (32 : Int32)
  · skip
    refine own_to s₁ (mkF m 9 #[.val (.int p0)] [(.int (9 : Int32)), (.int p0)]) (fun t k => XS.icmpNo X0.here hx rfl (hb hby d1_3) rfl (tlt c3).2.1 (XS.iloadN X0.here hx rfl (hb hby d1_6) rfl (XS.bipush X0.here hx rfl (hb hby d1_7) k))) ?_
    by_cases c9 : p0 = (9 : Int32)
    · skip
      refine own_to s₁ (mkF m 15 #[.val (.int p0)] [(.int (127 : Int32)), (.int p0)]) (fun t k => XS.icmpNo X0.here hx rfl (hb hby d1_9) rfl (teq c9).2 (XS.iloadN X0.here hx rfl (hb hby d1_12) rfl (XS.bipush X0.here hx rfl (hb hby d1_13) k))) ?_
      by_cases c15 : p0 = (127 : Int32)
      · skip
        refine own_to s₁ (mkF m 23 #[.val (.int p0)] [(.int (1 : Int32))]) (fun t k => XS.icmpNo X0.here hx rfl (hb hby d1_15) rfl (teq c15).2 (XS.iconst X0.here hx rfl (hb hby d1_18) (XS.goto X0.here hx rfl (pc0 := 19) (pc' := 23) rfl (hb hby d1_19) (by decide) (by decide) k))) ?_
        exact own_retZ X0 hx hret hlk (hb hby d1_23) (by decide) (by decide) (Or.inr rfl) ⟨congrArg (fun z => some (Value.int z)) (show own_ctl p0 = (1 : Int32) from (by rw [own_ctl_spec]; have t1 := Int32.lt_iff_toInt_lt.mp c3; have t2 := congrArg Int32.toInt c9; have t3 := congrArg Int32.toInt c15; have z0 : (127 : Int32).toInt = 127 := (by decide); have z1 : (32 : Int32).toInt = 32 := (by decide); have z2 : (9 : Int32).toInt = 9 := (by decide); exact if_pos (by omega))).symm, (Fr.nil n0), e0⟩
      · skip
        refine own_to s₁ (mkF m 23 #[.val (.int p0)] [(.int (0 : Int32))]) (fun t k => XS.icmpYes X0.here hx rfl (pc0 := 15) (pc' := 22) rfl (hb hby d1_15) rfl (feq c15).2 (by decide) (by decide) (XS.iconst X0.here hx rfl (hb hby d1_22) k)) ?_
        exact own_retZ X0 hx hret hlk (hb hby d1_23) (by decide) (by decide) (Or.inl rfl) ⟨congrArg (fun z => some (Value.int z)) (show own_ctl p0 = (0 : Int32) from (by rw [own_ctl_spec]; have t1 := Int32.lt_iff_toInt_lt.mp c3; have t2 := congrArg Int32.toInt c9; have t3 := mt Int32.toInt_inj.mp c15; have z0 : (127 : Int32).toInt = 127 := (by decide); have z1 : (32 : Int32).toInt = 32 := (by decide); have z2 : (9 : Int32).toInt = 9 := (by decide); exact if_neg (by omega))).symm, (Fr.nil n0), e0⟩
    · skip
      refine own_to s₁ (mkF m 23 #[.val (.int p0)] [(.int (1 : Int32))]) (fun t k => XS.icmpYes X0.here hx rfl (pc0 := 9) (pc' := 18) rfl (hb hby d1_9) rfl (feq c9).2 (by decide) (by decide) (XS.iconst X0.here hx rfl (hb hby d1_18) (XS.goto X0.here hx rfl (pc0 := 19) (pc' := 23) rfl (hb hby d1_19) (by decide) (by decide) k))) ?_
      exact own_retZ X0 hx hret hlk (hb hby d1_23) (by decide) (by decide) (Or.inr rfl) ⟨congrArg (fun z => some (Value.int z)) (show own_ctl p0 = (1 : Int32) from (by rw [own_ctl_spec]; have t1 := Int32.lt_iff_toInt_lt.mp c3; have t2 := mt Int32.toInt_inj.mp c9; have z0 : (32 : Int32).toInt = 32 := (by decide); have z1 : (9 : Int32).toInt = 9 := (by decide); exact if_pos (by omega))).symm, (Fr.nil n0), e0⟩
  · skip
    refine own_to s₁ (mkF m 15 #[.val (.int p0)] [(.int (127 : Int32)), (.int p0)]) (fun t k => XS.icmpYes X0.here hx rfl (pc0 := 3) (pc' := 12) rfl (hb hby d1_3) rfl (flt c3).2.1 (by decide) (by decide) (XS.iloadN X0.here hx rfl (hb hby d1_12) rfl (XS.bipush X0.here hx rfl (hb hby d1_13) k))) ?_
    by_cases c15 : p0 = (127 : Int32)
    · skip
      refine own_to s₁ (mkF m 23 #[.val (.int p0)] [(.int (1 : Int32))]) (fun t k => XS.icmpNo X0.here hx rfl (hb hby d1_15) rfl (teq c15).2 (XS.iconst X0.here hx rfl (hb hby d1_18) (XS.goto X0.here hx rfl (pc0 := 19) (pc' := 23) rfl (hb hby d1_19) (by decide) (by decide) k))) ?_
      exact own_retZ X0 hx hret hlk (hb hby d1_23) (by decide) (by decide) (Or.inr rfl) ⟨congrArg (fun z => some (Value.int z)) (show own_ctl p0 = (1 : Int32) from (by rw [own_ctl_spec]; have t1 := mt Int32.lt_iff_toInt_lt.mpr c3; have t2 := congrArg Int32.toInt c15; have z0 : (127 : Int32).toInt = 127 := (by decide); have z1 : (32 : Int32).toInt = 32 := (by decide); exact if_pos (by omega))).symm, (Fr.nil n0), e0⟩
    · skip
      refine own_to s₁ (mkF m 23 #[.val (.int p0)] [(.int (0 : Int32))]) (fun t k => XS.icmpYes X0.here hx rfl (pc0 := 15) (pc' := 22) rfl (hb hby d1_15) rfl (feq c15).2 (by decide) (by decide) (XS.iconst X0.here hx rfl (hb hby d1_22) k)) ?_
      exact own_retZ X0 hx hret hlk (hb hby d1_23) (by decide) (by decide) (Or.inl rfl) ⟨congrArg (fun z => some (Value.int z)) (show own_ctl p0 = (0 : Int32) from (by rw [own_ctl_spec]; have t1 := mt Int32.lt_iff_toInt_lt.mpr c3; have t2 := mt Int32.toInt_inj.mp c15; have z0 : (127 : Int32).toInt = 127 := (by decide); have z1 : (32 : Int32).toInt = 32 := (by decide); exact if_neg (by omega))).symm, (Fr.nil n0), e0⟩
theorem pn_0 : plainName "com/example/wayline/wayline/HeaderReaderIsControlPinLaw" = true := by first | (simp [plainName, overriddenIn]; done) | decide +kernel
theorem ef_0_I (m : MethodId) (x0 : Int32) : entryFrame m #[(.int x0)] maxLocals = mkF m 0 #[.val (.int x0), .unset, .unset, .unset] [] := by first | (simp [entryFrame, mkF, argsToLocals, Value.category, maxLocals]; done) | rfl
def Q_rm0 (Z : State) (i0 : Int32) (h0 : Heap) (n0 : Nat) (v : Option Value) (h : Heap) (L : List Loc) : Prop := v = some (.int 1) ∧ Fr n0 L
theorem pd_0 : parseMethodDescriptor "(C)Z" = some ⟨[.char], some .boolean⟩ := by decide +kernel
set_option maxRecDepth 65536 in
set_option maxHeartbeats 40000000 in
theorem rm0 (l : Launch) (Z : State) (a0 : Array Value) (hw : ∀ d ∈ tables_1, d.before a0 Z = true) (ws : List Jvm.Cond) (i0 : Int32) (h0 : Heap) (n0 : Nat) (Z0 : n0 ≤ h0.size)  :
    MetFree l x (head1 (Jvm.Cond.code x code maxLocals ret :: ws) room_1) (fun a U => a = #[(.int i0)] ∧ Z.Warmed39 U.vm ∧ U.heap = h0) (fun _ _ _ _ _ => True) (fun _ U o U' => ∃ v L, o = .returned v ∧ Q_rm0 Z i0 h0 n0 v U'.heap L ∧ FrameEnd U o U' L room_1.cells room_1.slots) := by
  refine own_met (y := x) (Q := (Q_rm0 Z i0 h0 n0)) (plainFor_of_name pn_0) fun p e s m below meth c s₁ X0 hx hby hml hret hlk hown hnm hZ e0 => ?_
  refine own_entry (ef_0_I m i0) ?_
  refine own_to s₁ (mkF m 2 #[.val (.int i0), .unset, .unset, .unset] [(.int (i0.toUInt32.toUInt16.toUInt32.toInt32))]) (fun t k => XS.iloadN X0.here hx rfl (hb hby at_0) rfl (XS.i2c X0.here hx rfl (hb hby at_1) rfl k)) ?_
  obtain ⟨v1, hv1⟩ : ∃ v, v = (i0.toUInt32.toUInt16.toUInt32.toInt32) := ⟨_, rfl⟩
  rw [← hv1]
  have b1 := c_i2c i0
  rw [← hv1] at b1
  clear hv1
  refine own_to s₁ (mkF m 6 #[.val (.int i0), .val (.int v1), .val (.int v1), .unset] [(.int v1)]) (fun t k => XS.istoreN X0.here hx rfl (hb hby at_2) rfl (l' := #[.val (.int i0), .val (.int v1), .unset, .unset]) rfl (XS.iloadN X0.here hx rfl (hb hby at_3) rfl (XS.istoreN X0.here hx rfl (hb hby at_4) rfl (l' := #[.val (.int i0), .val (.int v1), .val (.int v1), .unset]) rfl (XS.iloadN X0.here hx rfl (hb hby at_5) rfl k)))) ?_
  by_cases c6 : v1 < (0 : Int32)
  · skip
    refine own_to s₁ (mkF m 18 #[.val (.int i0), .val (.int v1), .val (.int v1), .unset] [(.int (10 : Int32)), (.int v1)]) (fun t k => XS.ifYes X0.here hx rfl (pc0 := 6) (pc' := 15) rfl (hb hby at_6) rfl ((if0 _ _).trans (tlt c6).1) (by decide) (by decide) (XS.iloadN X0.here hx rfl (hb hby at_15) rfl (XS.bipush X0.here hx rfl (hb hby at_16) k))) ?_
    by_cases c18 : v1 < (10 : Int32)
    · skip
      refine own_to s₁ (mkF m 30 #[.val (.int i0), .val (.int v1), .val (.int v1), .unset] [(.int (127 : Int32)), (.int v1)]) (fun t k => XS.icmpYes X0.here hx rfl (pc0 := 18) (pc' := 27) rfl (hb hby at_18) rfl (tlt c18).1 (by decide) (by decide) (XS.iloadN X0.here hx rfl (hb hby at_27) rfl (XS.bipush X0.here hx rfl (hb hby at_28) k))) ?_
      by_cases c30 : v1 = (127 : Int32)
      · skip
        refine own_to s₁ (mkF m 40 #[.val (.int i0), .val (.int v1), .val (.int v1), .val (.int (1 : Int32))] [(.int v1)]) (fun t k => XS.icmpNo X0.here hx rfl (hb hby at_30) rfl (teq c30).2 (XS.iconst X0.here hx rfl (hb hby at_33) (XS.goto X0.here hx rfl (pc0 := 34) (pc' := 38) rfl (hb hby at_34) (by decide) (by decide) (XS.istoreN X0.here hx rfl (hb hby at_38) rfl (l' := #[.val (.int i0), .val (.int v1), .val (.int v1), .val (.int (1 : Int32))]) rfl (XS.iloadN X0.here hx rfl (hb hby at_39) rfl k))))) ?_
        obtain ⟨_, _, ⟨T1, L1, k1, n1⟩, -, X1, ⟨Lc1, hQ1, l1, y1, z1⟩, st1⟩ := Jvm.LawKit.callS X0 hx (y := (⟨"com/example/wayline/wayline/HeaderReader", "isControl", "(C)Z"⟩ : MethodName)) hown (mvT hZ (own_w hw 0 rfl)) (mvT hZ (own_w hw 1 rfl)) (mvT hZ (own_w hw 2 rfl)) (mvT hZ (own_w hw 3 rfl)) (by decide) (backOf (W := 0) (rm1 l Z a0 hw [] v1 h0 n0 Z0) hZ (own_w hw 3 rfl) (own_w hw 2 rfl) (by decide) (by decide)) (g := (mkF m 40 #[.val (.int i0), .val (.int v1), .val (.int v1), .val (.int (1 : Int32))] [(.int v1)])) rfl (by rw [hml]; rfl) (argsL := [(.int v1)]) (rest := []) (lenOf pd_0 rfl) rfl (by show 2 * 0 + _ ≤ _; exact Nat.le_of_eq rfl) (hb hby at_40) (fun _ _ => ⟨rfl, e0, (by decide : 0 + 0 ≤ _), (by decide : 0 + 0 ≤ _)⟩)
        dsimp only [Pt.U, Pt.locs, Pt.cells, Pt.slots] at X1 l1 y1 z1 st1 hQ1
        subst l1 y1 z1
        obtain ⟨rfl, N1q, e1⟩ := hQ1
        have N1 := Fr.app (Fr.nil n0) N1q
        refine own_to T1 (mkF m 52 #[.val (.int i0), .val (.int v1), .val (.int v1), .val (.int (1 : Int32))] [(.int (1 : Int32))]) (fun t k => st1 _ (XS.iloadN X1.here hx rfl (hb hby at_43) rfl (XS.icmpNo X1.here hx rfl (hb hby at_44) rfl (teq (by rw [own_ctl_spec]; have t1 := Int32.lt_iff_toInt_lt.mp c6; have t2 := Int32.lt_iff_toInt_lt.mp c18; have t3 := congrArg Int32.toInt c30; have z0 : (0 : Int32).toInt = 0 := (by decide); have z1 : (10 : Int32).toInt = 10 := (by decide); have z2 : (127 : Int32).toInt = 127 := (by decide); exact if_pos (by omega) : (own_ctl v1) = (1 : Int32))).2 (XS.iconst X1.here hx rfl (hb hby at_47) (XS.goto X1.here hx rfl (pc0 := 48) (pc' := 52) rfl (hb hby at_48) (by decide) (by decide) k))))) ?_
        exact own_retZ X1 hx hret hlk (hb hby at_52) (by decide) (by decide) (Or.inr rfl) ⟨rfl, N1⟩
      · skip
        refine own_to s₁ (mkF m 40 #[.val (.int i0), .val (.int v1), .val (.int v1), .val (.int (0 : Int32))] [(.int v1)]) (fun t k => XS.icmpYes X0.here hx rfl (pc0 := 30) (pc' := 37) rfl (hb hby at_30) rfl (feq c30).2 (by decide) (by decide) (XS.iconst X0.here hx rfl (hb hby at_37) (XS.istoreN X0.here hx rfl (hb hby at_38) rfl (l' := #[.val (.int i0), .val (.int v1), .val (.int v1), .val (.int (0 : Int32))]) rfl (XS.iloadN X0.here hx rfl (hb hby at_39) rfl k)))) ?_
        obtain ⟨_, _, ⟨T2, L2, k2, n2⟩, -, X2, ⟨Lc2, hQ2, l2, y2, z2⟩, st2⟩ := Jvm.LawKit.callS X0 hx (y := (⟨"com/example/wayline/wayline/HeaderReader", "isControl", "(C)Z"⟩ : MethodName)) hown (mvT hZ (own_w hw 0 rfl)) (mvT hZ (own_w hw 1 rfl)) (mvT hZ (own_w hw 2 rfl)) (mvT hZ (own_w hw 3 rfl)) (by decide) (backOf (W := 0) (rm1 l Z a0 hw [] v1 h0 n0 Z0) hZ (own_w hw 3 rfl) (own_w hw 2 rfl) (by decide) (by decide)) (g := (mkF m 40 #[.val (.int i0), .val (.int v1), .val (.int v1), .val (.int (0 : Int32))] [(.int v1)])) rfl (by rw [hml]; rfl) (argsL := [(.int v1)]) (rest := []) (lenOf pd_0 rfl) rfl (by show 2 * 0 + _ ≤ _; exact Nat.le_of_eq rfl) (hb hby at_40) (fun _ _ => ⟨rfl, e0, (by decide : 0 + 0 ≤ _), (by decide : 0 + 0 ≤ _)⟩)
        dsimp only [Pt.U, Pt.locs, Pt.cells, Pt.slots] at X2 l2 y2 z2 st2 hQ2
        subst l2 y2 z2
        obtain ⟨rfl, N2q, e2⟩ := hQ2
        have N2 := Fr.app (Fr.nil n0) N2q
        refine own_to T2 (mkF m 52 #[.val (.int i0), .val (.int v1), .val (.int v1), .val (.int (0 : Int32))] [(.int (1 : Int32))]) (fun t k => st2 _ (XS.iloadN X2.here hx rfl (hb hby at_43) rfl (XS.icmpNo X2.here hx rfl (hb hby at_44) rfl (teq (by rw [own_ctl_spec]; have t1 := Int32.lt_iff_toInt_lt.mp c6; have t2 := Int32.lt_iff_toInt_lt.mp c18; have t3 := mt Int32.toInt_inj.mp c30; have z0 : (0 : Int32).toInt = 0 := (by decide); have z1 : (10 : Int32).toInt = 10 := (by decide); have z2 : (127 : Int32).toInt = 127 := (by decide); exact if_neg (by omega) : (own_ctl v1) = (0 : Int32))).2 (XS.iconst X2.here hx rfl (hb hby at_47) (XS.goto X2.here hx rfl (pc0 := 48) (pc' := 52) rfl (hb hby at_48) (by decide) (by decide) k))))) ?_
        exact own_retZ X2 hx hret hlk (hb hby at_52) (by decide) (by decide) (Or.inr rfl) ⟨rfl, N2⟩
    · skip
      refine own_to s₁ (mkF m 24 #[.val (.int i0), .val (.int v1), .val (.int v1), .unset] [(.int (31 : Int32)), (.int v1)]) (fun t k => XS.icmpNo X0.here hx rfl (hb hby at_18) rfl (flt c18).1 (XS.iloadN X0.here hx rfl (hb hby at_21) rfl (XS.bipush X0.here hx rfl (hb hby at_22) k))) ?_
      by_cases c24 : (31 : Int32) < v1
      · skip
        refine own_to s₁ (mkF m 30 #[.val (.int i0), .val (.int v1), .val (.int v1), .unset] [(.int (127 : Int32)), (.int v1)]) (fun t k => XS.icmpNo X0.here hx rfl (hb hby at_24) rfl (tlt c24).2.2.2 (XS.iloadN X0.here hx rfl (hb hby at_27) rfl (XS.bipush X0.here hx rfl (hb hby at_28) k))) ?_
        by_cases c30 : v1 = (127 : Int32)
        · skip
          refine own_to s₁ (mkF m 40 #[.val (.int i0), .val (.int v1), .val (.int v1), .val (.int (1 : Int32))] [(.int v1)]) (fun t k => XS.icmpNo X0.here hx rfl (hb hby at_30) rfl (teq c30).2 (XS.iconst X0.here hx rfl (hb hby at_33) (XS.goto X0.here hx rfl (pc0 := 34) (pc' := 38) rfl (hb hby at_34) (by decide) (by decide) (XS.istoreN X0.here hx rfl (hb hby at_38) rfl (l' := #[.val (.int i0), .val (.int v1), .val (.int v1), .val (.int (1 : Int32))]) rfl (XS.iloadN X0.here hx rfl (hb hby at_39) rfl k))))) ?_
          obtain ⟨_, _, ⟨T3, L3, k3, n3⟩, -, X3, ⟨Lc3, hQ3, l3, y3, z3⟩, st3⟩ := Jvm.LawKit.callS X0 hx (y := (⟨"com/example/wayline/wayline/HeaderReader", "isControl", "(C)Z"⟩ : MethodName)) hown (mvT hZ (own_w hw 0 rfl)) (mvT hZ (own_w hw 1 rfl)) (mvT hZ (own_w hw 2 rfl)) (mvT hZ (own_w hw 3 rfl)) (by decide) (backOf (W := 0) (rm1 l Z a0 hw [] v1 h0 n0 Z0) hZ (own_w hw 3 rfl) (own_w hw 2 rfl) (by decide) (by decide)) (g := (mkF m 40 #[.val (.int i0), .val (.int v1), .val (.int v1), .val (.int (1 : Int32))] [(.int v1)])) rfl (by rw [hml]; rfl) (argsL := [(.int v1)]) (rest := []) (lenOf pd_0 rfl) rfl (by show 2 * 0 + _ ≤ _; exact Nat.le_of_eq rfl) (hb hby at_40) (fun _ _ => ⟨rfl, e0, (by decide : 0 + 0 ≤ _), (by decide : 0 + 0 ≤ _)⟩)
          dsimp only [Pt.U, Pt.locs, Pt.cells, Pt.slots] at X3 l3 y3 z3 st3 hQ3
          subst l3 y3 z3
          obtain ⟨rfl, N3q, e3⟩ := hQ3
          have N3 := Fr.app (Fr.nil n0) N3q
          refine own_to T3 (mkF m 52 #[.val (.int i0), .val (.int v1), .val (.int v1), .val (.int (1 : Int32))] [(.int (1 : Int32))]) (fun t k => st3 _ (XS.iloadN X3.here hx rfl (hb hby at_43) rfl (XS.icmpNo X3.here hx rfl (hb hby at_44) rfl (teq (by rw [own_ctl_spec]; have t1 := Int32.lt_iff_toInt_lt.mp c6; have t2 := mt Int32.lt_iff_toInt_lt.mpr c18; have t3 := Int32.lt_iff_toInt_lt.mp c24; have t4 := congrArg Int32.toInt c30; have z0 : (0 : Int32).toInt = 0 := (by decide); have z1 : (10 : Int32).toInt = 10 := (by decide); have z2 : (127 : Int32).toInt = 127 := (by decide); have z3 : (31 : Int32).toInt = 31 := (by decide); exact if_pos (by omega) : (own_ctl v1) = (1 : Int32))).2 (XS.iconst X3.here hx rfl (hb hby at_47) (XS.goto X3.here hx rfl (pc0 := 48) (pc' := 52) rfl (hb hby at_48) (by decide) (by decide) k))))) ?_
          exact own_retZ X3 hx hret hlk (hb hby at_52) (by decide) (by decide) (Or.inr rfl) ⟨rfl, N3⟩
        · skip
          refine own_to s₁ (mkF m 40 #[.val (.int i0), .val (.int v1), .val (.int v1), .val (.int (0 : Int32))] [(.int v1)]) (fun t k => XS.icmpYes X0.here hx rfl (pc0 := 30) (pc' := 37) rfl (hb hby at_30) rfl (feq c30).2 (by decide) (by decide) (XS.iconst X0.here hx rfl (hb hby at_37) (XS.istoreN X0.here hx rfl (hb hby at_38) rfl (l' := #[.val (.int i0), .val (.int v1), .val (.int v1), .val (.int (0 : Int32))]) rfl (XS.iloadN X0.here hx rfl (hb hby at_39) rfl k)))) ?_
          obtain ⟨_, _, ⟨T4, L4, k4, n4⟩, -, X4, ⟨Lc4, hQ4, l4, y4, z4⟩, st4⟩ := Jvm.LawKit.callS X0 hx (y := (⟨"com/example/wayline/wayline/HeaderReader", "isControl", "(C)Z"⟩ : MethodName)) hown (mvT hZ (own_w hw 0 rfl)) (mvT hZ (own_w hw 1 rfl)) (mvT hZ (own_w hw 2 rfl)) (mvT hZ (own_w hw 3 rfl)) (by decide) (backOf (W := 0) (rm1 l Z a0 hw [] v1 h0 n0 Z0) hZ (own_w hw 3 rfl) (own_w hw 2 rfl) (by decide) (by decide)) (g := (mkF m 40 #[.val (.int i0), .val (.int v1), .val (.int v1), .val (.int (0 : Int32))] [(.int v1)])) rfl (by rw [hml]; rfl) (argsL := [(.int v1)]) (rest := []) (lenOf pd_0 rfl) rfl (by show 2 * 0 + _ ≤ _; exact Nat.le_of_eq rfl) (hb hby at_40) (fun _ _ => ⟨rfl, e0, (by decide : 0 + 0 ≤ _), (by decide : 0 + 0 ≤ _)⟩)
          dsimp only [Pt.U, Pt.locs, Pt.cells, Pt.slots] at X4 l4 y4 z4 st4 hQ4
          subst l4 y4 z4
          obtain ⟨rfl, N4q, e4⟩ := hQ4
          have N4 := Fr.app (Fr.nil n0) N4q
          refine own_to T4 (mkF m 52 #[.val (.int i0), .val (.int v1), .val (.int v1), .val (.int (0 : Int32))] [(.int (1 : Int32))]) (fun t k => st4 _ (XS.iloadN X4.here hx rfl (hb hby at_43) rfl (XS.icmpNo X4.here hx rfl (hb hby at_44) rfl (teq (by rw [own_ctl_spec]; have t1 := Int32.lt_iff_toInt_lt.mp c6; have t2 := mt Int32.lt_iff_toInt_lt.mpr c18; have t3 := Int32.lt_iff_toInt_lt.mp c24; have t4 := mt Int32.toInt_inj.mp c30; have z0 : (0 : Int32).toInt = 0 := (by decide); have z1 : (10 : Int32).toInt = 10 := (by decide); have z2 : (127 : Int32).toInt = 127 := (by decide); have z3 : (31 : Int32).toInt = 31 := (by decide); exact if_neg (by omega) : (own_ctl v1) = (0 : Int32))).2 (XS.iconst X4.here hx rfl (hb hby at_47) (XS.goto X4.here hx rfl (pc0 := 48) (pc' := 52) rfl (hb hby at_48) (by decide) (by decide) k))))) ?_
          exact own_retZ X4 hx hret hlk (hb hby at_52) (by decide) (by decide) (Or.inr rfl) ⟨rfl, N4⟩
      · skip
        refine own_to s₁ (mkF m 40 #[.val (.int i0), .val (.int v1), .val (.int v1), .val (.int (1 : Int32))] [(.int v1)]) (fun t k => XS.icmpYes X0.here hx rfl (pc0 := 24) (pc' := 33) rfl (hb hby at_24) rfl (flt c24).2.2.2 (by decide) (by decide) (XS.iconst X0.here hx rfl (hb hby at_33) (XS.goto X0.here hx rfl (pc0 := 34) (pc' := 38) rfl (hb hby at_34) (by decide) (by decide) (XS.istoreN X0.here hx rfl (hb hby at_38) rfl (l' := #[.val (.int i0), .val (.int v1), .val (.int v1), .val (.int (1 : Int32))]) rfl (XS.iloadN X0.here hx rfl (hb hby at_39) rfl k))))) ?_
        obtain ⟨_, _, ⟨T5, L5, k5, n5⟩, -, X5, ⟨Lc5, hQ5, l5, y5, z5⟩, st5⟩ := Jvm.LawKit.callS X0 hx (y := (⟨"com/example/wayline/wayline/HeaderReader", "isControl", "(C)Z"⟩ : MethodName)) hown (mvT hZ (own_w hw 0 rfl)) (mvT hZ (own_w hw 1 rfl)) (mvT hZ (own_w hw 2 rfl)) (mvT hZ (own_w hw 3 rfl)) (by decide) (backOf (W := 0) (rm1 l Z a0 hw [] v1 h0 n0 Z0) hZ (own_w hw 3 rfl) (own_w hw 2 rfl) (by decide) (by decide)) (g := (mkF m 40 #[.val (.int i0), .val (.int v1), .val (.int v1), .val (.int (1 : Int32))] [(.int v1)])) rfl (by rw [hml]; rfl) (argsL := [(.int v1)]) (rest := []) (lenOf pd_0 rfl) rfl (by show 2 * 0 + _ ≤ _; exact Nat.le_of_eq rfl) (hb hby at_40) (fun _ _ => ⟨rfl, e0, (by decide : 0 + 0 ≤ _), (by decide : 0 + 0 ≤ _)⟩)
        dsimp only [Pt.U, Pt.locs, Pt.cells, Pt.slots] at X5 l5 y5 z5 st5 hQ5
        subst l5 y5 z5
        obtain ⟨rfl, N5q, e5⟩ := hQ5
        have N5 := Fr.app (Fr.nil n0) N5q
        refine own_to T5 (mkF m 52 #[.val (.int i0), .val (.int v1), .val (.int v1), .val (.int (1 : Int32))] [(.int (1 : Int32))]) (fun t k => st5 _ (XS.iloadN X5.here hx rfl (hb hby at_43) rfl (XS.icmpNo X5.here hx rfl (hb hby at_44) rfl (teq (by rw [own_ctl_spec]; have t1 := Int32.lt_iff_toInt_lt.mp c6; have t2 := mt Int32.lt_iff_toInt_lt.mpr c18; have t3 := mt Int32.lt_iff_toInt_lt.mpr c24; have z0 : (0 : Int32).toInt = 0 := (by decide); have z1 : (10 : Int32).toInt = 10 := (by decide); have z2 : (31 : Int32).toInt = 31 := (by decide); exact if_pos (by omega) : (own_ctl v1) = (1 : Int32))).2 (XS.iconst X5.here hx rfl (hb hby at_47) (XS.goto X5.here hx rfl (pc0 := 48) (pc' := 52) rfl (hb hby at_48) (by decide) (by decide) k))))) ?_
        exact own_retZ X5 hx hret hlk (hb hby at_52) (by decide) (by decide) (Or.inr rfl) ⟨rfl, N5⟩
  · skip
    refine own_to s₁ (mkF m 12 #[.val (.int i0), .val (.int v1), .val (.int v1), .unset] [(.int (8 : Int32)), (.int v1)]) (fun t k => XS.ifNo X0.here hx rfl (hb hby at_6) rfl ((if0 _ _).trans (flt c6).1) (XS.iloadN X0.here hx rfl (hb hby at_9) rfl (XS.bipush X0.here hx rfl (hb hby at_10) k))) ?_
    by_cases c12 : (8 : Int32) < v1
    · skip
      refine own_to s₁ (mkF m 18 #[.val (.int i0), .val (.int v1), .val (.int v1), .unset] [(.int (10 : Int32)), (.int v1)]) (fun t k => XS.icmpNo X0.here hx rfl (hb hby at_12) rfl (tlt c12).2.2.2 (XS.iloadN X0.here hx rfl (hb hby at_15) rfl (XS.bipush X0.here hx rfl (hb hby at_16) k))) ?_
      by_cases c18 : v1 < (10 : Int32)
      · skip
        refine own_to s₁ (mkF m 30 #[.val (.int i0), .val (.int v1), .val (.int v1), .unset] [(.int (127 : Int32)), (.int v1)]) (fun t k => XS.icmpYes X0.here hx rfl (pc0 := 18) (pc' := 27) rfl (hb hby at_18) rfl (tlt c18).1 (by decide) (by decide) (XS.iloadN X0.here hx rfl (hb hby at_27) rfl (XS.bipush X0.here hx rfl (hb hby at_28) k))) ?_
        by_cases c30 : v1 = (127 : Int32)
        · skip
          refine own_to s₁ (mkF m 40 #[.val (.int i0), .val (.int v1), .val (.int v1), .val (.int (1 : Int32))] [(.int v1)]) (fun t k => XS.icmpNo X0.here hx rfl (hb hby at_30) rfl (teq c30).2 (XS.iconst X0.here hx rfl (hb hby at_33) (XS.goto X0.here hx rfl (pc0 := 34) (pc' := 38) rfl (hb hby at_34) (by decide) (by decide) (XS.istoreN X0.here hx rfl (hb hby at_38) rfl (l' := #[.val (.int i0), .val (.int v1), .val (.int v1), .val (.int (1 : Int32))]) rfl (XS.iloadN X0.here hx rfl (hb hby at_39) rfl k))))) ?_
          obtain ⟨_, _, ⟨T6, L6, k6, n6⟩, -, X6, ⟨Lc6, hQ6, l6, y6, z6⟩, st6⟩ := Jvm.LawKit.callS X0 hx (y := (⟨"com/example/wayline/wayline/HeaderReader", "isControl", "(C)Z"⟩ : MethodName)) hown (mvT hZ (own_w hw 0 rfl)) (mvT hZ (own_w hw 1 rfl)) (mvT hZ (own_w hw 2 rfl)) (mvT hZ (own_w hw 3 rfl)) (by decide) (backOf (W := 0) (rm1 l Z a0 hw [] v1 h0 n0 Z0) hZ (own_w hw 3 rfl) (own_w hw 2 rfl) (by decide) (by decide)) (g := (mkF m 40 #[.val (.int i0), .val (.int v1), .val (.int v1), .val (.int (1 : Int32))] [(.int v1)])) rfl (by rw [hml]; rfl) (argsL := [(.int v1)]) (rest := []) (lenOf pd_0 rfl) rfl (by show 2 * 0 + _ ≤ _; exact Nat.le_of_eq rfl) (hb hby at_40) (fun _ _ => ⟨rfl, e0, (by decide : 0 + 0 ≤ _), (by decide : 0 + 0 ≤ _)⟩)
          dsimp only [Pt.U, Pt.locs, Pt.cells, Pt.slots] at X6 l6 y6 z6 st6 hQ6
          subst l6 y6 z6
          obtain ⟨rfl, N6q, e6⟩ := hQ6
          have N6 := Fr.app (Fr.nil n0) N6q
          refine own_to T6 (mkF m 52 #[.val (.int i0), .val (.int v1), .val (.int v1), .val (.int (1 : Int32))] [(.int (1 : Int32))]) (fun t k => st6 _ (XS.iloadN X6.here hx rfl (hb hby at_43) rfl (XS.icmpNo X6.here hx rfl (hb hby at_44) rfl (teq (by rw [own_ctl_spec]; have t1 := mt Int32.lt_iff_toInt_lt.mpr c6; have t2 := Int32.lt_iff_toInt_lt.mp c12; have t3 := Int32.lt_iff_toInt_lt.mp c18; have t4 := congrArg Int32.toInt c30; have z0 : (0 : Int32).toInt = 0 := (by decide); have z1 : (10 : Int32).toInt = 10 := (by decide); have z2 : (127 : Int32).toInt = 127 := (by decide); have z3 : (8 : Int32).toInt = 8 := (by decide); exact if_pos (by omega) : (own_ctl v1) = (1 : Int32))).2 (XS.iconst X6.here hx rfl (hb hby at_47) (XS.goto X6.here hx rfl (pc0 := 48) (pc' := 52) rfl (hb hby at_48) (by decide) (by decide) k))))) ?_
          exact own_retZ X6 hx hret hlk (hb hby at_52) (by decide) (by decide) (Or.inr rfl) ⟨rfl, N6⟩
        · skip
          refine own_to s₁ (mkF m 40 #[.val (.int i0), .val (.int v1), .val (.int v1), .val (.int (0 : Int32))] [(.int v1)]) (fun t k => XS.icmpYes X0.here hx rfl (pc0 := 30) (pc' := 37) rfl (hb hby at_30) rfl (feq c30).2 (by decide) (by decide) (XS.iconst X0.here hx rfl (hb hby at_37) (XS.istoreN X0.here hx rfl (hb hby at_38) rfl (l' := #[.val (.int i0), .val (.int v1), .val (.int v1), .val (.int (0 : Int32))]) rfl (XS.iloadN X0.here hx rfl (hb hby at_39) rfl k)))) ?_
          obtain ⟨_, _, ⟨T7, L7, k7, n7⟩, -, X7, ⟨Lc7, hQ7, l7, y7, z7⟩, st7⟩ := Jvm.LawKit.callS X0 hx (y := (⟨"com/example/wayline/wayline/HeaderReader", "isControl", "(C)Z"⟩ : MethodName)) hown (mvT hZ (own_w hw 0 rfl)) (mvT hZ (own_w hw 1 rfl)) (mvT hZ (own_w hw 2 rfl)) (mvT hZ (own_w hw 3 rfl)) (by decide) (backOf (W := 0) (rm1 l Z a0 hw [] v1 h0 n0 Z0) hZ (own_w hw 3 rfl) (own_w hw 2 rfl) (by decide) (by decide)) (g := (mkF m 40 #[.val (.int i0), .val (.int v1), .val (.int v1), .val (.int (0 : Int32))] [(.int v1)])) rfl (by rw [hml]; rfl) (argsL := [(.int v1)]) (rest := []) (lenOf pd_0 rfl) rfl (by show 2 * 0 + _ ≤ _; exact Nat.le_of_eq rfl) (hb hby at_40) (fun _ _ => ⟨rfl, e0, (by decide : 0 + 0 ≤ _), (by decide : 0 + 0 ≤ _)⟩)
          dsimp only [Pt.U, Pt.locs, Pt.cells, Pt.slots] at X7 l7 y7 z7 st7 hQ7
          subst l7 y7 z7
          obtain ⟨rfl, N7q, e7⟩ := hQ7
          have N7 := Fr.app (Fr.nil n0) N7q
          refine own_to T7 (mkF m 52 #[.val (.int i0), .val (.int v1), .val (.int v1), .val (.int (0 : Int32))] [(.int (1 : Int32))]) (fun t k => st7 _ (XS.iloadN X7.here hx rfl (hb hby at_43) rfl (XS.icmpNo X7.here hx rfl (hb hby at_44) rfl (teq (by rw [own_ctl_spec]; have t1 := mt Int32.lt_iff_toInt_lt.mpr c6; have t2 := Int32.lt_iff_toInt_lt.mp c12; have t3 := Int32.lt_iff_toInt_lt.mp c18; have t4 := mt Int32.toInt_inj.mp c30; have z0 : (0 : Int32).toInt = 0 := (by decide); have z1 : (10 : Int32).toInt = 10 := (by decide); have z2 : (127 : Int32).toInt = 127 := (by decide); have z3 : (8 : Int32).toInt = 8 := (by decide); exact if_neg (by omega) : (own_ctl v1) = (0 : Int32))).2 (XS.iconst X7.here hx rfl (hb hby at_47) (XS.goto X7.here hx rfl (pc0 := 48) (pc' := 52) rfl (hb hby at_48) (by decide) (by decide) k))))) ?_
          exact own_retZ X7 hx hret hlk (hb hby at_52) (by decide) (by decide) (Or.inr rfl) ⟨rfl, N7⟩
      · skip
        refine own_to s₁ (mkF m 24 #[.val (.int i0), .val (.int v1), .val (.int v1), .unset] [(.int (31 : Int32)), (.int v1)]) (fun t k => XS.icmpNo X0.here hx rfl (hb hby at_18) rfl (flt c18).1 (XS.iloadN X0.here hx rfl (hb hby at_21) rfl (XS.bipush X0.here hx rfl (hb hby at_22) k))) ?_
        by_cases c24 : (31 : Int32) < v1
        · skip
          refine own_to s₁ (mkF m 30 #[.val (.int i0), .val (.int v1), .val (.int v1), .unset] [(.int (127 : Int32)), (.int v1)]) (fun t k => XS.icmpNo X0.here hx rfl (hb hby at_24) rfl (tlt c24).2.2.2 (XS.iloadN X0.here hx rfl (hb hby at_27) rfl (XS.bipush X0.here hx rfl (hb hby at_28) k))) ?_
          by_cases c30 : v1 = (127 : Int32)
          · skip
            refine own_to s₁ (mkF m 40 #[.val (.int i0), .val (.int v1), .val (.int v1), .val (.int (1 : Int32))] [(.int v1)]) (fun t k => XS.icmpNo X0.here hx rfl (hb hby at_30) rfl (teq c30).2 (XS.iconst X0.here hx rfl (hb hby at_33) (XS.goto X0.here hx rfl (pc0 := 34) (pc' := 38) rfl (hb hby at_34) (by decide) (by decide) (XS.istoreN X0.here hx rfl (hb hby at_38) rfl (l' := #[.val (.int i0), .val (.int v1), .val (.int v1), .val (.int (1 : Int32))]) rfl (XS.iloadN X0.here hx rfl (hb hby at_39) rfl k))))) ?_
            obtain ⟨_, _, ⟨T8, L8, k8, n8⟩, -, X8, ⟨Lc8, hQ8, l8, y8, z8⟩, st8⟩ := Jvm.LawKit.callS X0 hx (y := (⟨"com/example/wayline/wayline/HeaderReader", "isControl", "(C)Z"⟩ : MethodName)) hown (mvT hZ (own_w hw 0 rfl)) (mvT hZ (own_w hw 1 rfl)) (mvT hZ (own_w hw 2 rfl)) (mvT hZ (own_w hw 3 rfl)) (by decide) (backOf (W := 0) (rm1 l Z a0 hw [] v1 h0 n0 Z0) hZ (own_w hw 3 rfl) (own_w hw 2 rfl) (by decide) (by decide)) (g := (mkF m 40 #[.val (.int i0), .val (.int v1), .val (.int v1), .val (.int (1 : Int32))] [(.int v1)])) rfl (by rw [hml]; rfl) (argsL := [(.int v1)]) (rest := []) (lenOf pd_0 rfl) rfl (by show 2 * 0 + _ ≤ _; exact Nat.le_of_eq rfl) (hb hby at_40) (fun _ _ => ⟨rfl, e0, (by decide : 0 + 0 ≤ _), (by decide : 0 + 0 ≤ _)⟩)
            dsimp only [Pt.U, Pt.locs, Pt.cells, Pt.slots] at X8 l8 y8 z8 st8 hQ8
            subst l8 y8 z8
            obtain ⟨rfl, N8q, e8⟩ := hQ8
            have N8 := Fr.app (Fr.nil n0) N8q
            refine own_to T8 (mkF m 52 #[.val (.int i0), .val (.int v1), .val (.int v1), .val (.int (1 : Int32))] [(.int (1 : Int32))]) (fun t k => st8 _ (XS.iloadN X8.here hx rfl (hb hby at_43) rfl (XS.icmpNo X8.here hx rfl (hb hby at_44) rfl (teq (by rw [own_ctl_spec]; have t1 := mt Int32.lt_iff_toInt_lt.mpr c6; have t2 := Int32.lt_iff_toInt_lt.mp c12; have t3 := mt Int32.lt_iff_toInt_lt.mpr c18; have t4 := Int32.lt_iff_toInt_lt.mp c24; have t5 := congrArg Int32.toInt c30; have z0 : (0 : Int32).toInt = 0 := (by decide); have z1 : (10 : Int32).toInt = 10 := (by decide); have z2 : (127 : Int32).toInt = 127 := (by decide); have z3 : (31 : Int32).toInt = 31 := (by decide); have z4 : (8 : Int32).toInt = 8 := (by decide); exact if_pos (by omega) : (own_ctl v1) = (1 : Int32))).2 (XS.iconst X8.here hx rfl (hb hby at_47) (XS.goto X8.here hx rfl (pc0 := 48) (pc' := 52) rfl (hb hby at_48) (by decide) (by decide) k))))) ?_
            exact own_retZ X8 hx hret hlk (hb hby at_52) (by decide) (by decide) (Or.inr rfl) ⟨rfl, N8⟩
          · skip
            refine own_to s₁ (mkF m 40 #[.val (.int i0), .val (.int v1), .val (.int v1), .val (.int (0 : Int32))] [(.int v1)]) (fun t k => XS.icmpYes X0.here hx rfl (pc0 := 30) (pc' := 37) rfl (hb hby at_30) rfl (feq c30).2 (by decide) (by decide) (XS.iconst X0.here hx rfl (hb hby at_37) (XS.istoreN X0.here hx rfl (hb hby at_38) rfl (l' := #[.val (.int i0), .val (.int v1), .val (.int v1), .val (.int (0 : Int32))]) rfl (XS.iloadN X0.here hx rfl (hb hby at_39) rfl k)))) ?_
            obtain ⟨_, _, ⟨T9, L9, k9, n9⟩, -, X9, ⟨Lc9, hQ9, l9, y9, z9⟩, st9⟩ := Jvm.LawKit.callS X0 hx (y := (⟨"com/example/wayline/wayline/HeaderReader", "isControl", "(C)Z"⟩ : MethodName)) hown (mvT hZ (own_w hw 0 rfl)) (mvT hZ (own_w hw 1 rfl)) (mvT hZ (own_w hw 2 rfl)) (mvT hZ (own_w hw 3 rfl)) (by decide) (backOf (W := 0) (rm1 l Z a0 hw [] v1 h0 n0 Z0) hZ (own_w hw 3 rfl) (own_w hw 2 rfl) (by decide) (by decide)) (g := (mkF m 40 #[.val (.int i0), .val (.int v1), .val (.int v1), .val (.int (0 : Int32))] [(.int v1)])) rfl (by rw [hml]; rfl) (argsL := [(.int v1)]) (rest := []) (lenOf pd_0 rfl) rfl (by show 2 * 0 + _ ≤ _; exact Nat.le_of_eq rfl) (hb hby at_40) (fun _ _ => ⟨rfl, e0, (by decide : 0 + 0 ≤ _), (by decide : 0 + 0 ≤ _)⟩)
            dsimp only [Pt.U, Pt.locs, Pt.cells, Pt.slots] at X9 l9 y9 z9 st9 hQ9
            subst l9 y9 z9
            obtain ⟨rfl, N9q, e9⟩ := hQ9
            have N9 := Fr.app (Fr.nil n0) N9q
            refine own_to T9 (mkF m 52 #[.val (.int i0), .val (.int v1), .val (.int v1), .val (.int (0 : Int32))] [(.int (1 : Int32))]) (fun t k => st9 _ (XS.iloadN X9.here hx rfl (hb hby at_43) rfl (XS.icmpNo X9.here hx rfl (hb hby at_44) rfl (teq (by rw [own_ctl_spec]; have t1 := mt Int32.lt_iff_toInt_lt.mpr c6; have t2 := Int32.lt_iff_toInt_lt.mp c12; have t3 := mt Int32.lt_iff_toInt_lt.mpr c18; have t4 := Int32.lt_iff_toInt_lt.mp c24; have t5 := mt Int32.toInt_inj.mp c30; have z0 : (0 : Int32).toInt = 0 := (by decide); have z1 : (10 : Int32).toInt = 10 := (by decide); have z2 : (127 : Int32).toInt = 127 := (by decide); have z3 : (31 : Int32).toInt = 31 := (by decide); have z4 : (8 : Int32).toInt = 8 := (by decide); exact if_neg (by omega) : (own_ctl v1) = (0 : Int32))).2 (XS.iconst X9.here hx rfl (hb hby at_47) (XS.goto X9.here hx rfl (pc0 := 48) (pc' := 52) rfl (hb hby at_48) (by decide) (by decide) k))))) ?_
            exact own_retZ X9 hx hret hlk (hb hby at_52) (by decide) (by decide) (Or.inr rfl) ⟨rfl, N9⟩
        · skip
          refine own_to s₁ (mkF m 40 #[.val (.int i0), .val (.int v1), .val (.int v1), .val (.int (1 : Int32))] [(.int v1)]) (fun t k => XS.icmpYes X0.here hx rfl (pc0 := 24) (pc' := 33) rfl (hb hby at_24) rfl (flt c24).2.2.2 (by decide) (by decide) (XS.iconst X0.here hx rfl (hb hby at_33) (XS.goto X0.here hx rfl (pc0 := 34) (pc' := 38) rfl (hb hby at_34) (by decide) (by decide) (XS.istoreN X0.here hx rfl (hb hby at_38) rfl (l' := #[.val (.int i0), .val (.int v1), .val (.int v1), .val (.int (1 : Int32))]) rfl (XS.iloadN X0.here hx rfl (hb hby at_39) rfl k))))) ?_
          obtain ⟨_, _, ⟨T10, L10, k10, n10⟩, -, X10, ⟨Lc10, hQ10, l10, y10, z10⟩, st10⟩ := Jvm.LawKit.callS X0 hx (y := (⟨"com/example/wayline/wayline/HeaderReader", "isControl", "(C)Z"⟩ : MethodName)) hown (mvT hZ (own_w hw 0 rfl)) (mvT hZ (own_w hw 1 rfl)) (mvT hZ (own_w hw 2 rfl)) (mvT hZ (own_w hw 3 rfl)) (by decide) (backOf (W := 0) (rm1 l Z a0 hw [] v1 h0 n0 Z0) hZ (own_w hw 3 rfl) (own_w hw 2 rfl) (by decide) (by decide)) (g := (mkF m 40 #[.val (.int i0), .val (.int v1), .val (.int v1), .val (.int (1 : Int32))] [(.int v1)])) rfl (by rw [hml]; rfl) (argsL := [(.int v1)]) (rest := []) (lenOf pd_0 rfl) rfl (by show 2 * 0 + _ ≤ _; exact Nat.le_of_eq rfl) (hb hby at_40) (fun _ _ => ⟨rfl, e0, (by decide : 0 + 0 ≤ _), (by decide : 0 + 0 ≤ _)⟩)
          dsimp only [Pt.U, Pt.locs, Pt.cells, Pt.slots] at X10 l10 y10 z10 st10 hQ10
          subst l10 y10 z10
          obtain ⟨rfl, N10q, e10⟩ := hQ10
          have N10 := Fr.app (Fr.nil n0) N10q
          refine own_to T10 (mkF m 52 #[.val (.int i0), .val (.int v1), .val (.int v1), .val (.int (1 : Int32))] [(.int (1 : Int32))]) (fun t k => st10 _ (XS.iloadN X10.here hx rfl (hb hby at_43) rfl (XS.icmpNo X10.here hx rfl (hb hby at_44) rfl (teq (by rw [own_ctl_spec]; have t1 := mt Int32.lt_iff_toInt_lt.mpr c6; have t2 := Int32.lt_iff_toInt_lt.mp c12; have t3 := mt Int32.lt_iff_toInt_lt.mpr c18; have t4 := mt Int32.lt_iff_toInt_lt.mpr c24; have z0 : (0 : Int32).toInt = 0 := (by decide); have z1 : (10 : Int32).toInt = 10 := (by decide); have z2 : (31 : Int32).toInt = 31 := (by decide); have z3 : (8 : Int32).toInt = 8 := (by decide); exact if_pos (by omega) : (own_ctl v1) = (1 : Int32))).2 (XS.iconst X10.here hx rfl (hb hby at_47) (XS.goto X10.here hx rfl (pc0 := 48) (pc' := 52) rfl (hb hby at_48) (by decide) (by decide) k))))) ?_
          exact own_retZ X10 hx hret hlk (hb hby at_52) (by decide) (by decide) (Or.inr rfl) ⟨rfl, N10⟩
    · skip
      refine own_to s₁ (mkF m 40 #[.val (.int i0), .val (.int v1), .val (.int v1), .val (.int (1 : Int32))] [(.int v1)]) (fun t k => XS.icmpYes X0.here hx rfl (pc0 := 12) (pc' := 33) rfl (hb hby at_12) rfl (flt c12).2.2.2 (by decide) (by decide) (XS.iconst X0.here hx rfl (hb hby at_33) (XS.goto X0.here hx rfl (pc0 := 34) (pc' := 38) rfl (hb hby at_34) (by decide) (by decide) (XS.istoreN X0.here hx rfl (hb hby at_38) rfl (l' := #[.val (.int i0), .val (.int v1), .val (.int v1), .val (.int (1 : Int32))]) rfl (XS.iloadN X0.here hx rfl (hb hby at_39) rfl k))))) ?_
      obtain ⟨_, _, ⟨T11, L11, k11, n11⟩, -, X11, ⟨Lc11, hQ11, l11, y11, z11⟩, st11⟩ := Jvm.LawKit.callS X0 hx (y := (⟨"com/example/wayline/wayline/HeaderReader", "isControl", "(C)Z"⟩ : MethodName)) hown (mvT hZ (own_w hw 0 rfl)) (mvT hZ (own_w hw 1 rfl)) (mvT hZ (own_w hw 2 rfl)) (mvT hZ (own_w hw 3 rfl)) (by decide) (backOf (W := 0) (rm1 l Z a0 hw [] v1 h0 n0 Z0) hZ (own_w hw 3 rfl) (own_w hw 2 rfl) (by decide) (by decide)) (g := (mkF m 40 #[.val (.int i0), .val (.int v1), .val (.int v1), .val (.int (1 : Int32))] [(.int v1)])) rfl (by rw [hml]; rfl) (argsL := [(.int v1)]) (rest := []) (lenOf pd_0 rfl) rfl (by show 2 * 0 + _ ≤ _; exact Nat.le_of_eq rfl) (hb hby at_40) (fun _ _ => ⟨rfl, e0, (by decide : 0 + 0 ≤ _), (by decide : 0 + 0 ≤ _)⟩)
      dsimp only [Pt.U, Pt.locs, Pt.cells, Pt.slots] at X11 l11 y11 z11 st11 hQ11
      subst l11 y11 z11
      obtain ⟨rfl, N11q, e11⟩ := hQ11
      have N11 := Fr.app (Fr.nil n0) N11q
      refine own_to T11 (mkF m 52 #[.val (.int i0), .val (.int v1), .val (.int v1), .val (.int (1 : Int32))] [(.int (1 : Int32))]) (fun t k => st11 _ (XS.iloadN X11.here hx rfl (hb hby at_43) rfl (XS.icmpNo X11.here hx rfl (hb hby at_44) rfl (teq (by rw [own_ctl_spec]; have t1 := mt Int32.lt_iff_toInt_lt.mpr c6; have t2 := mt Int32.lt_iff_toInt_lt.mpr c12; have z0 : (0 : Int32).toInt = 0 := (by decide); have z1 : (8 : Int32).toInt = 8 := (by decide); exact if_pos (by omega) : (own_ctl v1) = (1 : Int32))).2 (XS.iconst X11.here hx rfl (hb hby at_47) (XS.goto X11.here hx rfl (pc0 := 48) (pc' := 52) rfl (hb hby at_48) (by decide) (by decide) k))))) ?_
      exact own_retZ X11 hx hret hlk (hb hby at_52) (by decide) (by decide) (Or.inr rfl) ⟨rfl, N11⟩
set_option maxRecDepth 65536 in
set_option maxHeartbeats 40000000 in
theorem comes_1 {Post : Tables → Env → Array Value → State → Outcome → State → Prop} (hpost : ∀ tb e args s v u, (limb_1_1.after args s (.returned v) u = true ∧ limb_1_2.after args s (.returned v) u = true ∧ True) → FrameEnd s (.returned v) u (Jvm.fieldLocs frame_1_writes args s ++ Jvm.arrayLocs frame_1_arrays args s ++ Jvm.staticLocs frame_1_statics s) 0 0 → Post tb e args s (.returned v) u) :
    ArmFor flags0 classFile x code maxLocals ret World_1 tables_1 room_1 Calls_1 rest_1 Pre_1 Post := by
  intro l hfl _ _ p e ha hc hk s m args below hf hA hF happ hP
  obtain ⟨hcalls, hrest, hpre⟩ := hP
  obtain ⟨-, -, -, hnamed, -, -, -, hat⟩ := (Spec.applies_iff hf).mp happ
  obtain ⟨hg, hn⟩ := and_e (Cond.before_iff.mp (show (Jvm.Cond.and given_1 narrow_1).before args s = true from hpre))
  obtain ⟨q1, q2⟩ := and_e hg
  obtain ⟨w0, rfl⟩ : ∃ w0 : Value, args = #[w0] := by
    have hs : args.size = 1 := by simpa [Cond.value, given_1] using q1
    obtain ⟨L⟩ := args
    match L, hs with
    | [w0], _ => exact ⟨w0, rfl⟩
  have hw := fun d (hd : d ∈ tables_1) => atoms_spec (ws := Jvm.Cond.code x code maxLocals ret :: tables_1) hat d (List.mem_cons_of_mem _ hd)
  have hfit : Fit s := fun {y c} hc i hi => by
    obtain ⟨ha, rfl⟩ := Array.getElem?_eq_some_iff.mp hc
    have q := List.all_eq_true.mp ((Array.all_eq_true_iff_forall_mem.mp hF) _ (Array.getElem_mem ha)) i (List.mem_range.mpr hi)
    simpa [Array.getElem?_eq_getElem hi] using q
  obtain ⟨i0, ei0⟩ := is_v q2
  obtain rfl : w0 = (.int i0) := Option.some.inj ei0
  obtain ⟨n, o, h1, h2, h3, _, L, rfl, ⟨rfl, N⟩, hq⟩ := rm0 l s _ hw tables_1 i0 s.heap s.heap.size (Nat.le_refl _)  p e ha hc hk s m _ below hf ((Spec.applies_iff_loose hf).mp happ).1 ⟨rfl, State.Warmed39.refl s, rfl⟩ trivial
  refine ⟨n, _, h1, h2, h3, hpost _ _ _ _ _ _ ⟨Cond.after_iff.mpr rfl, Cond.after_iff.mpr (eq_i res_at (Term.int_eval (1)) rfl), trivial⟩ ⟨hq.1, hq.2.1, (hq.2.2.sift fun y hy => Or.inr (N y hy)).mono (by decide) (by decide)⟩⟩
theorem main_1_1 : Claimed_1_1 := comes_1 fun _ _ _ _ _ _ h hF => ⟨h.1, hF⟩
theorem main_1_2 : Claimed_1_2 := comes_1 fun _ _ _ _ _ _ h hF => ⟨h.2.1, hF⟩
end Jvm.Pilot.@@N@@
namespace Jvm.Pilot.@@N@@
open Jvm Jvm.ClassFile Sem Op Lib Jvm.Free Jvm.Stand Jvm.Pilot.@@N@@.Jvm.D
/-! MADE BY PROGRAM (witnessworld.py) out of the Statement's table words and the real class files: 9 classes; the members and pool entries that the words name. The judged class is class 1, her method 1. -/
namespace start1
open Jvm.ClassFile
def u (s : String) : CpInfo := .utf8 (stringToUtf16 s)
/-- a pool by its gaps: so many unusable entries, then the entry; so many at the end -/
def gap : Nat → List CpInfo → List CpInfo
  | 0, r => r
  | n + 1, r => .unusable :: gap n r
def poolList (es : List (Nat × CpInfo)) (last : Nat) : List CpInfo := es.foldr (fun e r => gap e.1 (e.2 :: r)) (gap last [])
def pool (es : List (Nat × CpInfo)) (last : Nat) : Array CpInfo := ⟨poolList es last⟩
def fileOf (pool : Array CpInfo) (this : Nat) (attrs : Array Attribute := #[]) (ms : Array MethodInfo := #[]) (fl : Nat := 33) (sup : Nat := 0) (ifs : Array Nat := #[]) (fds : Array FieldInfo := #[]) : ClassFile where
  minorVersion := 0
  majorVersion := 65
  constantPool := pool
  accessFlags := fl
  thisClass := this
  superClass := sup
  interfaces := ifs
  fields := fds
  methods := ms
  attributes := attrs
def plain (name : String) (sup : Option ClassId) : Class where
  name := name
  kind := .ordinary
  loader := none
  accessFlags := 33
  super := sup
  interfaces := #[]
  cf := none
  fields := #[]
  methods := #[]
  instanceTypes := #[]
  staticTypes := #[]
  resolved := #[]
  callSites := []
  init := .initialized
  statics := none
  mirror := none

def pool0 : Array CpInfo := pool [(5, u "<init>"), (0, u "()V"), (1, .class_ 10), (1, u "java/lang/Object")] 113

def k0m0 : Method := { name := "<init>", desc := "()V", sig := { parameters := [], returnType := none }, accessFlags := 1, code := none }
/-- java/lang/Object -/
def k0 : Class := { plain "java/lang/Object" none with
  accessFlags := 33
  interfaces := #[]
  cf := some (fileOf pool0 8 #[] #[{ accessFlags := 1, nameIndex := 5, descriptorIndex := 6, attributes := #[] }] 33 0 #[] #[])
  fields := #[]
  methods := #[k0m0]
  instanceTypes := #[]
  staticTypes := #[]
  resolved := Array.replicate 124 none
  statics := none }

def pool1 : Array CpInfo := pool [(2, .class_ 4), (1, u "java/lang/Object"), (0, u "<init>"), (0, u "()V"), (0, .methodref 8 9), (0, .class_ 10), (0, .nameAndType 11 12), (0, u "com/example/wayline/wayline/HeaderReader"), (0, u "isControl"), (0, u "(C)Z"), (0, .class_ 14), (0, u "com/example/wayline/wayline/HeaderReaderIsControlPinLaw"), (2, u "law"), (0, u "(I)Z")] 3

def k1m0 : Method := { name := "<init>", desc := "()V", sig := { parameters := [], returnType := none }, accessFlags := 1, code := none }
def k1c1 : Code := { maxStack := 2, maxLocals := 4, code := code, exceptionTable := #[], attributes := #[] }
def k1m1 : Method := { name := "law", desc := "(I)Z", sig := { parameters := [.int], returnType := some .boolean }, accessFlags := 9, code := some k1c1 }
/-- com/example/wayline/wayline/HeaderReaderIsControlPinLaw -/
def k1 : Class := { plain "com/example/wayline/wayline/HeaderReaderIsControlPinLaw" (some 0) with
  accessFlags := 49
  interfaces := #[]
  cf := some (fileOf pool1 13 #[] #[{ accessFlags := 1, nameIndex := 5, descriptorIndex := 6, attributes := #[] }, { accessFlags := 9, nameIndex := 17, descriptorIndex := 18, attributes := #[] }] 49 2 #[] #[])
  fields := #[]
  methods := #[k1m0, k1m1]
  instanceTypes := #[]
  staticTypes := #[]
  resolved := Array.replicate 22 none
  statics := none }

def pool2 : Array CpInfo := pool [(2, .class_ 4), (1, u "java/lang/Object"), (3, .class_ 10), (1, u "com/example/wayline/wayline/HeaderReader"), (0, u "value"), (0, u "Ljava/lang/String;"), (2, u "position"), (0, u "I"), (9, u "(C)Z"), (162, u "isControl"), (6, u "TOKEN_SYMBOLS")] 70

def k2c0 : Code := { maxStack := 2, maxLocals := 1, code := prog_11_method_27_code, exceptionTable := #[], attributes := #[] }
def k2m0 : Method := { name := "isControl", desc := "(C)Z", sig := { parameters := [.char], returnType := some .boolean }, accessFlags := 8, code := some k2c0 }
/-- com/example/wayline/wayline/HeaderReader -/
def k2 : Class := { plain "com/example/wayline/wayline/HeaderReader" (some 0) with
  accessFlags := 48
  interfaces := #[]
  cf := some (fileOf pool2 8 #[] #[{ accessFlags := 8, nameIndex := 189, descriptorIndex := 26, attributes := #[] }] 48 2 #[] #[{ accessFlags := 26, nameIndex := 196, descriptorIndex := 12, attributes := #[] }, { accessFlags := 18, nameIndex := 11, descriptorIndex := 12, attributes := #[] }, { accessFlags := 2, nameIndex := 15, descriptorIndex := 16, attributes := #[] }])
  fields := #[{ name := "TOKEN_SYMBOLS", type := (.object "java/lang/String"), accessFlags := 26, slot := 0, constantValue := 0 }, { name := "value", type := (.object "java/lang/String"), accessFlags := 18, slot := 0, constantValue := 0 }, { name := "position", type := .int, accessFlags := 2, slot := 1, constantValue := 0 }]
  methods := #[k2m0]
  instanceTypes := #[(.object "java/lang/String"), .int]
  staticTypes := #[(.object "java/lang/String")]
  resolved := Array.replicate 267 none
  statics := none }

def pool3 : Array CpInfo := pool [(1, u "java/lang/Cloneable"), (0, .class_ 1), (0, u "java/lang/Object"), (0, .class_ 3)] 3

/-- java/lang/Cloneable -/
def k3 : Class := { plain "java/lang/Cloneable" (some 0) with
  accessFlags := 1537
  interfaces := #[]
  cf := some (fileOf pool3 2 #[] #[] 1537 4 #[] #[])
  fields := #[]
  methods := #[]
  instanceTypes := #[]
  staticTypes := #[]
  resolved := Array.replicate 8 none
  statics := none }

def pool4 : Array CpInfo := pool [(1, u "java/io/Serializable"), (0, .class_ 1), (0, u "java/lang/Object"), (0, .class_ 3)] 3

/-- java/io/Serializable -/
def k4 : Class := { plain "java/io/Serializable" (some 0) with
  accessFlags := 1537
  interfaces := #[]
  cf := some (fileOf pool4 2 #[] #[] 1537 4 #[] #[])
  fields := #[]
  methods := #[]
  instanceTypes := #[]
  staticTypes := #[]
  resolved := Array.replicate 8 none
  statics := none }

/-- the primitive byte -/
def k5 : Class := { plain "byte" none with kind := .primitive 'B', accessFlags := 0x411 }
/-- [B -/
def k6 : Class := { plain "[B" (some 0) with kind := .array 5 .byte, interfaces := #[3, 4], accessFlags := 1041 }

/-- the primitive int -/
def k7 : Class := { plain "int" none with kind := .primitive 'I', accessFlags := 0x411 }
/-- [I -/
def k8 : Class := { plain "[I" (some 0) with kind := .array 7 .int, interfaces := #[3, 4], accessFlags := 1041 }

def heap : Heap := #[]
def classes : Array Class := #[k0, k1, k2, k3, k4, k5, k6, k7, k8]
def interned : List (Array UInt16 × Addr) := []
def slotsUsed : Nat := 0
def theMethod : MethodId := ⟨1, 1⟩
def args0 : Array Value := #[.int 127]
def aboutOver (below : List Frame) : State where
  vm := { classes := classes, interned := interned.toArray }
  heap := heap
  slotsUsed := slotsUsed
  threads := #[{ frames := .invoking theMethod args0 :: below }]
def below0 : List Frame := [.native { method := ⟨0, 0⟩, args := #[] }]
def about1 : State := aboutOver below0
def p0 : Program := .bare "" "" ""
def e0 : Env := launch0.env 0 0 0
theorem w_frames : about1.frames = Frame.invoking theMethod args0 :: below0 := rfl
set_option maxRecDepth 65536 in
theorem w_args : argsFit about1.vm theMethod args0 = true := by decide +kernel
set_option maxRecDepth 65536 in
theorem w_heap : heapFits about1 = true := by decide +kernel
set_option maxRecDepth 65536 in
theorem w_runnable : about1.curStatus? = some .runnable := by decide +kernel
set_option maxRecDepth 65536 in
theorem w_alone : about1.alone = true := by decide +kernel
set_option maxRecDepth 65536 in
theorem w_named : about1.methodNamed? x = some theMethod := by decide +kernel
set_option maxRecDepth 65536 in
theorem w_hears : about1.hears theMethod below0 = true := by decide +kernel
set_option maxRecDepth 65536 in
theorem w_ripe : about1.ripe theMethod args0 below0 = true := by decide +kernel
theorem w_running : about1.status = .running := rfl
set_option maxRecDepth 65536 in
theorem w_room : about1.hasRoom e0.platform room_1 = true :=
  launch0.hasRoom_least _ room_1 (by decide +kernel) (by decide +kernel) (by decide +kernel) (by decide +kernel) (by decide +kernel) (by decide +kernel)
theorem allAtoms_all (ts : List Jvm.Cond) (a : Array Jvm.Value) (st : Jvm.State) : (allAtoms ts).before a st = ts.all (fun c => c.before a st) := by
  induction ts with
  | nil => rfl
  | cons c t ih =>
    show (Jvm.Cond.and c (allAtoms t)).before a st = _
    rw [Jvm.Cond.before_and, ih, List.all_cons]
def words1 : List Jvm.Cond := Jvm.Cond.code x code maxLocals ret :: tables_1
/-- a 'code' word, met by the world's own term for the bytes: nothing is compared byte by byte -/
theorem code_word {y : MethodName} {bytes : ByteArray} {mx : Nat} {rt : Option FieldType} {a : Array Value} {s : State} {m : MethodId} {meth : Method} {c : Code} (h1 : s.methodNamed? y = some m) (h2 : s.vm.method? m = some meth) (h3 : meth.code = some c) (h4 : c.code = bytes)
    (h5 : (c.maxLocals == mx && c.exceptionTable.isEmpty && decide (c.maxStack ≤ mostOperands) && decide (meth.sig.returnType = rt) && !meth.locks && decide (parseMethodDescriptor y.desc = some meth.sig)) = true) : (Jvm.Cond.code y bytes mx rt).before a s = true := by
  simp only [Bool.and_eq_true, beq_iff_eq, Bool.not_eq_true', decide_eq_true_eq] at h5
  obtain ⟨⟨⟨⟨⟨g1, g2⟩, g3⟩, g4⟩, g5⟩, g6⟩ := h5
  simp [Cond.before, Cond.holds, Cond.value, h1, h2, h3, h4, g1, g2, g3, g4, g5, g6]
def isCode : Jvm.Cond → Bool
  | .code _ _ _ _ => true
  | _ => false
theorem all_split {L : List Jvm.Cond} {P : Jvm.Cond → Bool} (h1 : L.all (fun c => isCode c || P c) = true) (h2 : ∀ c ∈ L.filter isCode, P c = true) : L.all P = true := by
  refine List.all_eq_true.mpr fun c hc => ?_
  have h := List.all_eq_true.mp h1 c hc
  rcases Bool.eq_false_or_eq_true (isCode c) with hi | hi
  · exact h2 c (List.mem_filter.mpr ⟨hc, hi⟩)
  · simpa [hi] using h
set_option maxRecDepth 65536 in
theorem w_c0 : (Jvm.Cond.code x code maxLocals ret).before args0 about1 = true := code_word (m := ⟨1, 1⟩) (meth := k1m1) (c := k1c1) (by decide +kernel) rfl rfl rfl (by decide +kernel)
set_option maxRecDepth 65536 in
theorem w_c1 : (Jvm.Cond.code ({ cls := "com/example/wayline/wayline/HeaderReader", name := "isControl", desc := "(C)Z" } : Jvm.MethodName) prog_11_method_27_code (1 : Nat) (Option.some Jvm.ClassFile.FieldType.boolean)).before args0 about1 = true := code_word (m := ⟨2, 0⟩) (meth := k2m0) (c := k2c0) (by decide +kernel) rfl rfl rfl (by decide +kernel)
def codes1 : List Jvm.Cond := [Jvm.Cond.code x code maxLocals ret, Jvm.Cond.code ({ cls := "com/example/wayline/wayline/HeaderReader", name := "isControl", desc := "(C)Z" } : Jvm.MethodName) prog_11_method_27_code (1 : Nat) (Option.some Jvm.ClassFile.FieldType.boolean)]
set_option maxRecDepth 65536 in
theorem codes_eq : words1.filter isCode = codes1 := rfl
theorem w_codes : ∀ c ∈ words1.filter isCode, c.before args0 about1 = true := by
  rw [codes_eq]
  intro c hc
  simp only [codes1, List.mem_cons, List.not_mem_nil, or_false] at hc
  rcases hc with rfl | rfl
  · exact w_c0
  · exact w_c1
set_option maxRecDepth 65536 in
theorem w_t1 : words1.all (fun c => isCode c || c.before args0 about1) = true := by decide +kernel
theorem w_tables : (allAtoms (Jvm.Cond.code x code maxLocals ret :: tables_1)).before args0 about1 = true := by
  rw [allAtoms_all]
  show words1.all (fun c => c.before args0 about1) = true
  refine all_split ?_ w_codes
  rw [w_t1]
set_option maxRecDepth 65536 in
theorem w_case : (Jvm.Cond.and given_1 narrow_1).before args0 about1 = true := by decide +kernel
theorem w_applies : (headSpec (Jvm.Cond.code x code maxLocals ret :: tables_1) room_1).applies x e0.platform about1 = true :=
  (Spec.applies_iff w_frames).mpr ⟨w_running, w_runnable, w_alone, w_named, w_hears, w_ripe, w_room, w_tables⟩
theorem atStart : AtStart classFile x code maxLocals ret World_1 tables_1 room_1 Calls_1 rest_1 Pre_1 launch0 p0 e0 about1 theMethod args0 below0 :=
  ⟨lists_1, trivial, launch0.admits_env _ _ _, launch0.least_env, fairChoices_fair.cas, fairChoices_fair.clock, w_frames, w_args, w_heap, w_applies, trivial, trivial, w_case⟩
end start1
theorem witness_1 : WitnessClaimed_1 := ⟨start1.p0, start1.e0, start1.about1, start1.theMethod, start1.args0, start1.below0, start1.atStart⟩
end Jvm.Pilot.@@N@@
