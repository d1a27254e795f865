import JvmDerived
import JvmDerived.Pilot.@@N@@Statement
import JvmDerived.Pilot.@@N@@Code
set_option linter.unusedVariables false
set_option linter.unusedSimpArgs false
namespace Jvm.Pilot.@@N@@
open Jvm Jvm.ClassFile Sem Op Lib Jvm.Free Jvm.Stand Jvm.LawKit Jvm.RoadKit Bundle Jvm.Pilot.@@N@@.Jvm.D
/-! own kit: a walk as a chain of "from here the run ends well" -/
section OwnKit
/-- from T with the frame g on top the run goes on and ends as Q says -/
def Own (p : Program) (e : Env) (below : List Frame) (s : State) (kc ks : Nat) (Q : Option Value → Heap → List Loc → Prop) (T : State) (g : JFrame) : Prop :=
  ∃ s₂ o, Steps p.tables e below (T.setTop g) s₂ ∧ s₂.status = .running ∧ Ended s₂ below o ∧ ∃ v L, o = .returned v ∧ Q v s₂.heap L ∧ FrameEnd s o s₂ L kc ks
variable {p : Program} {l : Launch} {e : Env} {R : Room} {s : State} {m : MethodId} {args : Array Value} {below : List Frame} {meth : Method} {c : Code} {T T' : State} {locs : List Loc} {cells slots kc ks : Nat} {Q : Option Value → Heap → List Loc → Prop}
theorem own_go {g g' : JFrame} (h : ∀ t, Steps p.tables e below (T'.setTop g') t → Steps p.tables e below (T.setTop g) t) (k : Own p e below s kc ks Q T' g') : Own p e below s kc ks Q T g := by
  obtain ⟨s₂, o, h1, r⟩ := k
  exact ⟨s₂, o, h _ h1, r⟩
theorem own_to (T' : State) (g' : JFrame) {g : JFrame} (h : ∀ t, Steps p.tables e below (T'.setTop g') t → Steps p.tables e below (T.setTop g) t) (k : Own p e below s kc ks Q T' g') : Own p e below s kc ks Q T g := own_go h k
theorem own_ret (X : Stand p l e R s m args below meth c T locs cells slots) (hx : p.tables.exec = Jvm.exec) {pc : Nat} {Ls : Array Slot} {w : Value} {t : FieldType} {i : Instr} {rest : List Value} (hret : meth.sig.returnType = some t) (hlk : meth.locks = false) (hn : narrow t w = w)
    (hi : (i = .ireturn ∧ (t = .int ∨ t = .boolean ∨ t = .byte ∨ t = .char ∨ t = .short) ∧ ∃ z, w = .int z) ∨ (i = .lreturn ∧ t = .long ∧ ∃ z, w = .long z) ∨ (i = .dreturn ∧ t = .double ∧ ∃ z, w = .double z) ∨ (i = .freturn ∧ t = .float ∧ ∃ z, w = .float z) ∨ (i = .areturn ∧ t.isReference = true ∧ w.isRef = true))
    (hd : decode c.code pc = .ok (i, 1)) (hc : cells ≤ kc) (hs : slots ≤ ks) (q : Q (some w) T.heap locs) : Own p e below s kc ks Q T (mkF m pc Ls (w :: rest)) := by
  obtain ⟨fs, hr, hrun, hended, hW, hsame⟩ := X.leave (v := some w) (fun h => by rw [hret] at h; cases h) hlk
  exact ⟨_, _, retOut X hx hret hn hi hd hr, hrun, hended, _, locs, rfl, q, ⟨_, rfl⟩, hW, hsame.mono hc hs⟩
theorem own_retI (X : Stand p l e R s m args below meth c T locs cells slots) (hx : p.tables.exec = Jvm.exec) {pc : Nat} {Ls : Array Slot} {z : Int32} {rest : List Value} (hret : meth.sig.returnType = some .int) (hlk : meth.locks = false)
    (hd : decode c.code pc = .ok (.ireturn, 1)) (hc : cells ≤ kc) (hs : slots ≤ ks) (q : Q (some (.int z)) T.heap locs) : Own p e below s kc ks Q T (mkF m pc Ls (.int z :: rest)) :=
  own_ret X hx hret hlk rfl (Or.inl ⟨rfl, Or.inl rfl, _, rfl⟩) hd hc hs q
theorem own_retZ (X : Stand p l e R s m args below meth c T locs cells slots) (hx : p.tables.exec = Jvm.exec) {pc : Nat} {Ls : Array Slot} {z : Int32} {rest : List Value} (hret : meth.sig.returnType = some .boolean) (hlk : meth.locks = false)
    (hd : decode c.code pc = .ok (.ireturn, 1)) (hc : cells ≤ kc) (hs : slots ≤ ks) (hz : z = 0 ∨ z = 1) (q : Q (some (.int z)) T.heap locs) : Own p e below s kc ks Q T (mkF m pc Ls (.int z :: rest)) :=
  own_ret X hx hret hlk (by rcases hz with rfl | rfl <;> rfl) (Or.inl ⟨rfl, Or.inr (Or.inl rfl), _, rfl⟩) hd hc hs q
theorem own_retC (X : Stand p l e R s m args below meth c T locs cells slots) (hx : p.tables.exec = Jvm.exec) {pc : Nat} {Ls : Array Slot} {z : Int32} {rest : List Value} (hret : meth.sig.returnType = some .char) (hlk : meth.locks = false)
    (hd : decode c.code pc = .ok (.ireturn, 1)) (hc : cells ≤ kc) (hs : slots ≤ ks) (hz : z.toUInt32.toUInt16.toUInt32.toInt32 = z) (q : Q (some (.int z)) T.heap locs) : Own p e below s kc ks Q T (mkF m pc Ls (.int z :: rest)) :=
  own_ret X hx hret hlk (congrArg Value.int hz) (Or.inl ⟨rfl, Or.inr (Or.inr (Or.inr (Or.inl rfl))), _, rfl⟩) hd hc hs q
theorem own_retJ (X : Stand p l e R s m args below meth c T locs cells slots) (hx : p.tables.exec = Jvm.exec) {pc : Nat} {Ls : Array Slot} {z : Int64} {rest : List Value} (hret : meth.sig.returnType = some .long) (hlk : meth.locks = false)
    (hd : decode c.code pc = .ok (.lreturn, 1)) (hc : cells ≤ kc) (hs : slots ≤ ks) (q : Q (some (.long z)) T.heap locs) : Own p e below s kc ks Q T (mkF m pc Ls (.long z :: rest)) :=
  own_ret X hx hret hlk rfl (Or.inr (Or.inl ⟨rfl, rfl, _, rfl⟩)) hd hc hs q
theorem own_retD (X : Stand p l e R s m args below meth c T locs cells slots) (hx : p.tables.exec = Jvm.exec) {pc : Nat} {Ls : Array Slot} {z : UInt64} {rest : List Value} (hret : meth.sig.returnType = some .double) (hlk : meth.locks = false)
    (hd : decode c.code pc = .ok (.dreturn, 1)) (hc : cells ≤ kc) (hs : slots ≤ ks) (q : Q (some (.double z)) T.heap locs) : Own p e below s kc ks Q T (mkF m pc Ls (.double z :: rest)) :=
  own_ret X hx hret hlk rfl (Or.inr (Or.inr (Or.inl ⟨rfl, rfl, _, rfl⟩))) hd hc hs q
theorem own_retA (X : Stand p l e R s m args below meth c T locs cells slots) (hx : p.tables.exec = Jvm.exec) {pc : Nat} {Ls : Array Slot} {w : Value} {t : FieldType} {rest : List Value} (hret : meth.sig.returnType = some t) (hlk : meth.locks = false)
    (ht : t.isReference = true) (hw : w.isRef = true) (hd : decode c.code pc = .ok (.areturn, 1)) (hc : cells ≤ kc) (hs : slots ≤ ks) (q : Q (some w) T.heap locs) : Own p e below s kc ks Q T (mkF m pc Ls (w :: rest)) :=
  own_ret X hx hret hlk (by cases t <;> cases w <;> first | rfl | (cases ht; done) | (cases hw; done)) (Or.inr (Or.inr (Or.inr (Or.inr ⟨rfl, ht, hw⟩)))) hd hc hs q
theorem own_retV (X : Stand p l e R s m args below meth c T locs cells slots) (hx : p.tables.exec = Jvm.exec) {pc : Nat} {Ls : Array Slot} (hret : meth.sig.returnType = none) (hlk : meth.locks = false)
    (hd : decode c.code pc = .ok (.return_, 1)) (hc : cells ≤ kc) (hs : slots ≤ ks) (q : Q none T.heap locs) : Own p e below s kc ks Q T (mkF m pc Ls []) := by
  obtain ⟨fs, hr, hrun, hended, hW, hsame⟩ := X.leave (v := none) (fun _ => rfl) hlk
  exact ⟨_, _, X.returnOut hx hret hd hr, hrun, hended, _, locs, rfl, q, ⟨_, rfl⟩, hW, hsame.mono hc hs⟩
/-- a body's contract out of its walk -/
theorem own_met {Z : State} {h0 : Heap} {y : MethodName} {bytes : ByteArray} {ml : Nat} {ret : Option FieldType} {ws : List Jvm.Cond} {rm : Room} {as' : Array Value} (hp : plainFor y = true)
    (body : ∀ (p : Program) (e : Env) (s : State) (m : MethodId) (below : List Frame) (meth : Method) (c : Code) (s₁ : State), Stand p l e rm s m as' below meth c s₁ [] 0 0 → p.tables.exec = Jvm.exec → c.code = bytes → c.maxLocals = ml → meth.sig.returnType = ret → meth.locks = false →
      s.vm.findClass y.cls = some m.cls → meth.name = y.name → Z.Warmed39 s.vm → s₁.heap = h0 → Own p e below s rm.cells rm.slots Q s₁ (entryFrame m as' ml)) :
    MetFree l y (head1 (Jvm.Cond.code y bytes ml ret :: ws) rm) (fun a U => a = as' ∧ Z.Warmed39 U.vm ∧ U.heap = h0) (fun _ _ _ _ _ => True) (fun _ U o U' => ∃ v L, o = .returned v ∧ Q v U'.heap L ∧ FrameEnd U o U' L rm.cells rm.slots) := by
  refine MetFree.of_bodySF hp hisR ?_
  intro p e s m args below meth c s₁ Bd hml0 hP hK
  obtain ⟨rfl, hZ, hh⟩ := hP
  exact body p e s m below meth c s₁ (Stand.of_body Bd) Bd.exec Bd.bytes hml0 Bd.returns Bd.notSynchronized (findClass_of_methodNamed Bd.named) (name_of_methodNamed Bd.named Bd.method).1 hZ (by rw [← hh, Bd.state]; rfl)
theorem own_entry {g g' : JFrame} (q : g = g') (k : Own p e below s kc ks Q T g') : Own p e below s kc ks Q T g := q ▸ k
theorem own_mvMN {Z s : State} {a0 args : Array Value} {own host : String} {index : Nat} {y : MethodName} (hZ : Z.Warmed39 s.vm) (w : (Jvm.Cond.methodLinkNest own index y host).before a0 Z = true) : (Jvm.Cond.methodLinkNest own index y host).before args s = true := (Jvm.Cond.methodLinkNest_wide hZ w :)
theorem own_w {Z : State} {a0 : Array Value} (hw : ∀ d ∈ tables_1, d.before a0 Z = true) (i : Nat) {d : Jvm.Cond} (h : tables_1[i]? = some d) : d.before a0 Z = true := hw _ (List.mem_of_getElem? h)
end OwnKit
theorem own_eqR {args : Array Value} {s : State} {t u : Term} {w : Addr} (h : (Jvm.Cond.eq t u).value args s none s [] = some true) (hb : u.eval args s none [] s = some (.ref w)) : t.eval args s none [] s = some (.ref w) := by
  obtain ⟨x, y, ha, hb', k1, k2⟩ := cmp_v (Or.inl h)
  rw [hb] at hb'
  cases hb'
  have hx : x.isRef = true := by cases x <;> simp_all [Kin, Value.isRef]
  have q := gotT (eq_R ha hb hx rfl) h
  rw [ha, q]
theorem own_eqI {args : Array Value} {s : State} {t : Term} {n : Int32} (h : (Jvm.Cond.eq t (.int n)).value args s none s [] = some true) : t.eval args s none [] s = some (.int n) := by
  obtain ⟨x, y, ha, hb', k1, k2⟩ := cmp_v (Or.inl h)
  have hb : (Term.int n).eval args s none [] s = some (.int n) := Term.int_eval n
  rw [hb] at hb'
  cases hb'
  obtain ⟨z, rfl⟩ := k2
  have q : (Jvm.Cond.eq t (.int n)).value args s none s [] = some (decide (z = n)) := by simp [Jvm.Cond.value, ha, hb]
  have q' : z = n := gotT q h
  rw [ha, q']

theorem d1_0 : decode prog_8_method_4_code 0 = .ok (.iload_n 0, 1) := by decide +kernel
theorem d1_1 : decode prog_8_method_4_code 1 = .ok (.ifCond .eq 9, 3) := by decide +kernel
theorem d1_4 : decode prog_8_method_4_code 4 = .ok (.getstatic 3, 3) := by decide +kernel
theorem d1_7 : decode prog_8_method_4_code 7 = .ok (.goto 6, 3) := by decide +kernel
theorem d1_10 : decode prog_8_method_4_code 10 = .ok (.getstatic 7, 3) := by decide +kernel
theorem d1_13 : decode prog_8_method_4_code 13 = .ok (.areturn, 1) := by decide +kernel
theorem pn_1 : plainName "com/example/chronoweave/chronoweave/Body$Truth" = true := by first | (simp [plainName, overriddenIn]; done) | decide +kernel
theorem ef_1_I (m : MethodId) (x0 : Int32) : entryFrame m #[(.int x0)] 1 = mkF m 0 #[.val (.int x0)] [] := by first | (simp [entryFrame, mkF, argsToLocals, Value.category]; done) | rfl
def Q_rm1 (Z : State) (p0 : Int32) (wF wT r : Addr) (h0 : Heap) (n0 : Nat) (v : Option Value) (h : Heap) (L : List Loc) : Prop := v = some (.ref r) ∧ Fr n0 L ∧ h = h0
set_option maxRecDepth 65536 in
set_option maxHeartbeats 40000000 in
theorem rm1 (l : Launch) (Z : State) (a0 : Array Value) (hw : ∀ d ∈ tables_1, d.before a0 Z = true) (ws : List Jvm.Cond) (p0 : Int32) (wF wT r : Addr) (h0 : Heap) (n0 : Nat) (Z0 : n0 ≤ h0.size) (S_wF : Sta Z h0 "com/example/chronoweave/chronoweave/Body$Truth" "FALSE" "Lcom/example/chronoweave/chronoweave/Body$Truth;" (.ref wF)) (S_wT : Sta Z h0 "com/example/chronoweave/chronoweave/Body$Truth" "TRUE" "Lcom/example/chronoweave/chronoweave/Body$Truth;" (.ref wT)) (hr : (p0 = (0 : Int32) ∧ r = wF) ∨ (¬ p0 = (0 : Int32) ∧ r = wT)) :
    MetFree l (⟨"com/example/chronoweave/chronoweave/Body$Truth", "of", "(Z)Lcom/example/chronoweave/chronoweave/Body$Truth;"⟩ : MethodName) (head1 (Jvm.Cond.code (⟨"com/example/chronoweave/chronoweave/Body$Truth", "of", "(Z)Lcom/example/chronoweave/chronoweave/Body$Truth;"⟩ : MethodName) prog_8_method_4_code 1 (some (.object "com/example/chronoweave/chronoweave/Body$Truth")) :: ws) ({ frames := 0, cells := 0, slots := 0, locals := 0 } : Room)) (fun a U => a = #[(.int p0)] ∧ Z.Warmed39 U.vm ∧ U.heap = h0) (fun _ _ _ _ _ => True) (fun _ U o U' => ∃ v L, o = .returned v ∧ Q_rm1 Z p0 wF wT r h0 n0 v U'.heap L ∧ FrameEnd U o U' L ({ frames := 0, cells := 0, slots := 0, locals := 0 } : Room).cells ({ frames := 0, cells := 0, slots := 0, locals := 0 } : Room).slots) := by
  refine own_met (y := (⟨"com/example/chronoweave/chronoweave/Body$Truth", "of", "(Z)Lcom/example/chronoweave/chronoweave/Body$Truth;"⟩ : MethodName)) (Q := (Q_rm1 Z p0 wF wT r h0 n0)) (plainFor_of_name pn_1) fun p e s m below meth c s₁ X0 hx hby hml hret hlk hown hnm hZ e0 => ?_
  refine own_entry (ef_1_I m p0) ?_
  rcases hr with ⟨hb0, rfl⟩ | ⟨hb0, rfl⟩
  · skip
    refine own_to s₁ (mkF m 10 #[.val (.int p0)] []) (fun t k => XS.iloadN X0.here hx rfl (hb hby d1_0) rfl (XS.ifYes X0.here hx rfl (pc0 := 1) (pc' := 10) rfl (hb hby d1_1) rfl ((if0 _ _).trans (teq hb0).1) (by decide) (by decide) k)) ?_
    obtain ⟨T1, X1, e1, st1⟩ := getS2 X0 hx hZ hown (host := "") (Or.inl (own_w hw 4 rfl)) Via.refl e0 S_wF (g := (mkF m 10 #[.val (.int p0)] [])) rfl (hb hby d1_10)
    refine own_to T1 (mkF m 13 #[.val (.int p0)] [(.ref r)]) (fun t k => st1 _ k) ?_
    exact own_retA X1 hx hret hlk rfl rfl (hb hby d1_13) (by decide) (by decide) ⟨rfl, (Fr.nil n0), e1⟩
  · skip
    refine own_to s₁ (mkF m 4 #[.val (.int p0)] []) (fun t k => XS.iloadN X0.here hx rfl (hb hby d1_0) rfl (XS.ifNo X0.here hx rfl (hb hby d1_1) rfl ((if0 _ _).trans (feq hb0).1) k)) ?_
    obtain ⟨T2, X2, e2, st2⟩ := getS2 X0 hx hZ hown (host := "") (Or.inl (own_w hw 6 rfl)) Via.refl e0 S_wT (g := (mkF m 4 #[.val (.int p0)] [])) rfl (hb hby d1_4)
    refine own_to T2 (mkF m 13 #[.val (.int p0)] [(.ref r)]) (fun t k => st2 _ (XS.goto X2.here hx rfl (pc0 := 7) (pc' := 13) rfl (hb hby d1_7) (by decide) (by decide) k)) ?_
    exact own_retA X2 hx hret hlk rfl rfl (hb hby d1_13) (by decide) (by decide) ⟨rfl, (Fr.nil n0), e2⟩
theorem pn_0 : plainName "com/example/chronoweave/chronoweave/TruthOfPinLaw" = true := by first | (simp [plainName, overriddenIn]; done) | decide +kernel
theorem ef_0_I (m : MethodId) (x0 : Int32) : entryFrame m #[(.int x0)] maxLocals = mkF m 0 #[.val (.int x0), .unset, .unset, .unset, .unset, .unset, .unset] [] := by first | (simp [entryFrame, mkF, argsToLocals, Value.category, maxLocals]; done) | rfl
def Q_rm0 (Z : State) (i0 : Int32) (wF wT wU : Addr) (h0 : Heap) (n0 : Nat) (v : Option Value) (h : Heap) (L : List Loc) : Prop := v = some (.int 1) ∧ Fr n0 L
theorem pd_0 : parseMethodDescriptor "(Z)Lcom/example/chronoweave/chronoweave/Body$Truth;" = some ⟨[.boolean], some (.object "com/example/chronoweave/chronoweave/Body$Truth")⟩ := by decide +kernel
set_option maxRecDepth 65536 in
set_option maxHeartbeats 40000000 in
theorem rm0 (l : Launch) (Z : State) (a0 : Array Value) (hw : ∀ d ∈ tables_1, d.before a0 Z = true) (ws : List Jvm.Cond) (i0 : Int32) (wF wT wU : Addr) (h0 : Heap) (n0 : Nat) (Z0 : n0 ≤ h0.size) (S_wF : Sta Z h0 "com/example/chronoweave/chronoweave/Body$Truth" "FALSE" "Lcom/example/chronoweave/chronoweave/Body$Truth;" (.ref wF)) (S_wT : Sta Z h0 "com/example/chronoweave/chronoweave/Body$Truth" "TRUE" "Lcom/example/chronoweave/chronoweave/Body$Truth;" (.ref wT)) (S_wU : Sta Z h0 "com/example/chronoweave/chronoweave/Body$Truth" "UNKNOWN" "Lcom/example/chronoweave/chronoweave/Body$Truth;" (.ref wU)) (h_wF_wT : wF ≠ wT) (h_wF_wU : wF ≠ wU) (h_wT_wU : wT ≠ wU) :
    MetFree l x (head1 (Jvm.Cond.code x code maxLocals ret :: ws) room_1) (fun a U => a = #[(.int i0)] ∧ Z.Warmed39 U.vm ∧ U.heap = h0) (fun _ _ _ _ _ => True) (fun _ U o U' => ∃ v L, o = .returned v ∧ Q_rm0 Z i0 wF wT wU h0 n0 v U'.heap L ∧ FrameEnd U o U' L room_1.cells room_1.slots) := by
  refine own_met (y := x) (Q := (Q_rm0 Z i0 wF wT wU h0 n0)) (plainFor_of_name pn_0) fun p e s m below meth c s₁ X0 hx hby hml hret hlk hown hnm hZ e0 => ?_
  refine own_entry (ef_0_I m i0) ?_
  have h_wT_wF := Ne.symm h_wF_wT
  have h_wU_wF := Ne.symm h_wF_wU
  have h_wU_wT := Ne.symm h_wT_wU
  refine own_to s₁ (mkF m 3 #[.val (.int i0), .unset, .unset, .unset, .unset, .unset, .unset] [(.int (i0 &&& (1 : Int32)))]) (fun t k => XS.iloadN X0.here hx rfl (hb hby at_0) rfl (XS.iconst X0.here hx rfl (hb hby at_1) (XS.iand X0.here hx rfl (hb hby at_2) rfl k))) ?_
  by_cases c3 : (i0 &&& (1 : Int32)) = (0 : Int32)
  · skip
    refine own_to s₁ (mkF m 13 #[.val (.int i0), .val (.int (0 : Int32)), .unset, .unset, .unset, .unset, .unset] [(.int (0 : Int32))]) (fun t k => XS.ifYes X0.here hx rfl (pc0 := 3) (pc' := 10) rfl (hb hby at_3) rfl ((if0 _ _).trans (teq c3).1) (by decide) (by decide) (XS.iconst X0.here hx rfl (hb hby at_10) (XS.istoreN X0.here hx rfl (hb hby at_11) rfl (l' := #[.val (.int i0), .val (.int (0 : Int32)), .unset, .unset, .unset, .unset, .unset]) rfl (XS.iloadN X0.here hx rfl (hb hby at_12) rfl k)))) ?_
    obtain ⟨_, _, ⟨T1, L1, k1, n1⟩, -, X1, ⟨Lc1, hQ1, l1, y1, z1⟩, st1⟩ := Jvm.LawKit.callS X0 hx (y := (⟨"com/example/chronoweave/chronoweave/Body$Truth", "of", "(Z)Lcom/example/chronoweave/chronoweave/Body$Truth;"⟩ : MethodName)) hown (mvT hZ (own_w hw 0 rfl)) (mvT hZ (own_w hw 1 rfl)) (mvT hZ (own_w hw 2 rfl)) (mvT hZ (own_w hw 3 rfl)) (by decide) (backOf (W := 0) (rm1 l Z a0 hw [] (0 : Int32) wF wT wF h0 n0 Z0 S_wF S_wT (Or.inl ⟨rfl, rfl⟩)) hZ (own_w hw 3 rfl) (own_w hw 2 rfl) (by decide) (by decide)) (g := (mkF m 13 #[.val (.int i0), .val (.int (0 : Int32)), .unset, .unset, .unset, .unset, .unset] [(.int (0 : Int32))])) rfl (by rw [hml]; rfl) (argsL := [(.int (0 : Int32))]) (rest := []) (lenOf pd_0 rfl) rfl (by show 2 * 0 + _ ≤ _; exact Nat.le_of_eq rfl) (hb hby at_13) (fun _ _ => ⟨rfl, e0, (by decide : 0 + 0 ≤ _), (by decide : 0 + 0 ≤ _)⟩)
    dsimp only [Pt.U, Pt.locs, Pt.cells, Pt.slots] at X1 l1 y1 z1 st1 hQ1
    subst l1 y1 z1
    obtain ⟨rfl, N1q, e1⟩ := hQ1
    have N1 := Fr.app (Fr.nil n0) N1q
    refine own_to T1 (mkF m 26 #[.val (.int i0), .val (.int (0 : Int32)), .val (.ref wF), .unset, .unset, .unset, .unset] [(.int (1 : Int32))]) (fun t k => st1 _ (XS.astoreN X1.here hx rfl (hb hby at_16) rfl rfl (l' := #[.val (.int i0), .val (.int (0 : Int32)), .val (.ref wF), .unset, .unset, .unset, .unset]) rfl (XS.iloadN X1.here hx rfl (hb hby at_17) rfl (XS.ifNo X1.here hx rfl (hb hby at_18) rfl ((if0 _ _).trans (teq (by decide : (0 : Int32) = (0 : Int32))).2) (XS.iconst X1.here hx rfl (hb hby at_21) (XS.goto X1.here hx rfl (pc0 := 22) (pc' := 26) rfl (hb hby at_22) (by decide) (by decide) k)))))) ?_
    obtain ⟨_, _, ⟨T2, L2, k2, n2⟩, -, X2, ⟨Lc2, hQ2, l2, y2, z2⟩, st2⟩ := Jvm.LawKit.callS X1 hx (y := (⟨"com/example/chronoweave/chronoweave/Body$Truth", "of", "(Z)Lcom/example/chronoweave/chronoweave/Body$Truth;"⟩ : MethodName)) hown (mvT hZ (own_w hw 0 rfl)) (mvT hZ (own_w hw 1 rfl)) (mvT hZ (own_w hw 2 rfl)) (mvT hZ (own_w hw 3 rfl)) (by decide) (backOf (W := 0) (rm1 l Z a0 hw [] (1 : Int32) wF wT wT h0 n0 Z0 S_wF S_wT (Or.inr ⟨by decide, rfl⟩)) hZ (own_w hw 3 rfl) (own_w hw 2 rfl) (by decide) (by decide)) (g := (mkF m 26 #[.val (.int i0), .val (.int (0 : Int32)), .val (.ref wF), .unset, .unset, .unset, .unset] [(.int (1 : Int32))])) rfl (by rw [hml]; rfl) (argsL := [(.int (1 : Int32))]) (rest := []) (lenOf pd_0 rfl) rfl (by show 2 * 0 + _ ≤ _; exact Nat.le_of_eq rfl) (hb hby at_26) (fun _ _ => ⟨rfl, e1, (by decide : 0 + 0 ≤ _), (by decide : 0 + 0 ≤ _)⟩)
    dsimp only [Pt.U, Pt.locs, Pt.cells, Pt.slots] at X2 l2 y2 z2 st2 hQ2
    subst l2 y2 z2
    obtain ⟨rfl, N2q, e2⟩ := hQ2
    have N2 := Fr.app N1 N2q
    refine own_to T2 (mkF m 31 #[.val (.int i0), .val (.int (0 : Int32)), .val (.ref wF), .val (.ref wT), .unset, .unset, .unset] [(.ref wF)]) (fun t k => st2 _ (XS.astoreN X2.here hx rfl (hb hby at_29) rfl rfl (l' := #[.val (.int i0), .val (.int (0 : Int32)), .val (.ref wF), .val (.ref wT), .unset, .unset, .unset]) rfl (XS.aloadN X2.here hx rfl (hb hby at_30) rfl rfl k))) ?_
    obtain ⟨T3, X3, e3, st3⟩ := getS2 X2 hx hZ hown (host := "") (Or.inl (own_w hw 8 rfl)) Via.refl e2 S_wU (g := (mkF m 31 #[.val (.int i0), .val (.int (0 : Int32)), .val (.ref wF), .val (.ref wT), .unset, .unset, .unset] [(.ref wF)])) rfl (hb hby at_31)
    refine own_to T3 (mkF m 38 #[.val (.int i0), .val (.int (0 : Int32)), .val (.ref wF), .val (.ref wT), .unset, .unset, .unset] [(.ref wT)]) (fun t k => st3 _ (Jvm.RoadKit.acmp (g := (mkF m 34 #[.val (.int i0), .val (.int (0 : Int32)), .val (.ref wF), .val (.ref wT), .unset, .unset, .unset] [(.ref wU), (.ref wF)])) X3 hx rfl rfl rfl (pc0 := 34) (pc' := 37) (same := false) rfl (hb hby at_34) rfl (decide_eq_false fun q => h_wF_wU (Value.ref.inj q)) (by decide) (by decide) (XS.aloadN X3.here hx rfl (hb hby at_37) rfl rfl k))) ?_
    obtain ⟨T4, X4, e4, st4⟩ := getS2 X3 hx hZ hown (host := "") (Or.inl (own_w hw 8 rfl)) Via.refl e3 S_wU (g := (mkF m 38 #[.val (.int i0), .val (.int (0 : Int32)), .val (.ref wF), .val (.ref wT), .unset, .unset, .unset] [(.ref wT)])) rfl (hb hby at_38)
    refine own_to T4 (mkF m 52 #[.val (.int i0), .val (.int (0 : Int32)), .val (.ref wF), .val (.ref wT), .val (.int (1 : Int32)), .unset, .unset] [(.ref wF)]) (fun t k => st4 _ (Jvm.RoadKit.acmp (g := (mkF m 41 #[.val (.int i0), .val (.int (0 : Int32)), .val (.ref wF), .val (.ref wT), .unset, .unset, .unset] [(.ref wU), (.ref wT)])) X4 hx rfl rfl rfl (pc0 := 41) (pc' := 44) (same := false) rfl (hb hby at_41) rfl (decide_eq_false fun q => h_wT_wU (Value.ref.inj q)) (by decide) (by decide) (XS.iconst X4.here hx rfl (hb hby at_44) (XS.goto X4.here hx rfl (pc0 := 45) (pc' := 49) rfl (hb hby at_45) (by decide) (by decide) (XS.istore X4.here hx rfl (hb hby at_49) rfl (l' := #[.val (.int i0), .val (.int (0 : Int32)), .val (.ref wF), .val (.ref wT), .val (.int (1 : Int32)), .unset, .unset]) rfl (XS.aloadN X4.here hx rfl (hb hby at_51) rfl rfl k)))))) ?_
    obtain ⟨T5, X5, e5, st5⟩ := getS2 X4 hx hZ hown (host := "") (Or.inl (own_w hw 10 rfl)) Via.refl e4 S_wT (g := (mkF m 52 #[.val (.int i0), .val (.int (0 : Int32)), .val (.ref wF), .val (.ref wT), .val (.int (1 : Int32)), .unset, .unset] [(.ref wF)])) rfl (hb hby at_52)
    refine own_to T5 (mkF m 76 #[.val (.int i0), .val (.int (0 : Int32)), .val (.ref wF), .val (.ref wT), .val (.int (1 : Int32)), .val (.int (1 : Int32)), .unset] [(.ref wT), (.ref wF)]) (fun t k => st5 _ (Jvm.RoadKit.acmp (g := (mkF m 55 #[.val (.int i0), .val (.int (0 : Int32)), .val (.ref wF), .val (.ref wT), .val (.int (1 : Int32)), .unset, .unset] [(.ref wT), (.ref wF)])) X5 hx rfl rfl rfl (pc0 := 55) (pc' := 62) (same := false) rfl (hb hby at_55) rfl (decide_eq_false fun q => h_wF_wT (Value.ref.inj q)) (by decide) (by decide) (XS.iconst X5.here hx rfl (hb hby at_62) (XS.iloadN X5.here hx rfl (hb hby at_63) rfl (XS.icmpNo X5.here hx rfl (hb hby at_64) rfl (teq (by decide : (0 : Int32) = (0 : Int32))).2 (XS.iconst X5.here hx rfl (hb hby at_67) (XS.goto X5.here hx rfl (pc0 := 68) (pc' := 72) rfl (hb hby at_68) (by decide) (by decide) (XS.istore X5.here hx rfl (hb hby at_72) rfl (l' := #[.val (.int i0), .val (.int (0 : Int32)), .val (.ref wF), .val (.ref wT), .val (.int (1 : Int32)), .val (.int (1 : Int32)), .unset]) rfl (XS.aloadN X5.here hx rfl (hb hby at_74) rfl rfl (XS.aloadN X5.here hx rfl (hb hby at_75) rfl rfl k)))))))))) ?_
    refine own_to T5 (mkF m 101 #[.val (.int i0), .val (.int (0 : Int32)), .val (.ref wF), .val (.ref wT), .val (.int (1 : Int32)), .val (.int (1 : Int32)), .val (.int (1 : Int32))] []) (fun t k => Jvm.RoadKit.acmp (g := (mkF m 76 #[.val (.int i0), .val (.int (0 : Int32)), .val (.ref wF), .val (.ref wT), .val (.int (1 : Int32)), .val (.int (1 : Int32)), .unset] [(.ref wT), (.ref wF)])) X5 hx rfl rfl rfl (pc0 := 76) (pc' := 79) (same := false) rfl (hb hby at_76) rfl (decide_eq_false fun q => h_wF_wT (Value.ref.inj q)) (by decide) (by decide) (XS.iconst X5.here hx rfl (hb hby at_79) (XS.goto X5.here hx rfl (pc0 := 80) (pc' := 84) rfl (hb hby at_80) (by decide) (by decide) (XS.istore X5.here hx rfl (hb hby at_84) rfl (l' := #[.val (.int i0), .val (.int (0 : Int32)), .val (.ref wF), .val (.ref wT), .val (.int (1 : Int32)), .val (.int (1 : Int32)), .val (.int (1 : Int32))]) rfl (XS.iload X5.here hx rfl (hb hby at_86) rfl (XS.ifNo X5.here hx rfl (hb hby at_88) rfl ((if0 _ _).trans (feq (by decide : ¬ ((1 : Int32) = (0 : Int32)))).1) (XS.iload X5.here hx rfl (hb hby at_91) rfl (XS.ifNo X5.here hx rfl (hb hby at_93) rfl ((if0 _ _).trans (feq (by decide : ¬ ((1 : Int32) = (0 : Int32)))).1) (XS.iload X5.here hx rfl (hb hby at_96) rfl (XS.ifNo X5.here hx rfl (hb hby at_98) rfl ((if0 _ _).trans (feq (by decide : ¬ ((1 : Int32) = (0 : Int32)))).1) k)))))))))) ?_
    refine own_to T5 (mkF m 106 #[.val (.int i0), .val (.int (0 : Int32)), .val (.ref wF), .val (.ref wT), .val (.int (1 : Int32)), .val (.int (1 : Int32)), .val (.int (1 : Int32))] [(.int (1 : Int32))]) (fun t k => XS.iconst X5.here hx rfl (hb hby at_101) (XS.goto X5.here hx rfl (pc0 := 102) (pc' := 106) rfl (hb hby at_102) (by decide) (by decide) k)) ?_
    exact own_retZ X5 hx hret hlk (hb hby at_106) (by decide) (by decide) (Or.inr rfl) ⟨rfl, N2⟩
  · skip
    refine own_to s₁ (mkF m 13 #[.val (.int i0), .val (.int (1 : Int32)), .unset, .unset, .unset, .unset, .unset] [(.int (1 : Int32))]) (fun t k => XS.ifNo X0.here hx rfl (hb hby at_3) rfl ((if0 _ _).trans (feq c3).1) (XS.iconst X0.here hx rfl (hb hby at_6) (XS.goto X0.here hx rfl (pc0 := 7) (pc' := 11) rfl (hb hby at_7) (by decide) (by decide) (XS.istoreN X0.here hx rfl (hb hby at_11) rfl (l' := #[.val (.int i0), .val (.int (1 : Int32)), .unset, .unset, .unset, .unset, .unset]) rfl (XS.iloadN X0.here hx rfl (hb hby at_12) rfl k))))) ?_
    obtain ⟨_, _, ⟨T6, L6, k6, n6⟩, -, X6, ⟨Lc6, hQ6, l6, y6, z6⟩, st6⟩ := Jvm.LawKit.callS X0 hx (y := (⟨"com/example/chronoweave/chronoweave/Body$Truth", "of", "(Z)Lcom/example/chronoweave/chronoweave/Body$Truth;"⟩ : MethodName)) hown (mvT hZ (own_w hw 0 rfl)) (mvT hZ (own_w hw 1 rfl)) (mvT hZ (own_w hw 2 rfl)) (mvT hZ (own_w hw 3 rfl)) (by decide) (backOf (W := 0) (rm1 l Z a0 hw [] (1 : Int32) wF wT wT h0 n0 Z0 S_wF S_wT (Or.inr ⟨by decide, rfl⟩)) hZ (own_w hw 3 rfl) (own_w hw 2 rfl) (by decide) (by decide)) (g := (mkF m 13 #[.val (.int i0), .val (.int (1 : Int32)), .unset, .unset, .unset, .unset, .unset] [(.int (1 : Int32))])) rfl (by rw [hml]; rfl) (argsL := [(.int (1 : Int32))]) (rest := []) (lenOf pd_0 rfl) rfl (by show 2 * 0 + _ ≤ _; exact Nat.le_of_eq rfl) (hb hby at_13) (fun _ _ => ⟨rfl, e0, (by decide : 0 + 0 ≤ _), (by decide : 0 + 0 ≤ _)⟩)
    dsimp only [Pt.U, Pt.locs, Pt.cells, Pt.slots] at X6 l6 y6 z6 st6 hQ6
    subst l6 y6 z6
    obtain ⟨rfl, N6q, e6⟩ := hQ6
    have N6 := Fr.app (Fr.nil n0) N6q
    refine own_to T6 (mkF m 26 #[.val (.int i0), .val (.int (1 : Int32)), .val (.ref wT), .unset, .unset, .unset, .unset] [(.int (0 : Int32))]) (fun t k => st6 _ (XS.astoreN X6.here hx rfl (hb hby at_16) rfl rfl (l' := #[.val (.int i0), .val (.int (1 : Int32)), .val (.ref wT), .unset, .unset, .unset, .unset]) rfl (XS.iloadN X6.here hx rfl (hb hby at_17) rfl (XS.ifYes X6.here hx rfl (pc0 := 18) (pc' := 25) rfl (hb hby at_18) rfl ((if0 _ _).trans (feq (by decide : ¬ ((1 : Int32) = (0 : Int32)))).2) (by decide) (by decide) (XS.iconst X6.here hx rfl (hb hby at_25) k))))) ?_
    obtain ⟨_, _, ⟨T7, L7, k7, n7⟩, -, X7, ⟨Lc7, hQ7, l7, y7, z7⟩, st7⟩ := Jvm.LawKit.callS X6 hx (y := (⟨"com/example/chronoweave/chronoweave/Body$Truth", "of", "(Z)Lcom/example/chronoweave/chronoweave/Body$Truth;"⟩ : MethodName)) hown (mvT hZ (own_w hw 0 rfl)) (mvT hZ (own_w hw 1 rfl)) (mvT hZ (own_w hw 2 rfl)) (mvT hZ (own_w hw 3 rfl)) (by decide) (backOf (W := 0) (rm1 l Z a0 hw [] (0 : Int32) wF wT wF h0 n0 Z0 S_wF S_wT (Or.inl ⟨rfl, rfl⟩)) hZ (own_w hw 3 rfl) (own_w hw 2 rfl) (by decide) (by decide)) (g := (mkF m 26 #[.val (.int i0), .val (.int (1 : Int32)), .val (.ref wT), .unset, .unset, .unset, .unset] [(.int (0 : Int32))])) rfl (by rw [hml]; rfl) (argsL := [(.int (0 : Int32))]) (rest := []) (lenOf pd_0 rfl) rfl (by show 2 * 0 + _ ≤ _; exact Nat.le_of_eq rfl) (hb hby at_26) (fun _ _ => ⟨rfl, e6, (by decide : 0 + 0 ≤ _), (by decide : 0 + 0 ≤ _)⟩)
    dsimp only [Pt.U, Pt.locs, Pt.cells, Pt.slots] at X7 l7 y7 z7 st7 hQ7
    subst l7 y7 z7
    obtain ⟨rfl, N7q, e7⟩ := hQ7
    have N7 := Fr.app N6 N7q
    refine own_to T7 (mkF m 31 #[.val (.int i0), .val (.int (1 : Int32)), .val (.ref wT), .val (.ref wF), .unset, .unset, .unset] [(.ref wT)]) (fun t k => st7 _ (XS.astoreN X7.here hx rfl (hb hby at_29) rfl rfl (l' := #[.val (.int i0), .val (.int (1 : Int32)), .val (.ref wT), .val (.ref wF), .unset, .unset, .unset]) rfl (XS.aloadN X7.here hx rfl (hb hby at_30) rfl rfl k))) ?_
    obtain ⟨T8, X8, e8, st8⟩ := getS2 X7 hx hZ hown (host := "") (Or.inl (own_w hw 8 rfl)) Via.refl e7 S_wU (g := (mkF m 31 #[.val (.int i0), .val (.int (1 : Int32)), .val (.ref wT), .val (.ref wF), .unset, .unset, .unset] [(.ref wT)])) rfl (hb hby at_31)
    refine own_to T8 (mkF m 38 #[.val (.int i0), .val (.int (1 : Int32)), .val (.ref wT), .val (.ref wF), .unset, .unset, .unset] [(.ref wF)]) (fun t k => st8 _ (Jvm.RoadKit.acmp (g := (mkF m 34 #[.val (.int i0), .val (.int (1 : Int32)), .val (.ref wT), .val (.ref wF), .unset, .unset, .unset] [(.ref wU), (.ref wT)])) X8 hx rfl rfl rfl (pc0 := 34) (pc' := 37) (same := false) rfl (hb hby at_34) rfl (decide_eq_false fun q => h_wT_wU (Value.ref.inj q)) (by decide) (by decide) (XS.aloadN X8.here hx rfl (hb hby at_37) rfl rfl k))) ?_
    obtain ⟨T9, X9, e9, st9⟩ := getS2 X8 hx hZ hown (host := "") (Or.inl (own_w hw 8 rfl)) Via.refl e8 S_wU (g := (mkF m 38 #[.val (.int i0), .val (.int (1 : Int32)), .val (.ref wT), .val (.ref wF), .unset, .unset, .unset] [(.ref wF)])) rfl (hb hby at_38)
    refine own_to T9 (mkF m 52 #[.val (.int i0), .val (.int (1 : Int32)), .val (.ref wT), .val (.ref wF), .val (.int (1 : Int32)), .unset, .unset] [(.ref wT)]) (fun t k => st9 _ (Jvm.RoadKit.acmp (g := (mkF m 41 #[.val (.int i0), .val (.int (1 : Int32)), .val (.ref wT), .val (.ref wF), .unset, .unset, .unset] [(.ref wU), (.ref wF)])) X9 hx rfl rfl rfl (pc0 := 41) (pc' := 44) (same := false) rfl (hb hby at_41) rfl (decide_eq_false fun q => h_wF_wU (Value.ref.inj q)) (by decide) (by decide) (XS.iconst X9.here hx rfl (hb hby at_44) (XS.goto X9.here hx rfl (pc0 := 45) (pc' := 49) rfl (hb hby at_45) (by decide) (by decide) (XS.istore X9.here hx rfl (hb hby at_49) rfl (l' := #[.val (.int i0), .val (.int (1 : Int32)), .val (.ref wT), .val (.ref wF), .val (.int (1 : Int32)), .unset, .unset]) rfl (XS.aloadN X9.here hx rfl (hb hby at_51) rfl rfl k)))))) ?_
    obtain ⟨T10, X10, e10, st10⟩ := getS2 X9 hx hZ hown (host := "") (Or.inl (own_w hw 10 rfl)) Via.refl e9 S_wT (g := (mkF m 52 #[.val (.int i0), .val (.int (1 : Int32)), .val (.ref wT), .val (.ref wF), .val (.int (1 : Int32)), .unset, .unset] [(.ref wT)])) rfl (hb hby at_52)
    refine own_to T10 (mkF m 75 #[.val (.int i0), .val (.int (1 : Int32)), .val (.ref wT), .val (.ref wF), .val (.int (1 : Int32)), .val (.int (1 : Int32)), .unset] [(.ref wT)]) (fun t k => st10 _ (Jvm.RoadKit.acmp (g := (mkF m 55 #[.val (.int i0), .val (.int (1 : Int32)), .val (.ref wT), .val (.ref wF), .val (.int (1 : Int32)), .unset, .unset] [(.ref wT), (.ref wT)])) X10 hx rfl rfl rfl (pc0 := 55) (pc' := 58) (same := true) rfl (hb hby at_55) rfl (decide_eq_true rfl) (by decide) (by decide) (XS.iconst X10.here hx rfl (hb hby at_58) (XS.goto X10.here hx rfl (pc0 := 59) (pc' := 63) rfl (hb hby at_59) (by decide) (by decide) (XS.iloadN X10.here hx rfl (hb hby at_63) rfl (XS.icmpNo X10.here hx rfl (hb hby at_64) rfl (teq (by decide : (1 : Int32) = (1 : Int32))).2 (XS.iconst X10.here hx rfl (hb hby at_67) (XS.goto X10.here hx rfl (pc0 := 68) (pc' := 72) rfl (hb hby at_68) (by decide) (by decide) (XS.istore X10.here hx rfl (hb hby at_72) rfl (l' := #[.val (.int i0), .val (.int (1 : Int32)), .val (.ref wT), .val (.ref wF), .val (.int (1 : Int32)), .val (.int (1 : Int32)), .unset]) rfl (XS.aloadN X10.here hx rfl (hb hby at_74) rfl rfl k)))))))))) ?_
    refine own_to T10 (mkF m 98 #[.val (.int i0), .val (.int (1 : Int32)), .val (.ref wT), .val (.ref wF), .val (.int (1 : Int32)), .val (.int (1 : Int32)), .val (.int (1 : Int32))] [(.int (1 : Int32))]) (fun t k => XS.aloadN X10.here hx rfl (hb hby at_75) rfl rfl (Jvm.RoadKit.acmp (g := (mkF m 76 #[.val (.int i0), .val (.int (1 : Int32)), .val (.ref wT), .val (.ref wF), .val (.int (1 : Int32)), .val (.int (1 : Int32)), .unset] [(.ref wF), (.ref wT)])) X10 hx rfl rfl rfl (pc0 := 76) (pc' := 79) (same := false) rfl (hb hby at_76) rfl (decide_eq_false fun q => h_wT_wF (Value.ref.inj q)) (by decide) (by decide) (XS.iconst X10.here hx rfl (hb hby at_79) (XS.goto X10.here hx rfl (pc0 := 80) (pc' := 84) rfl (hb hby at_80) (by decide) (by decide) (XS.istore X10.here hx rfl (hb hby at_84) rfl (l' := #[.val (.int i0), .val (.int (1 : Int32)), .val (.ref wT), .val (.ref wF), .val (.int (1 : Int32)), .val (.int (1 : Int32)), .val (.int (1 : Int32))]) rfl (XS.iload X10.here hx rfl (hb hby at_86) rfl (XS.ifNo X10.here hx rfl (hb hby at_88) rfl ((if0 _ _).trans (feq (by decide : ¬ ((1 : Int32) = (0 : Int32)))).1) (XS.iload X10.here hx rfl (hb hby at_91) rfl (XS.ifNo X10.here hx rfl (hb hby at_93) rfl ((if0 _ _).trans (feq (by decide : ¬ ((1 : Int32) = (0 : Int32)))).1) (XS.iload X10.here hx rfl (hb hby at_96) rfl k)))))))))) ?_
    refine own_to T10 (mkF m 106 #[.val (.int i0), .val (.int (1 : Int32)), .val (.ref wT), .val (.ref wF), .val (.int (1 : Int32)), .val (.int (1 : Int32)), .val (.int (1 : Int32))] [(.int (1 : Int32))]) (fun t k => XS.ifNo X10.here hx rfl (hb hby at_98) rfl ((if0 _ _).trans (feq (by decide : ¬ ((1 : Int32) = (0 : Int32)))).1) (XS.iconst X10.here hx rfl (hb hby at_101) (XS.goto X10.here hx rfl (pc0 := 102) (pc' := 106) rfl (hb hby at_102) (by decide) (by decide) k))) ?_
    exact own_retZ X10 hx hret hlk (hb hby at_106) (by decide) (by decide) (Or.inr rfl) ⟨rfl, N7⟩
set_option maxRecDepth 65536 in
set_option maxHeartbeats 40000000 in
theorem comes_1 {Post : Tables → Env → Array Value → State → Outcome → State → Prop} (hpost : ∀ tb e args s v u, (limb_1_1.after args s (.returned v) u = true ∧ limb_1_2.after args s (.returned v) u = true ∧ True) → FrameEnd s (.returned v) u (Jvm.fieldLocs frame_1_writes args s ++ Jvm.arrayLocs frame_1_arrays args s ++ Jvm.staticLocs frame_1_statics s) 0 0 → Post tb e args s (.returned v) u) :
    ArmFor flags0 classFile x code maxLocals ret World_1 tables_1 room_1 Calls_1 rest_1 Pre_1 Post := by
  intro l hfl _ _ p e ha hc hk s m args below hf hA hF happ hP
  obtain ⟨hcalls, hrest, hpre⟩ := hP
  obtain ⟨-, -, -, hnamed, -, -, -, hat⟩ := (Spec.applies_iff hf).mp happ
  obtain ⟨hg, hn⟩ := and_e (Cond.before_iff.mp (show (Jvm.Cond.and given_1 narrow_1).before args s = true from hpre))
  obtain ⟨q1, q2⟩ := and_e hg
  obtain ⟨w0, rfl⟩ : ∃ w0 : Value, args = #[w0] := by
    have hs : args.size = 1 := by simpa [Cond.value, given_1] using q1
    obtain ⟨L⟩ := args
    match L, hs with
    | [w0], _ => exact ⟨w0, rfl⟩
  have hw := fun d (hd : d ∈ tables_1) => atoms_spec (ws := Jvm.Cond.code x code maxLocals ret :: tables_1) hat d (List.mem_cons_of_mem _ hd)
  have hfit : Fit s := fun {y c} hc i hi => by
    obtain ⟨ha, rfl⟩ := Array.getElem?_eq_some_iff.mp hc
    have q := List.all_eq_true.mp ((Array.all_eq_true_iff_forall_mem.mp hF) _ (Array.getElem_mem ha)) i (List.mem_range.mpr hi)
    simpa [Array.getElem?_eq_getElem hi] using q
  obtain ⟨i0, ei0⟩ := is_v q2
  obtain rfl : w0 = (.int i0) := Option.some.inj ei0
  obtain ⟨nn1, nn2⟩ := and_e hn
  obtain ⟨nn3, nn4⟩ := and_e nn2
  obtain ⟨nn5, nn6⟩ := and_e nn4
  obtain ⟨nn7, nn8⟩ := and_e nn6
  obtain ⟨nn9, nn10⟩ := and_e nn8
  obtain ⟨w_Body_Truth_FALSE, ev_w_Body_Truth_FALSE⟩ := exa_v nn1
  have S_w_Body_Truth_FALSE := Sta.start ev_w_Body_Truth_FALSE (Or.inr ⟨(own_w hw 2 rfl), (own_w hw 5 rfl)⟩)
  have E_w_Body_Truth_FALSE := Exa.start ev_w_Body_Truth_FALSE nn1
  obtain ⟨w_Body_Truth_TRUE, ev_w_Body_Truth_TRUE⟩ := exa_v nn3
  have S_w_Body_Truth_TRUE := Sta.start ev_w_Body_Truth_TRUE (Or.inr ⟨(own_w hw 2 rfl), (own_w hw 7 rfl)⟩)
  have E_w_Body_Truth_TRUE := Exa.start ev_w_Body_Truth_TRUE nn3
  obtain ⟨w_Body_Truth_UNKNOWN, ev_w_Body_Truth_UNKNOWN⟩ := exa_v nn5
  have S_w_Body_Truth_UNKNOWN := Sta.start ev_w_Body_Truth_UNKNOWN (Or.inr ⟨(own_w hw 2 rfl), (own_w hw 9 rfl)⟩)
  have E_w_Body_Truth_UNKNOWN := Exa.start ev_w_Body_Truth_UNKNOWN nn5
  have F_w_Body_Truth_FALSE_ordinal : Fld s s.heap w_Body_Truth_FALSE "java/lang/Enum" "ordinal" "I" (.int (1 : Int32)) := Fld.start ((fld_at ev_w_Body_Truth_FALSE).symm.trans (own_eqI nn7))
  have F_w_Body_Truth_UNKNOWN_ordinal : Fld s s.heap w_Body_Truth_UNKNOWN "java/lang/Enum" "ordinal" "I" (.int (2 : Int32)) := Fld.start ((fld_at ev_w_Body_Truth_UNKNOWN).symm.trans (own_eqI nn9))
  have F_w_Body_Truth_TRUE_ordinal : Fld s s.heap w_Body_Truth_TRUE "java/lang/Enum" "ordinal" "I" (.int (0 : Int32)) := Fld.start ((fld_at ev_w_Body_Truth_TRUE).symm.trans (own_eqI nn10))
  have h_wF_wT : w_Body_Truth_FALSE ≠ w_Body_Truth_TRUE := Fld.ne F_w_Body_Truth_FALSE_ordinal F_w_Body_Truth_TRUE_ordinal (by decide)
  have h_wF_wU : w_Body_Truth_FALSE ≠ w_Body_Truth_UNKNOWN := Fld.ne F_w_Body_Truth_FALSE_ordinal F_w_Body_Truth_UNKNOWN_ordinal (by decide)
  have h_wT_wU : w_Body_Truth_TRUE ≠ w_Body_Truth_UNKNOWN := Fld.ne F_w_Body_Truth_TRUE_ordinal F_w_Body_Truth_UNKNOWN_ordinal (by decide)
  obtain ⟨n, o, h1, h2, h3, _, L, rfl, ⟨rfl, N⟩, hq⟩ := rm0 l s _ hw tables_1 i0 w_Body_Truth_FALSE w_Body_Truth_TRUE w_Body_Truth_UNKNOWN s.heap s.heap.size (Nat.le_refl _) S_w_Body_Truth_FALSE S_w_Body_Truth_TRUE S_w_Body_Truth_UNKNOWN h_wF_wT h_wF_wU h_wT_wU p e ha hc hk s m _ below hf ((Spec.applies_iff_loose hf).mp happ).1 ⟨rfl, State.Warmed39.refl s, rfl⟩ trivial
  refine ⟨n, _, h1, h2, h3, hpost _ _ _ _ _ _ ⟨Cond.after_iff.mpr rfl, Cond.after_iff.mpr (eq_i res_at (Term.int_eval (1)) rfl), trivial⟩ ⟨hq.1, hq.2.1, (hq.2.2.sift fun y hy => Or.inr (N y hy)).mono (by decide) (by decide)⟩⟩
theorem main_1_1 : Claimed_1_1 := comes_1 fun _ _ _ _ _ _ h hF => ⟨h.1, hF⟩
theorem main_1_2 : Claimed_1_2 := comes_1 fun _ _ _ _ _ _ h hF => ⟨h.2.1, hF⟩
end Jvm.Pilot.@@N@@
namespace Jvm.Pilot.@@N@@
open Jvm Jvm.ClassFile Sem Op Lib Jvm.Free Jvm.Stand Jvm.Pilot.@@N@@.Jvm.D
/-! MADE BY PROGRAM (witnessworld.py) out of the Statement's table words and the real class files: 12 classes; the members and pool entries that the words name. The judged class is class 1, her method 1. -/
namespace start1
open Jvm.ClassFile
def u (s : String) : CpInfo := .utf8 (stringToUtf16 s)
/-- a pool by its gaps: so many unusable entries, then the entry; so many at the end -/
def gap : Nat → List CpInfo → List CpInfo
  | 0, r => r
  | n + 1, r => .unusable :: gap n r
def poolList (es : List (Nat × CpInfo)) (last : Nat) : List CpInfo := es.foldr (fun e r => gap e.1 (e.2 :: r)) (gap last [])
def pool (es : List (Nat × CpInfo)) (last : Nat) : Array CpInfo := ⟨poolList es last⟩
def fileOf (pool : Array CpInfo) (this : Nat) (attrs : Array Attribute := #[]) (ms : Array MethodInfo := #[]) (fl : Nat := 33) (sup : Nat := 0) (ifs : Array Nat := #[]) (fds : Array FieldInfo := #[]) : ClassFile where
  minorVersion := 0
  majorVersion := 65
  constantPool := pool
  accessFlags := fl
  thisClass := this
  superClass := sup
  interfaces := ifs
  fields := fds
  methods := ms
  attributes := attrs
def plain (name : String) (sup : Option ClassId) : Class where
  name := name
  kind := .ordinary
  loader := none
  accessFlags := 33
  super := sup
  interfaces := #[]
  cf := none
  fields := #[]
  methods := #[]
  instanceTypes := #[]
  staticTypes := #[]
  resolved := #[]
  callSites := []
  init := .initialized
  statics := none
  mirror := none

def pool0 : Array CpInfo := pool [(5, u "<init>"), (0, u "()V"), (1, .class_ 10), (1, u "java/lang/Object")] 113

def k0m0 : Method := { name := "<init>", desc := "()V", sig := { parameters := [], returnType := none }, accessFlags := 1, code := none }
/-- java/lang/Object -/
def k0 : Class := { plain "java/lang/Object" none with
  accessFlags := 33
  interfaces := #[]
  cf := some (fileOf pool0 8 #[] #[{ accessFlags := 1, nameIndex := 5, descriptorIndex := 6, attributes := #[] }] 33 0 #[] #[])
  fields := #[]
  methods := #[k0m0]
  instanceTypes := #[]
  staticTypes := #[]
  resolved := Array.replicate 124 none
  statics := none }

def pool1 : Array CpInfo := pool [(2, .class_ 4), (1, u "java/lang/Object"), (0, u "<init>"), (0, u "()V"), (0, .methodref 8 9), (0, .class_ 10), (0, .nameAndType 11 12), (0, u "com/example/chronoweave/chronoweave/Body$Truth"), (0, u "of"), (0, u "(Z)Lcom/example/chronoweave/chronoweave/Body$Truth;"), (0, .fieldref 8 14), (0, .nameAndType 15 16), (0, u "UNKNOWN"), (0, u "Lcom/example/chronoweave/chronoweave/Body$Truth;"), (0, .fieldref 8 18), (0, .nameAndType 19 16), (0, u "TRUE"), (0, .class_ 21), (0, u "com/example/chronoweave/chronoweave/TruthOfPinLaw"), (2, u "law"), (0, u "(I)Z")] 7

def k1m0 : Method := { name := "<init>", desc := "()V", sig := { parameters := [], returnType := none }, accessFlags := 1, code := none }
def k1c1 : Code := { maxStack := 2, maxLocals := 7, code := code, exceptionTable := #[], attributes := #[] }
def k1m1 : Method := { name := "law", desc := "(I)Z", sig := { parameters := [.int], returnType := some .boolean }, accessFlags := 9, code := some k1c1 }
/-- com/example/chronoweave/chronoweave/TruthOfPinLaw -/
def k1 : Class := { plain "com/example/chronoweave/chronoweave/TruthOfPinLaw" (some 0) with
  accessFlags := 49
  interfaces := #[]
  cf := some (fileOf pool1 20 #[] #[{ accessFlags := 1, nameIndex := 5, descriptorIndex := 6, attributes := #[] }, { accessFlags := 9, nameIndex := 24, descriptorIndex := 25, attributes := #[] }] 49 2 #[] #[])
  fields := #[]
  methods := #[k1m0, k1m1]
  instanceTypes := #[]
  staticTypes := #[]
  resolved := Array.replicate 33 none
  statics := none }

def pool2 : Array CpInfo := pool [(1, .class_ 2), (0, u "java/lang/constant/Constable"), (0, .class_ 4), (0, u "java/lang/Object")] 6

/-- java/lang/constant/Constable -/
def k2 : Class := { plain "java/lang/constant/Constable" (some 0) with
  accessFlags := 1537
  interfaces := #[]
  cf := some (fileOf pool2 1 #[] #[] 1537 3 #[] #[])
  fields := #[]
  methods := #[]
  instanceTypes := #[]
  staticTypes := #[]
  resolved := Array.replicate 11 none
  statics := none }

def pool3 : Array CpInfo := pool [(1, .class_ 2), (0, u "java/lang/Comparable"), (0, .class_ 4), (0, u "java/lang/Object")] 7

/-- java/lang/Comparable -/
def k3 : Class := { plain "java/lang/Comparable" (some 0) with
  accessFlags := 1537
  interfaces := #[]
  cf := some (fileOf pool3 1 #[] #[] 1537 3 #[] #[])
  fields := #[]
  methods := #[]
  instanceTypes := #[]
  staticTypes := #[]
  resolved := Array.replicate 12 none
  statics := none }

def pool4 : Array CpInfo := pool [(1, .class_ 2), (0, u "java/io/Serializable"), (0, .class_ 4), (0, u "java/lang/Object")] 2

/-- java/io/Serializable -/
def k4 : Class := { plain "java/io/Serializable" (some 0) with
  accessFlags := 1537
  interfaces := #[]
  cf := some (fileOf pool4 1 #[] #[] 1537 3 #[] #[])
  fields := #[]
  methods := #[]
  instanceTypes := #[]
  staticTypes := #[]
  resolved := Array.replicate 7 none
  statics := none }

def pool5 : Array CpInfo := pool [(2, .class_ 4), (1, u "java/lang/Enum"), (0, u "name"), (0, u "Ljava/lang/String;"), (2, u "ordinal"), (0, u "I"), (1, .class_ 14), (1, u "java/lang/Object"), (4, u "hash"), (86, .class_ 108), (1, u "java/lang/Enum$EnumDesc"), (2, .class_ 112), (0, u "java/lang/constant/Constable"), (0, .class_ 114), (0, u "java/lang/Comparable"), (0, .class_ 116), (0, u "java/io/Serializable")] 87

/-- java/lang/Enum -/
def k5 : Class := { plain "java/lang/Enum" (some 0) with
  accessFlags := 1057
  interfaces := #[2, 3, 4]
  cf := some (fileOf pool5 2 #[.nestMembers #[106]] #[] 1057 12 #[111, 113, 115] #[{ accessFlags := 18, nameIndex := 5, descriptorIndex := 6, attributes := #[] }, { accessFlags := 18, nameIndex := 9, descriptorIndex := 10, attributes := #[] }, { accessFlags := 2, nameIndex := 19, descriptorIndex := 10, attributes := #[] }])
  fields := #[{ name := "name", type := (.object "java/lang/String"), accessFlags := 18, slot := 0, constantValue := 0 }, { name := "ordinal", type := .int, accessFlags := 18, slot := 1, constantValue := 0 }, { name := "hash", type := .int, accessFlags := 2, slot := 2, constantValue := 0 }]
  methods := #[]
  instanceTypes := #[(.object "java/lang/String"), .int, .int]
  staticTypes := #[]
  resolved := Array.replicate 204 none
  statics := none }

def pool6 : Array CpInfo := pool [(1, .class_ 2), (0, u "com/example/chronoweave/chronoweave/Body$Truth"), (0, .fieldref 1 4), (0, .nameAndType 5 6), (0, u "TRUE"), (0, u "Lcom/example/chronoweave/chronoweave/Body$Truth;"), (0, .fieldref 1 8), (0, .nameAndType 9 6), (0, u "FALSE"), (2, u "UNKNOWN"), (2, u "$VALUES"), (0, u "[Lcom/example/chronoweave/chronoweave/Body$Truth;"), (6, .class_ 25), (1, u "java/lang/Enum"), (21, u "of"), (0, u "(Z)Lcom/example/chronoweave/chronoweave/Body$Truth;"), (6, .class_ 56), (0, u "com/example/chronoweave/chronoweave/Body")] 2

def k6c0 : Code := { maxStack := 1, maxLocals := 1, code := prog_8_method_4_code, exceptionTable := #[], attributes := #[] }
def k6m0 : Method := { name := "of", desc := "(Z)Lcom/example/chronoweave/chronoweave/Body$Truth;", sig := { parameters := [.boolean], returnType := some (.object "com/example/chronoweave/chronoweave/Body$Truth") }, accessFlags := 8, code := some k6c0 }
/-- com/example/chronoweave/chronoweave/Body$Truth -/
def k6 : Class := { plain "com/example/chronoweave/chronoweave/Body$Truth" (some 5) with
  accessFlags := 16432
  interfaces := #[]
  cf := some (fileOf pool6 1 #[.nestHost 55] #[{ accessFlags := 8, nameIndex := 47, descriptorIndex := 48, attributes := #[] }] 16432 23 #[] #[{ accessFlags := 16409, nameIndex := 5, descriptorIndex := 6, attributes := #[] }, { accessFlags := 16409, nameIndex := 9, descriptorIndex := 6, attributes := #[] }, { accessFlags := 16409, nameIndex := 12, descriptorIndex := 6, attributes := #[] }, { accessFlags := 4122, nameIndex := 15, descriptorIndex := 16, attributes := #[] }])
  fields := #[{ name := "TRUE", type := (.object "com/example/chronoweave/chronoweave/Body$Truth"), accessFlags := 16409, slot := 0, constantValue := 0 }, { name := "FALSE", type := (.object "com/example/chronoweave/chronoweave/Body$Truth"), accessFlags := 16409, slot := 1, constantValue := 0 }, { name := "UNKNOWN", type := (.object "com/example/chronoweave/chronoweave/Body$Truth"), accessFlags := 16409, slot := 2, constantValue := 0 }, { name := "$VALUES", type := (.array (.object "com/example/chronoweave/chronoweave/Body$Truth")), accessFlags := 4122, slot := 3, constantValue := 0 }]
  methods := #[k6m0]
  instanceTypes := #[(.object "java/lang/String"), .int, .int]
  staticTypes := #[(.object "com/example/chronoweave/chronoweave/Body$Truth"), (.object "com/example/chronoweave/chronoweave/Body$Truth"), (.object "com/example/chronoweave/chronoweave/Body$Truth"), (.array (.object "com/example/chronoweave/chronoweave/Body$Truth"))]
  resolved := Array.replicate 59 none
  statics := some 0 }

def pool7 : Array CpInfo := pool [(1, u "java/lang/Cloneable"), (0, .class_ 1), (0, u "java/lang/Object"), (0, .class_ 3)] 3

/-- java/lang/Cloneable -/
def k7 : Class := { plain "java/lang/Cloneable" (some 0) with
  accessFlags := 1537
  interfaces := #[]
  cf := some (fileOf pool7 2 #[] #[] 1537 4 #[] #[])
  fields := #[]
  methods := #[]
  instanceTypes := #[]
  staticTypes := #[]
  resolved := Array.replicate 8 none
  statics := none }

/-- the primitive byte -/
def k8 : Class := { plain "byte" none with kind := .primitive 'B', accessFlags := 0x411 }
/-- [B -/
def k9 : Class := { plain "[B" (some 0) with kind := .array 8 .byte, interfaces := #[7, 4], accessFlags := 1041 }

/-- the primitive int -/
def k10 : Class := { plain "int" none with kind := .primitive 'I', accessFlags := 0x411 }
/-- [I -/
def k11 : Class := { plain "[I" (some 0) with kind := .array 10 .int, interfaces := #[7, 4], accessFlags := 1041 }

def heap : Heap := #[{ cls := 6, slots := #[.ref 1, .ref 2, .ref 3, .null], vm := .statics 6 },
  { cls := 6, slots := #[.null, .int 0, .int 0], vm := .none },
  { cls := 6, slots := #[.null, .int 1, .int 0], vm := .none },
  { cls := 6, slots := #[.null, .int 2, .int 0], vm := .none }]
def classes : Array Class := #[k0, k1, k2, k3, k4, k5, k6, k7, k8, k9, k10, k11]
def interned : List (Array UInt16 × Addr) := []
def slotsUsed : Nat := 13
def theMethod : MethodId := ⟨1, 1⟩
def args0 : Array Value := #[.int 1]
def aboutOver (below : List Frame) : State where
  vm := { classes := classes, interned := interned.toArray }
  heap := heap
  slotsUsed := slotsUsed
  threads := #[{ frames := .invoking theMethod args0 :: below }]
def below0 : List Frame := [.native { method := ⟨0, 0⟩, args := #[] }]
def about1 : State := aboutOver below0
def p0 : Program := .bare "" "" ""
def e0 : Env := launch0.env 0 0 0
theorem w_frames : about1.frames = Frame.invoking theMethod args0 :: below0 := rfl
set_option maxRecDepth 65536 in
theorem w_args : argsFit about1.vm theMethod args0 = true := by decide +kernel
set_option maxRecDepth 65536 in
theorem w_heap : heapFits about1 = true := by decide +kernel
set_option maxRecDepth 65536 in
theorem w_runnable : about1.curStatus? = some .runnable := by decide +kernel
set_option maxRecDepth 65536 in
theorem w_alone : about1.alone = true := by decide +kernel
set_option maxRecDepth 65536 in
theorem w_named : about1.methodNamed? x = some theMethod := by decide +kernel
set_option maxRecDepth 65536 in
theorem w_hears : about1.hears theMethod below0 = true := by decide +kernel
set_option maxRecDepth 65536 in
theorem w_ripe : about1.ripe theMethod args0 below0 = true := by decide +kernel
theorem w_running : about1.status = .running := rfl
set_option maxRecDepth 65536 in
theorem w_room : about1.hasRoom e0.platform room_1 = true :=
  launch0.hasRoom_least _ room_1 (by decide +kernel) (by decide +kernel) (by decide +kernel) (by decide +kernel) (by decide +kernel) (by decide +kernel)
theorem allAtoms_all (ts : List Jvm.Cond) (a : Array Jvm.Value) (st : Jvm.State) : (allAtoms ts).before a st = ts.all (fun c => c.before a st) := by
  induction ts with
  | nil => rfl
  | cons c t ih =>
    show (Jvm.Cond.and c (allAtoms t)).before a st = _
    rw [Jvm.Cond.before_and, ih, List.all_cons]
def words1 : List Jvm.Cond := Jvm.Cond.code x code maxLocals ret :: tables_1
/-- a 'code' word, met by the world's own term for the bytes: nothing is compared byte by byte -/
theorem code_word {y : MethodName} {bytes : ByteArray} {mx : Nat} {rt : Option FieldType} {a : Array Value} {s : State} {m : MethodId} {meth : Method} {c : Code} (h1 : s.methodNamed? y = some m) (h2 : s.vm.method? m = some meth) (h3 : meth.code = some c) (h4 : c.code = bytes)
    (h5 : (c.maxLocals == mx && c.exceptionTable.isEmpty && decide (c.maxStack ≤ mostOperands) && decide (meth.sig.returnType = rt) && !meth.locks && decide (parseMethodDescriptor y.desc = some meth.sig)) = true) : (Jvm.Cond.code y bytes mx rt).before a s = true := by
  simp only [Bool.and_eq_true, beq_iff_eq, Bool.not_eq_true', decide_eq_true_eq] at h5
  obtain ⟨⟨⟨⟨⟨g1, g2⟩, g3⟩, g4⟩, g5⟩, g6⟩ := h5
  simp [Cond.before, Cond.holds, Cond.value, h1, h2, h3, h4, g1, g2, g3, g4, g5, g6]
def isCode : Jvm.Cond → Bool
  | .code _ _ _ _ => true
  | _ => false
theorem all_split {L : List Jvm.Cond} {P : Jvm.Cond → Bool} (h1 : L.all (fun c => isCode c || P c) = true) (h2 : ∀ c ∈ L.filter isCode, P c = true) : L.all P = true := by
  refine List.all_eq_true.mpr fun c hc => ?_
  have h := List.all_eq_true.mp h1 c hc
  rcases Bool.eq_false_or_eq_true (isCode c) with hi | hi
  · exact h2 c (List.mem_filter.mpr ⟨hc, hi⟩)
  · simpa [hi] using h
set_option maxRecDepth 65536 in
theorem w_c0 : (Jvm.Cond.code x code maxLocals ret).before args0 about1 = true := code_word (m := ⟨1, 1⟩) (meth := k1m1) (c := k1c1) (by decide +kernel) rfl rfl rfl (by decide +kernel)
set_option maxRecDepth 65536 in
theorem w_c1 : (Jvm.Cond.code ({ cls := "com/example/chronoweave/chronoweave/Body$Truth", name := "of", desc := "(Z)Lcom/example/chronoweave/chronoweave/Body$Truth;" } : Jvm.MethodName) prog_8_method_4_code (1 : Nat) (Option.some (Jvm.ClassFile.FieldType.object "com/example/chronoweave/chronoweave/Body$Truth"))).before args0 about1 = true := code_word (m := ⟨6, 0⟩) (meth := k6m0) (c := k6c0) (by decide +kernel) rfl rfl rfl (by decide +kernel)
def codes1 : List Jvm.Cond := [Jvm.Cond.code x code maxLocals ret, Jvm.Cond.code ({ cls := "com/example/chronoweave/chronoweave/Body$Truth", name := "of", desc := "(Z)Lcom/example/chronoweave/chronoweave/Body$Truth;" } : Jvm.MethodName) prog_8_method_4_code (1 : Nat) (Option.some (Jvm.ClassFile.FieldType.object "com/example/chronoweave/chronoweave/Body$Truth"))]
set_option maxRecDepth 65536 in
theorem codes_eq : words1.filter isCode = codes1 := rfl
theorem w_codes : ∀ c ∈ words1.filter isCode, c.before args0 about1 = true := by
  rw [codes_eq]
  intro c hc
  simp only [codes1, List.mem_cons, List.not_mem_nil, or_false] at hc
  rcases hc with rfl | rfl
  · exact w_c0
  · exact w_c1
set_option maxRecDepth 65536 in
theorem w_t1 : words1.all (fun c => isCode c || c.before args0 about1) = true := by decide +kernel
theorem w_tables : (allAtoms (Jvm.Cond.code x code maxLocals ret :: tables_1)).before args0 about1 = true := by
  rw [allAtoms_all]
  show words1.all (fun c => c.before args0 about1) = true
  refine all_split ?_ w_codes
  rw [w_t1]
set_option maxRecDepth 65536 in
theorem w_case : (Jvm.Cond.and given_1 narrow_1).before args0 about1 = true := by decide +kernel
theorem w_applies : (headSpec (Jvm.Cond.code x code maxLocals ret :: tables_1) room_1).applies x e0.platform about1 = true :=
  (Spec.applies_iff w_frames).mpr ⟨w_running, w_runnable, w_alone, w_named, w_hears, w_ripe, w_room, w_tables⟩
theorem atStart : AtStart classFile x code maxLocals ret World_1 tables_1 room_1 Calls_1 rest_1 Pre_1 launch0 p0 e0 about1 theMethod args0 below0 :=
  ⟨lists_1, trivial, launch0.admits_env _ _ _, launch0.least_env, fairChoices_fair.cas, fairChoices_fair.clock, w_frames, w_args, w_heap, w_applies, trivial, trivial, w_case⟩
end start1
theorem witness_1 : WitnessClaimed_1 := ⟨start1.p0, start1.e0, start1.about1, start1.theMethod, start1.args0, start1.below0, start1.atStart⟩
end Jvm.Pilot.@@N@@
