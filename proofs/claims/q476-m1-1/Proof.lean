import JvmDerived
import JvmDerived.Pilot.@@N@@Statement
import JvmDerived.Pilot.@@N@@Code
set_option linter.unusedVariables false
set_option linter.unusedSimpArgs false
namespace Jvm.Pilot.@@N@@
open Jvm Jvm.ClassFile Sem Op Lib Jvm.Free Jvm.Stand Jvm.LawKit Jvm.RoadKit Bundle Jvm.Pilot.@@N@@.Jvm.D
/-! own kit: a walk as a chain of "from here the run ends well" -/
section OwnKit
/-- from T with the frame g on top the run goes on and ends as Q says -/
def Own (p : Program) (e : Env) (below : List Frame) (s : State) (kc ks : Nat) (Q : Option Value → Heap → List Loc → Prop) (T : State) (g : JFrame) : Prop :=
  ∃ s₂ o, Steps p.tables e below (T.setTop g) s₂ ∧ s₂.status = .running ∧ Ended s₂ below o ∧ ∃ v L, o = .returned v ∧ Q v s₂.heap L ∧ FrameEnd s o s₂ L kc ks
variable {p : Program} {l : Launch} {e : Env} {R : Room} {s : State} {m : MethodId} {args : Array Value} {below : List Frame} {meth : Method} {c : Code} {T T' : State} {locs : List Loc} {cells slots kc ks : Nat} {Q : Option Value → Heap → List Loc → Prop}
theorem own_go {g g' : JFrame} (h : ∀ t, Steps p.tables e below (T'.setTop g') t → Steps p.tables e below (T.setTop g) t) (k : Own p e below s kc ks Q T' g') : Own p e below s kc ks Q T g := by
  obtain ⟨s₂, o, h1, r⟩ := k
  exact ⟨s₂, o, h _ h1, r⟩
theorem own_to (T' : State) (g' : JFrame) {g : JFrame} (h : ∀ t, Steps p.tables e below (T'.setTop g') t → Steps p.tables e below (T.setTop g) t) (k : Own p e below s kc ks Q T' g') : Own p e below s kc ks Q T g := own_go h k
theorem own_ret (X : Stand p l e R s m args below meth c T locs cells slots) (hx : p.tables.exec = Jvm.exec) {pc : Nat} {Ls : Array Slot} {w : Value} {t : FieldType} {i : Instr} {rest : List Value} (hret : meth.sig.returnType = some t) (hlk : meth.locks = false) (hn : narrow t w = w)
    (hi : (i = .ireturn ∧ (t = .int ∨ t = .boolean ∨ t = .byte ∨ t = .char ∨ t = .short) ∧ ∃ z, w = .int z) ∨ (i = .lreturn ∧ t = .long ∧ ∃ z, w = .long z) ∨ (i = .dreturn ∧ t = .double ∧ ∃ z, w = .double z) ∨ (i = .freturn ∧ t = .float ∧ ∃ z, w = .float z) ∨ (i = .areturn ∧ t.isReference = true ∧ w.isRef = true))
    (hd : decode c.code pc = .ok (i, 1)) (hc : cells ≤ kc) (hs : slots ≤ ks) (q : Q (some w) T.heap locs) : Own p e below s kc ks Q T (mkF m pc Ls (w :: rest)) := by
  obtain ⟨fs, hr, hrun, hended, hW, hsame⟩ := X.leave (v := some w) (fun h => by rw [hret] at h; cases h) hlk
  exact ⟨_, _, retOut X hx hret hn hi hd hr, hrun, hended, _, locs, rfl, q, ⟨_, rfl⟩, hW, hsame.mono hc hs⟩
theorem own_retI (X : Stand p l e R s m args below meth c T locs cells slots) (hx : p.tables.exec = Jvm.exec) {pc : Nat} {Ls : Array Slot} {z : Int32} {rest : List Value} (hret : meth.sig.returnType = some .int) (hlk : meth.locks = false)
    (hd : decode c.code pc = .ok (.ireturn, 1)) (hc : cells ≤ kc) (hs : slots ≤ ks) (q : Q (some (.int z)) T.heap locs) : Own p e below s kc ks Q T (mkF m pc Ls (.int z :: rest)) :=
  own_ret X hx hret hlk rfl (Or.inl ⟨rfl, Or.inl rfl, _, rfl⟩) hd hc hs q
theorem own_retZ (X : Stand p l e R s m args below meth c T locs cells slots) (hx : p.tables.exec = Jvm.exec) {pc : Nat} {Ls : Array Slot} {z : Int32} {rest : List Value} (hret : meth.sig.returnType = some .boolean) (hlk : meth.locks = false)
    (hd : decode c.code pc = .ok (.ireturn, 1)) (hc : cells ≤ kc) (hs : slots ≤ ks) (hz : z = 0 ∨ z = 1) (q : Q (some (.int z)) T.heap locs) : Own p e below s kc ks Q T (mkF m pc Ls (.int z :: rest)) :=
  own_ret X hx hret hlk (by rcases hz with rfl | rfl <;> rfl) (Or.inl ⟨rfl, Or.inr (Or.inl rfl), _, rfl⟩) hd hc hs q
theorem own_retC (X : Stand p l e R s m args below meth c T locs cells slots) (hx : p.tables.exec = Jvm.exec) {pc : Nat} {Ls : Array Slot} {z : Int32} {rest : List Value} (hret : meth.sig.returnType = some .char) (hlk : meth.locks = false)
    (hd : decode c.code pc = .ok (.ireturn, 1)) (hc : cells ≤ kc) (hs : slots ≤ ks) (hz : z.toUInt32.toUInt16.toUInt32.toInt32 = z) (q : Q (some (.int z)) T.heap locs) : Own p e below s kc ks Q T (mkF m pc Ls (.int z :: rest)) :=
  own_ret X hx hret hlk (congrArg Value.int hz) (Or.inl ⟨rfl, Or.inr (Or.inr (Or.inr (Or.inl rfl))), _, rfl⟩) hd hc hs q
theorem own_retJ (X : Stand p l e R s m args below meth c T locs cells slots) (hx : p.tables.exec = Jvm.exec) {pc : Nat} {Ls : Array Slot} {z : Int64} {rest : List Value} (hret : meth.sig.returnType = some .long) (hlk : meth.locks = false)
    (hd : decode c.code pc = .ok (.lreturn, 1)) (hc : cells ≤ kc) (hs : slots ≤ ks) (q : Q (some (.long z)) T.heap locs) : Own p e below s kc ks Q T (mkF m pc Ls (.long z :: rest)) :=
  own_ret X hx hret hlk rfl (Or.inr (Or.inl ⟨rfl, rfl, _, rfl⟩)) hd hc hs q
theorem own_retD (X : Stand p l e R s m args below meth c T locs cells slots) (hx : p.tables.exec = Jvm.exec) {pc : Nat} {Ls : Array Slot} {z : UInt64} {rest : List Value} (hret : meth.sig.returnType = some .double) (hlk : meth.locks = false)
    (hd : decode c.code pc = .ok (.dreturn, 1)) (hc : cells ≤ kc) (hs : slots ≤ ks) (q : Q (some (.double z)) T.heap locs) : Own p e below s kc ks Q T (mkF m pc Ls (.double z :: rest)) :=
  own_ret X hx hret hlk rfl (Or.inr (Or.inr (Or.inl ⟨rfl, rfl, _, rfl⟩))) hd hc hs q
theorem own_retA (X : Stand p l e R s m args below meth c T locs cells slots) (hx : p.tables.exec = Jvm.exec) {pc : Nat} {Ls : Array Slot} {w : Value} {t : FieldType} {rest : List Value} (hret : meth.sig.returnType = some t) (hlk : meth.locks = false)
    (ht : t.isReference = true) (hw : w.isRef = true) (hd : decode c.code pc = .ok (.areturn, 1)) (hc : cells ≤ kc) (hs : slots ≤ ks) (q : Q (some w) T.heap locs) : Own p e below s kc ks Q T (mkF m pc Ls (w :: rest)) :=
  own_ret X hx hret hlk (by cases t <;> cases w <;> first | rfl | (cases ht; done) | (cases hw; done)) (Or.inr (Or.inr (Or.inr (Or.inr ⟨rfl, ht, hw⟩)))) hd hc hs q
theorem own_retV (X : Stand p l e R s m args below meth c T locs cells slots) (hx : p.tables.exec = Jvm.exec) {pc : Nat} {Ls : Array Slot} (hret : meth.sig.returnType = none) (hlk : meth.locks = false)
    (hd : decode c.code pc = .ok (.return_, 1)) (hc : cells ≤ kc) (hs : slots ≤ ks) (q : Q none T.heap locs) : Own p e below s kc ks Q T (mkF m pc Ls []) := by
  obtain ⟨fs, hr, hrun, hended, hW, hsame⟩ := X.leave (v := none) (fun _ => rfl) hlk
  exact ⟨_, _, X.returnOut hx hret hd hr, hrun, hended, _, locs, rfl, q, ⟨_, rfl⟩, hW, hsame.mono hc hs⟩
/-- a body's contract out of its walk -/
theorem own_met {Z : State} {h0 : Heap} {y : MethodName} {bytes : ByteArray} {ml : Nat} {ret : Option FieldType} {ws : List Jvm.Cond} {rm : Room} {as' : Array Value} (hp : plainFor y = true)
    (body : ∀ (p : Program) (e : Env) (s : State) (m : MethodId) (below : List Frame) (meth : Method) (c : Code) (s₁ : State), Stand p l e rm s m as' below meth c s₁ [] 0 0 → p.tables.exec = Jvm.exec → c.code = bytes → c.maxLocals = ml → meth.sig.returnType = ret → meth.locks = false →
      s.vm.findClass y.cls = some m.cls → meth.name = y.name → Z.Warmed39 s.vm → s₁.heap = h0 → Own p e below s rm.cells rm.slots Q s₁ (entryFrame m as' ml)) :
    MetFree l y (head1 (Jvm.Cond.code y bytes ml ret :: ws) rm) (fun a U => a = as' ∧ Z.Warmed39 U.vm ∧ U.heap = h0) (fun _ _ _ _ _ => True) (fun _ U o U' => ∃ v L, o = .returned v ∧ Q v U'.heap L ∧ FrameEnd U o U' L rm.cells rm.slots) := by
  refine MetFree.of_bodySF hp hisR ?_
  intro p e s m args below meth c s₁ Bd hml0 hP hK
  obtain ⟨rfl, hZ, hh⟩ := hP
  exact body p e s m below meth c s₁ (Stand.of_body Bd) Bd.exec Bd.bytes hml0 Bd.returns Bd.notSynchronized (findClass_of_methodNamed Bd.named) (name_of_methodNamed Bd.named Bd.method).1 hZ (by rw [← hh, Bd.state]; rfl)
theorem own_entry {g g' : JFrame} (q : g = g') (k : Own p e below s kc ks Q T g') : Own p e below s kc ks Q T g := q ▸ k
theorem own_mvMN {Z s : State} {a0 args : Array Value} {own host : String} {index : Nat} {y : MethodName} (hZ : Z.Warmed39 s.vm) (w : (Jvm.Cond.methodLinkNest own index y host).before a0 Z = true) : (Jvm.Cond.methodLinkNest own index y host).before args s = true := (Jvm.Cond.methodLinkNest_wide hZ w :)
theorem own_w {Z : State} {a0 : Array Value} (hw : ∀ d ∈ tables_1, d.before a0 Z = true) (i : Nat) {d : Jvm.Cond} (h : tables_1[i]? = some d) : d.before a0 Z = true := hw _ (List.mem_of_getElem? h)
end OwnKit
theorem own_eqR {args : Array Value} {s : State} {t u : Term} {w : Addr} (h : (Jvm.Cond.eq t u).value args s none s [] = some true) (hb : u.eval args s none [] s = some (.ref w)) : t.eval args s none [] s = some (.ref w) := by
  obtain ⟨x, y, ha, hb', k1, k2⟩ := cmp_v (Or.inl h)
  rw [hb] at hb'
  cases hb'
  have hx : x.isRef = true := by cases x <;> simp_all [Kin, Value.isRef]
  have q := gotT (eq_R ha hb hx rfl) h
  rw [ha, q]
theorem own_eqI {args : Array Value} {s : State} {t : Term} {n : Int32} (h : (Jvm.Cond.eq t (.int n)).value args s none s [] = some true) : t.eval args s none [] s = some (.int n) := by
  obtain ⟨x, y, ha, hb', k1, k2⟩ := cmp_v (Or.inl h)
  have hb : (Term.int n).eval args s none [] s = some (.int n) := Term.int_eval n
  rw [hb] at hb'
  cases hb'
  obtain ⟨z, rfl⟩ := k2
  have q : (Jvm.Cond.eq t (.int n)).value args s none s [] = some (decide (z = n)) := by simp [Jvm.Cond.value, ha, hb]
  have q' : z = n := gotT q h
  rw [ha, q']

theorem d1_0 : decode prog_56_method_4_code 0 = .ok (.aload_n 0, 1) := by decide +kernel
theorem d1_1 : decode prog_56_method_4_code 1 = .ok (.getstatic 3, 3) := by decide +kernel
theorem d1_4 : decode prog_56_method_4_code 4 = .ok (.if_acmp .ne 9, 3) := by decide +kernel
theorem d1_7 : decode prog_56_method_4_code 7 = .ok (.getstatic 7, 3) := by decide +kernel
theorem d1_10 : decode prog_56_method_4_code 10 = .ok (.goto 6, 3) := by decide +kernel
theorem d1_13 : decode prog_56_method_4_code 13 = .ok (.getstatic 3, 3) := by decide +kernel
theorem d1_16 : decode prog_56_method_4_code 16 = .ok (.areturn, 1) := by decide +kernel
theorem pn_1 : plainName "kehai/Side" = true := by first | (simp [plainName, overriddenIn]; done) | decide +kernel
theorem ef_1_R (m : MethodId) (x0 : Addr) : entryFrame m #[(.ref x0)] 1 = mkF m 0 #[.val (.ref x0)] [] := by first | (simp [entryFrame, mkF, argsToLocals, Value.category]; done) | rfl
def Q_rm1 (Z : State) (a1 wB wS r : Addr) (h0 : Heap) (n0 : Nat) (v : Option Value) (h : Heap) (L : List Loc) : Prop := v = some (.ref r) ∧ Fr n0 L ∧ h = h0
set_option maxRecDepth 65536 in
set_option maxHeartbeats 40000000 in
theorem rm1 (l : Launch) (Z : State) (a0 : Array Value) (hw : ∀ d ∈ tables_1, d.before a0 Z = true) (ws : List Jvm.Cond) (a1 wB wS r : Addr) (h0 : Heap) (n0 : Nat) (Z0 : n0 ≤ h0.size) (S_B : Sta Z h0 "kehai/Side" "BUY" "Lkehai/Side;" (.ref wB)) (S_S : Sta Z h0 "kehai/Side" "SELL" "Lkehai/Side;" (.ref wS)) (hr : (a1 = wB ∧ r = wS) ∨ (¬ a1 = wB ∧ r = wB)) :
    MetFree l (⟨"kehai/Side", "opposite", "()Lkehai/Side;"⟩ : MethodName) (head1 (Jvm.Cond.code (⟨"kehai/Side", "opposite", "()Lkehai/Side;"⟩ : MethodName) prog_56_method_4_code 1 (some (.object "kehai/Side")) :: ws) ({ frames := 0, cells := 0, slots := 0, locals := 0 } : Room)) (fun a U => a = #[(.ref a1)] ∧ Z.Warmed39 U.vm ∧ U.heap = h0) (fun _ _ _ _ _ => True) (fun _ U o U' => ∃ v L, o = .returned v ∧ Q_rm1 Z a1 wB wS r h0 n0 v U'.heap L ∧ FrameEnd U o U' L ({ frames := 0, cells := 0, slots := 0, locals := 0 } : Room).cells ({ frames := 0, cells := 0, slots := 0, locals := 0 } : Room).slots) := by
  refine own_met (y := (⟨"kehai/Side", "opposite", "()Lkehai/Side;"⟩ : MethodName)) (Q := (Q_rm1 Z a1 wB wS r h0 n0)) (plainFor_of_name pn_1) fun p e s m below meth c s₁ X0 hx hby hml hret hlk hown hnm hZ e0 => ?_
  refine own_entry (ef_1_R m a1) ?_
  rcases hr with ⟨rfl, rfl⟩ | ⟨hn, rfl⟩
  · skip
    refine own_to s₁ (mkF m 1 #[.val (.ref a1)] [(.ref a1)]) (fun t k => XS.aloadN X0.here hx rfl (hb hby d1_0) rfl rfl k) ?_
    obtain ⟨T1, X1, e1, st1⟩ := getS2 X0 hx hZ hown (host := "") (Or.inl (own_w hw 8 rfl)) Via.refl e0 S_B (g := (mkF m 1 #[.val (.ref a1)] [(.ref a1)])) rfl (hb hby d1_1)
    refine own_to T1 (mkF m 7 #[.val (.ref a1)] []) (fun t k => st1 _ (Jvm.RoadKit.acmp (g := (mkF m 4 #[.val (.ref a1)] [(.ref a1), (.ref a1)])) X1 hx rfl rfl rfl (pc0 := 4) (pc' := 7) (same := true) rfl (hb hby d1_4) rfl (decide_eq_true rfl) (by decide) (by decide) k)) ?_
    obtain ⟨T2, X2, e2, st2⟩ := getS2 X1 hx hZ hown (host := "") (Or.inl (own_w hw 9 rfl)) Via.refl e1 S_S (g := (mkF m 7 #[.val (.ref a1)] [])) rfl (hb hby d1_7)
    refine own_to T2 (mkF m 16 #[.val (.ref a1)] [(.ref r)]) (fun t k => st2 _ (XS.goto X2.here hx rfl (pc0 := 10) (pc' := 16) rfl (hb hby d1_10) (by decide) (by decide) k)) ?_
    exact own_retA X2 hx hret hlk rfl rfl (hb hby d1_16) (by decide) (by decide) ⟨rfl, (Fr.nil n0), e2⟩
  · skip
    refine own_to s₁ (mkF m 1 #[.val (.ref a1)] [(.ref a1)]) (fun t k => XS.aloadN X0.here hx rfl (hb hby d1_0) rfl rfl k) ?_
    obtain ⟨T3, X3, e3, st3⟩ := getS2 X0 hx hZ hown (host := "") (Or.inl (own_w hw 8 rfl)) Via.refl e0 S_B (g := (mkF m 1 #[.val (.ref a1)] [(.ref a1)])) rfl (hb hby d1_1)
    refine own_to T3 (mkF m 13 #[.val (.ref a1)] []) (fun t k => st3 _ (Jvm.RoadKit.acmp (g := (mkF m 4 #[.val (.ref a1)] [(.ref r), (.ref a1)])) X3 hx rfl rfl rfl (pc0 := 4) (pc' := 13) (same := false) rfl (hb hby d1_4) rfl (decide_eq_false fun q => hn (Value.ref.inj q)) (by decide) (by decide) k)) ?_
    obtain ⟨T4, X4, e4, st4⟩ := getS2 X3 hx hZ hown (host := "") (Or.inl (own_w hw 8 rfl)) Via.refl e3 S_B (g := (mkF m 13 #[.val (.ref a1)] [])) rfl (hb hby d1_13)
    refine own_to T4 (mkF m 16 #[.val (.ref a1)] [(.ref r)]) (fun t k => st4 _ k) ?_
    exact own_retA X4 hx hret hlk rfl rfl (hb hby d1_16) (by decide) (by decide) ⟨rfl, (Fr.nil n0), e4⟩
theorem pn_0 : plainName "kehai/SideOppositePinLaw" = true := by first | (simp [plainName, overriddenIn]; done) | decide +kernel
theorem ef_0_I (m : MethodId) (x0 : Int32) : entryFrame m #[(.int x0)] maxLocals = mkF m 0 #[.val (.int x0), .unset, .unset] [] := by first | (simp [entryFrame, mkF, argsToLocals, Value.category, maxLocals]; done) | rfl
def Q_rm0 (Z : State) (i0 : Int32) (wB wS : Addr) (h0 : Heap) (n0 : Nat) (v : Option Value) (h : Heap) (L : List Loc) : Prop := v = some (.int 1) ∧ Fr n0 L
theorem pd_0 : parseMethodDescriptor "()Lkehai/Side;" = some ⟨[], some (.object "kehai/Side")⟩ := by decide +kernel
set_option maxRecDepth 65536 in
set_option maxHeartbeats 40000000 in
theorem rm0 (l : Launch) (Z : State) (a0 : Array Value) (hw : ∀ d ∈ tables_1, d.before a0 Z = true) (ws : List Jvm.Cond) (i0 : Int32) (wB wS : Addr) (h0 : Heap) (n0 : Nat) (Z0 : n0 ≤ h0.size) (S_B : Sta Z h0 "kehai/Side" "BUY" "Lkehai/Side;" (.ref wB)) (S_S : Sta Z h0 "kehai/Side" "SELL" "Lkehai/Side;" (.ref wS)) (E_B : Exa Z h0 wB "kehai/Side") (E_S : Exa Z h0 wS "kehai/Side") (hne : wB ≠ wS) :
    MetFree l x (head1 (Jvm.Cond.code x code maxLocals ret :: ws) room_1) (fun a U => a = #[(.int i0)] ∧ Z.Warmed39 U.vm ∧ U.heap = h0) (fun _ _ _ _ _ => True) (fun _ U o U' => ∃ v L, o = .returned v ∧ Q_rm0 Z i0 wB wS h0 n0 v U'.heap L ∧ FrameEnd U o U' L room_1.cells room_1.slots) := by
  refine own_met (y := x) (Q := (Q_rm0 Z i0 wB wS h0 n0)) (plainFor_of_name pn_0) fun p e s m below meth c s₁ X0 hx hby hml hret hlk hown hnm hZ e0 => ?_
  refine own_entry (ef_0_I m i0) ?_
  refine own_to s₁ (mkF m 3 #[.val (.int i0), .unset, .unset] [(.int (i0 &&& (1 : Int32)))]) (fun t k => XS.iloadN X0.here hx rfl (hb hby at_0) rfl (XS.iconst X0.here hx rfl (hb hby at_1) (XS.iand X0.here hx rfl (hb hby at_2) rfl k))) ?_
  by_cases c3 : (i0 &&& (1 : Int32)) = (0 : Int32)
  · skip
    refine own_to s₁ (mkF m 12 #[.val (.int i0), .unset, .unset] []) (fun t k => XS.ifYes X0.here hx rfl (pc0 := 3) (pc' := 12) rfl (hb hby at_3) rfl ((if0 _ _).trans (teq c3).1) (by decide) (by decide) k) ?_
    obtain ⟨T1, X1, e1, st1⟩ := getS2 X0 hx hZ hown (host := "") (Or.inl (own_w hw 0 rfl)) Via.refl e0 S_B (g := (mkF m 12 #[.val (.int i0), .unset, .unset] [])) rfl (hb hby at_12)
    refine own_to T1 (mkF m 17 #[.val (.int i0), .val (.ref wB), .unset] [(.ref wB)]) (fun t k => st1 _ (XS.astoreN X1.here hx rfl (hb hby at_15) rfl rfl (l' := #[.val (.int i0), .val (.ref wB), .unset]) rfl (XS.aloadN X1.here hx rfl (hb hby at_16) rfl rfl k))) ?_
    obtain ⟨cq2, kq2, q2a, q2b, q2c⟩ := isOf hZ e1 E_B
    obtain ⟨_, _, ⟨T2, L2, k2, n2⟩, -, X2, ⟨Lc2, hQ2, l2, y2, z2⟩, st2⟩ := X1.virtualBack hx (y := (⟨"kehai/Side", "opposite", "()Lkehai/Side;"⟩ : MethodName)) (z := (⟨"kehai/Side", "opposite", "()Lkehai/Side;"⟩ : MethodName)) hown (mvT hZ (own_w hw 3 rfl)) (mvT hZ (own_w hw 4 rfl)) (notFace_of_selects (args := #[]) (mvT hZ (own_w hw 6 rfl))) (mvT hZ (own_w hw 6 rfl)) (mvT hZ (own_w hw 5 rfl)) (by decide) (backOf (W := 0) (rm1 l Z a0 hw [] wB wB wS wS h0 n0 Z0 S_B S_S (Or.inl ⟨rfl, rfl⟩)) hZ (own_w hw 7 rfl) (own_w hw 1 rfl) (by decide) (by decide)) q2a q2c (g := (mkF m 17 #[.val (.int i0), .val (.ref wB), .unset] [(.ref wB)])) rfl (by rw [hml]; rfl) (Steps.refl _) (argsL := []) (rest := []) (lenOf pd_0 rfl) rfl (by show 2 * 0 + _ ≤ _; exact Nat.le_of_eq rfl) (hb hby at_17) (fun _ _ => ⟨rfl, e1, (by decide : 0 + 0 ≤ _), (by decide : 0 + 0 ≤ _)⟩)
    dsimp only [Pt.U, Pt.locs, Pt.cells, Pt.slots] at X2 l2 y2 z2 st2 hQ2
    subst l2 y2 z2
    obtain ⟨rfl, N2q, e2⟩ := hQ2
    have N2 := Fr.app (Fr.nil n0) N2q
    refine own_to T2 (mkF m 33 #[.val (.int i0), .val (.ref wB), .val (.ref wS)] [(.ref wS)]) (fun t k => st2.trans (XS.astoreN X2.here hx rfl (hb hby at_20) rfl rfl (l' := #[.val (.int i0), .val (.ref wB), .val (.ref wS)]) rfl (XS.aloadN X2.here hx rfl (hb hby at_21) rfl rfl (XS.ifnullNo X2.here hx rfl (hb hby at_22) rfl (XS.aloadN X2.here hx rfl (hb hby at_25) rfl rfl (XS.aloadN X2.here hx rfl (hb hby at_26) rfl rfl (Jvm.RoadKit.acmp (g := (mkF m 27 #[.val (.int i0), .val (.ref wB), .val (.ref wS)] [(.ref wB), (.ref wS)])) X2 hx rfl rfl rfl (pc0 := 27) (pc' := 32) (same := false) rfl (hb hby at_27) rfl (decide_eq_false fun q => hne.symm (Value.ref.inj q)) (by decide) (by decide) (XS.aloadN X2.here hx rfl (hb hby at_32) rfl rfl k)))))))) ?_
    obtain ⟨cq3, kq3, q3a, q3b, q3c⟩ := isOf hZ e2 E_S
    obtain ⟨_, _, ⟨T3, L3, k3, n3⟩, -, X3, ⟨Lc3, hQ3, l3, y3, z3⟩, st3⟩ := X2.virtualBack hx (y := (⟨"kehai/Side", "opposite", "()Lkehai/Side;"⟩ : MethodName)) (z := (⟨"kehai/Side", "opposite", "()Lkehai/Side;"⟩ : MethodName)) hown (mvT hZ (own_w hw 3 rfl)) (mvT hZ (own_w hw 4 rfl)) (notFace_of_selects (args := #[]) (mvT hZ (own_w hw 6 rfl))) (mvT hZ (own_w hw 6 rfl)) (mvT hZ (own_w hw 5 rfl)) (by decide) (backOf (W := 0) (rm1 l Z a0 hw [] wS wB wS wB h0 n0 Z0 S_B S_S (Or.inr ⟨Ne.symm hne, rfl⟩)) hZ (own_w hw 7 rfl) (own_w hw 1 rfl) (by decide) (by decide)) q3a q3c (g := (mkF m 33 #[.val (.int i0), .val (.ref wB), .val (.ref wS)] [(.ref wS)])) rfl (by rw [hml]; rfl) (Steps.refl _) (argsL := []) (rest := []) (lenOf pd_0 rfl) rfl (by show 2 * 0 + _ ≤ _; exact Nat.le_of_eq rfl) (hb hby at_33) (fun _ _ => ⟨rfl, e2, (by decide : 0 + 0 ≤ _), (by decide : 0 + 0 ≤ _)⟩)
    dsimp only [Pt.U, Pt.locs, Pt.cells, Pt.slots] at X3 l3 y3 z3 st3 hQ3
    subst l3 y3 z3
    obtain ⟨rfl, N3q, e3⟩ := hQ3
    have N3 := Fr.app N2 N3q
    refine own_to T3 (mkF m 45 #[.val (.int i0), .val (.ref wB), .val (.ref wS)] [(.int (1 : Int32))]) (fun t k => st3.trans (XS.aloadN X3.here hx rfl (hb hby at_36) rfl rfl (Jvm.RoadKit.acmp (g := (mkF m 37 #[.val (.int i0), .val (.ref wB), .val (.ref wS)] [(.ref wB), (.ref wB)])) X3 hx rfl rfl rfl (pc0 := 37) (pc' := 40) (same := true) rfl (hb hby at_37) rfl (decide_eq_true rfl) (by decide) (by decide) (XS.iconst X3.here hx rfl (hb hby at_40) (XS.goto X3.here hx rfl (pc0 := 41) (pc' := 45) rfl (hb hby at_41) (by decide) (by decide) k))))) ?_
    exact own_retZ X3 hx hret hlk (hb hby at_45) (by decide) (by decide) (Or.inr rfl) ⟨rfl, N3⟩
  · skip
    refine own_to s₁ (mkF m 6 #[.val (.int i0), .unset, .unset] []) (fun t k => XS.ifNo X0.here hx rfl (hb hby at_3) rfl ((if0 _ _).trans (feq c3).1) k) ?_
    obtain ⟨T4, X4, e4, st4⟩ := getS2 X0 hx hZ hown (host := "") (Or.inl (own_w hw 11 rfl)) Via.refl e0 S_S (g := (mkF m 6 #[.val (.int i0), .unset, .unset] [])) rfl (hb hby at_6)
    refine own_to T4 (mkF m 17 #[.val (.int i0), .val (.ref wS), .unset] [(.ref wS)]) (fun t k => st4 _ (XS.goto X4.here hx rfl (pc0 := 9) (pc' := 15) rfl (hb hby at_9) (by decide) (by decide) (XS.astoreN X4.here hx rfl (hb hby at_15) rfl rfl (l' := #[.val (.int i0), .val (.ref wS), .unset]) rfl (XS.aloadN X4.here hx rfl (hb hby at_16) rfl rfl k)))) ?_
    obtain ⟨cq5, kq5, q5a, q5b, q5c⟩ := isOf hZ e4 E_S
    obtain ⟨_, _, ⟨T5, L5, k5, n5⟩, -, X5, ⟨Lc5, hQ5, l5, y5, z5⟩, st5⟩ := X4.virtualBack hx (y := (⟨"kehai/Side", "opposite", "()Lkehai/Side;"⟩ : MethodName)) (z := (⟨"kehai/Side", "opposite", "()Lkehai/Side;"⟩ : MethodName)) hown (mvT hZ (own_w hw 3 rfl)) (mvT hZ (own_w hw 4 rfl)) (notFace_of_selects (args := #[]) (mvT hZ (own_w hw 6 rfl))) (mvT hZ (own_w hw 6 rfl)) (mvT hZ (own_w hw 5 rfl)) (by decide) (backOf (W := 0) (rm1 l Z a0 hw [] wS wB wS wB h0 n0 Z0 S_B S_S (Or.inr ⟨Ne.symm hne, rfl⟩)) hZ (own_w hw 7 rfl) (own_w hw 1 rfl) (by decide) (by decide)) q5a q5c (g := (mkF m 17 #[.val (.int i0), .val (.ref wS), .unset] [(.ref wS)])) rfl (by rw [hml]; rfl) (Steps.refl _) (argsL := []) (rest := []) (lenOf pd_0 rfl) rfl (by show 2 * 0 + _ ≤ _; exact Nat.le_of_eq rfl) (hb hby at_17) (fun _ _ => ⟨rfl, e4, (by decide : 0 + 0 ≤ _), (by decide : 0 + 0 ≤ _)⟩)
    dsimp only [Pt.U, Pt.locs, Pt.cells, Pt.slots] at X5 l5 y5 z5 st5 hQ5
    subst l5 y5 z5
    obtain ⟨rfl, N5q, e5⟩ := hQ5
    have N5 := Fr.app (Fr.nil n0) N5q
    refine own_to T5 (mkF m 33 #[.val (.int i0), .val (.ref wS), .val (.ref wB)] [(.ref wB)]) (fun t k => st5.trans (XS.astoreN X5.here hx rfl (hb hby at_20) rfl rfl (l' := #[.val (.int i0), .val (.ref wS), .val (.ref wB)]) rfl (XS.aloadN X5.here hx rfl (hb hby at_21) rfl rfl (XS.ifnullNo X5.here hx rfl (hb hby at_22) rfl (XS.aloadN X5.here hx rfl (hb hby at_25) rfl rfl (XS.aloadN X5.here hx rfl (hb hby at_26) rfl rfl (Jvm.RoadKit.acmp (g := (mkF m 27 #[.val (.int i0), .val (.ref wS), .val (.ref wB)] [(.ref wS), (.ref wB)])) X5 hx rfl rfl rfl (pc0 := 27) (pc' := 32) (same := false) rfl (hb hby at_27) rfl (decide_eq_false fun q => hne (Value.ref.inj q)) (by decide) (by decide) (XS.aloadN X5.here hx rfl (hb hby at_32) rfl rfl k)))))))) ?_
    obtain ⟨cq6, kq6, q6a, q6b, q6c⟩ := isOf hZ e5 E_B
    obtain ⟨_, _, ⟨T6, L6, k6, n6⟩, -, X6, ⟨Lc6, hQ6, l6, y6, z6⟩, st6⟩ := X5.virtualBack hx (y := (⟨"kehai/Side", "opposite", "()Lkehai/Side;"⟩ : MethodName)) (z := (⟨"kehai/Side", "opposite", "()Lkehai/Side;"⟩ : MethodName)) hown (mvT hZ (own_w hw 3 rfl)) (mvT hZ (own_w hw 4 rfl)) (notFace_of_selects (args := #[]) (mvT hZ (own_w hw 6 rfl))) (mvT hZ (own_w hw 6 rfl)) (mvT hZ (own_w hw 5 rfl)) (by decide) (backOf (W := 0) (rm1 l Z a0 hw [] wB wB wS wS h0 n0 Z0 S_B S_S (Or.inl ⟨rfl, rfl⟩)) hZ (own_w hw 7 rfl) (own_w hw 1 rfl) (by decide) (by decide)) q6a q6c (g := (mkF m 33 #[.val (.int i0), .val (.ref wS), .val (.ref wB)] [(.ref wB)])) rfl (by rw [hml]; rfl) (Steps.refl _) (argsL := []) (rest := []) (lenOf pd_0 rfl) rfl (by show 2 * 0 + _ ≤ _; exact Nat.le_of_eq rfl) (hb hby at_33) (fun _ _ => ⟨rfl, e5, (by decide : 0 + 0 ≤ _), (by decide : 0 + 0 ≤ _)⟩)
    dsimp only [Pt.U, Pt.locs, Pt.cells, Pt.slots] at X6 l6 y6 z6 st6 hQ6
    subst l6 y6 z6
    obtain ⟨rfl, N6q, e6⟩ := hQ6
    have N6 := Fr.app N5 N6q
    refine own_to T6 (mkF m 45 #[.val (.int i0), .val (.ref wS), .val (.ref wB)] [(.int (1 : Int32))]) (fun t k => st6.trans (XS.aloadN X6.here hx rfl (hb hby at_36) rfl rfl (Jvm.RoadKit.acmp (g := (mkF m 37 #[.val (.int i0), .val (.ref wS), .val (.ref wB)] [(.ref wS), (.ref wS)])) X6 hx rfl rfl rfl (pc0 := 37) (pc' := 40) (same := true) rfl (hb hby at_37) rfl (decide_eq_true rfl) (by decide) (by decide) (XS.iconst X6.here hx rfl (hb hby at_40) (XS.goto X6.here hx rfl (pc0 := 41) (pc' := 45) rfl (hb hby at_41) (by decide) (by decide) k))))) ?_
    exact own_retZ X6 hx hret hlk (hb hby at_45) (by decide) (by decide) (Or.inr rfl) ⟨rfl, N6⟩
set_option maxRecDepth 65536 in
set_option maxHeartbeats 40000000 in
theorem comes_1 {Post : Tables → Env → Array Value → State → Outcome → State → Prop} (hpost : ∀ tb e args s v u, (limb_1_1.after args s (.returned v) u = true ∧ limb_1_2.after args s (.returned v) u = true ∧ True) → FrameEnd s (.returned v) u (Jvm.fieldLocs frame_1_writes args s ++ Jvm.arrayLocs frame_1_arrays args s ++ Jvm.staticLocs frame_1_statics s) 0 0 → Post tb e args s (.returned v) u) :
    ArmFor flags0 classFile x code maxLocals ret World_1 tables_1 room_1 Calls_1 rest_1 Pre_1 Post := by
  intro l hfl _ _ p e ha hc hk s m args below hf hA hF happ hP
  obtain ⟨hcalls, hrest, hpre⟩ := hP
  obtain ⟨-, -, -, hnamed, -, -, -, hat⟩ := (Spec.applies_iff hf).mp happ
  obtain ⟨hg, hn⟩ := and_e (Cond.before_iff.mp (show (Jvm.Cond.and given_1 narrow_1).before args s = true from hpre))
  obtain ⟨q1, q2⟩ := and_e hg
  obtain ⟨w0, rfl⟩ : ∃ w0 : Value, args = #[w0] := by
    have hs : args.size = 1 := by simpa [Cond.value, given_1] using q1
    obtain ⟨L⟩ := args
    match L, hs with
    | [w0], _ => exact ⟨w0, rfl⟩
  have hw := fun d (hd : d ∈ tables_1) => atoms_spec (ws := Jvm.Cond.code x code maxLocals ret :: tables_1) hat d (List.mem_cons_of_mem _ hd)
  have hfit : Fit s := fun {y c} hc i hi => by
    obtain ⟨ha, rfl⟩ := Array.getElem?_eq_some_iff.mp hc
    have q := List.all_eq_true.mp ((Array.all_eq_true_iff_forall_mem.mp hF) _ (Array.getElem_mem ha)) i (List.mem_range.mpr hi)
    simpa [Array.getElem?_eq_getElem hi] using q
  obtain ⟨i0, ei0⟩ := is_v q2
  obtain rfl : w0 = (.int i0) := Option.some.inj ei0
  obtain ⟨nn1, nn2⟩ := and_e hn
  obtain ⟨nn3, nn4⟩ := and_e nn2
  obtain ⟨nn5, nn6⟩ := and_e nn4
  obtain ⟨w_Side_BUY, ev_w_Side_BUY⟩ := exa_v nn1
  have S_w_Side_BUY := Sta.start ev_w_Side_BUY (Or.inr ⟨(own_w hw 1 rfl), (own_w hw 2 rfl)⟩)
  have E_w_Side_BUY := Exa.start ev_w_Side_BUY nn1
  obtain ⟨w_Side_SELL, ev_w_Side_SELL⟩ := exa_v nn3
  have S_w_Side_SELL := Sta.start ev_w_Side_SELL (Or.inr ⟨(own_w hw 1 rfl), (own_w hw 10 rfl)⟩)
  have E_w_Side_SELL := Exa.start ev_w_Side_SELL nn3
  have F_w_Side_SELL_ordinal : Fld s s.heap w_Side_SELL "java/lang/Enum" "ordinal" "I" (.int (1 : Int32)) := Fld.start ((fld_at ev_w_Side_SELL).symm.trans (own_eqI nn5))
  have F_w_Side_BUY_ordinal : Fld s s.heap w_Side_BUY "java/lang/Enum" "ordinal" "I" (.int (0 : Int32)) := Fld.start ((fld_at ev_w_Side_BUY).symm.trans (own_eqI nn6))
  have hne : w_Side_BUY ≠ w_Side_SELL := Fld.ne F_w_Side_BUY_ordinal F_w_Side_SELL_ordinal (by decide)
  obtain ⟨n, o, h1, h2, h3, _, L, rfl, ⟨rfl, N⟩, hq⟩ := rm0 l s _ hw tables_1 i0 w_Side_BUY w_Side_SELL s.heap s.heap.size (Nat.le_refl _) S_w_Side_BUY S_w_Side_SELL E_w_Side_BUY E_w_Side_SELL hne p e ha hc hk s m _ below hf ((Spec.applies_iff_loose hf).mp happ).1 ⟨rfl, State.Warmed39.refl s, rfl⟩ trivial
  refine ⟨n, _, h1, h2, h3, hpost _ _ _ _ _ _ ⟨Cond.after_iff.mpr rfl, Cond.after_iff.mpr (eq_i res_at (Term.int_eval (1)) rfl), trivial⟩ ⟨hq.1, hq.2.1, (hq.2.2.sift fun y hy => Or.inr (N y hy)).mono (by decide) (by decide)⟩⟩
theorem main_1_1 : Claimed_1_1 := comes_1 fun _ _ _ _ _ _ h hF => ⟨h.1, hF⟩
theorem main_1_2 : Claimed_1_2 := comes_1 fun _ _ _ _ _ _ h hF => ⟨h.2.1, hF⟩
end Jvm.Pilot.@@N@@
namespace Jvm.Pilot.@@N@@
open Jvm Jvm.ClassFile Sem Op Lib Jvm.Free Jvm.Stand Jvm.Pilot.@@N@@.Jvm.D
/-! MADE BY PROGRAM (witnessworld.py) out of the Statement's table words and the real class files: 12 classes; the members and pool entries that the words name. The judged class is class 1, her method 1. -/
namespace start1
open Jvm.ClassFile
def u (s : String) : CpInfo := .utf8 (stringToUtf16 s)
/-- a pool by its gaps: so many unusable entries, then the entry; so many at the end -/
def gap : Nat → List CpInfo → List CpInfo
  | 0, r => r
  | n + 1, r => .unusable :: gap n r
def poolList (es : List (Nat × CpInfo)) (last : Nat) : List CpInfo := es.foldr (fun e r => gap e.1 (e.2 :: r)) (gap last [])
def pool (es : List (Nat × CpInfo)) (last : Nat) : Array CpInfo := ⟨poolList es last⟩
def fileOf (pool : Array CpInfo) (this : Nat) (attrs : Array Attribute := #[]) (ms : Array MethodInfo := #[]) (fl : Nat := 33) (sup : Nat := 0) (ifs : Array Nat := #[]) (fds : Array FieldInfo := #[]) : ClassFile where
  minorVersion := 0
  majorVersion := 65
  constantPool := pool
  accessFlags := fl
  thisClass := this
  superClass := sup
  interfaces := ifs
  fields := fds
  methods := ms
  attributes := attrs
def plain (name : String) (sup : Option ClassId) : Class where
  name := name
  kind := .ordinary
  loader := none
  accessFlags := 33
  super := sup
  interfaces := #[]
  cf := none
  fields := #[]
  methods := #[]
  instanceTypes := #[]
  staticTypes := #[]
  resolved := #[]
  callSites := []
  init := .initialized
  statics := none
  mirror := none

def pool0 : Array CpInfo := pool [(5, u "<init>"), (0, u "()V"), (1, .class_ 10), (1, u "java/lang/Object")] 113

def k0m0 : Method := { name := "<init>", desc := "()V", sig := { parameters := [], returnType := none }, accessFlags := 1, code := none }
/-- java/lang/Object -/
def k0 : Class := { plain "java/lang/Object" none with
  accessFlags := 33
  interfaces := #[]
  cf := some (fileOf pool0 8 #[] #[{ accessFlags := 1, nameIndex := 5, descriptorIndex := 6, attributes := #[] }] 33 0 #[] #[])
  fields := #[]
  methods := #[k0m0]
  instanceTypes := #[]
  staticTypes := #[]
  resolved := Array.replicate 124 none
  statics := none }

def pool1 : Array CpInfo := pool [(2, .class_ 4), (1, u "java/lang/Object"), (0, u "<init>"), (0, u "()V"), (0, .fieldref 8 9), (0, .class_ 10), (0, .nameAndType 11 12), (0, u "kehai/Side"), (0, u "SELL"), (0, u "Lkehai/Side;"), (0, .fieldref 8 14), (0, .nameAndType 15 12), (0, u "BUY"), (0, .methodref 8 17), (0, .nameAndType 18 19), (0, u "opposite"), (0, u "()Lkehai/Side;"), (0, .class_ 21), (0, u "kehai/SideOppositePinLaw"), (2, u "law"), (0, u "(I)Z")] 3

def k1m0 : Method := { name := "<init>", desc := "()V", sig := { parameters := [], returnType := none }, accessFlags := 1, code := none }
def k1c1 : Code := { maxStack := 2, maxLocals := 3, code := code, exceptionTable := #[], attributes := #[] }
def k1m1 : Method := { name := "law", desc := "(I)Z", sig := { parameters := [.int], returnType := some .boolean }, accessFlags := 9, code := some k1c1 }
/-- kehai/SideOppositePinLaw -/
def k1 : Class := { plain "kehai/SideOppositePinLaw" (some 0) with
  accessFlags := 49
  interfaces := #[]
  cf := some (fileOf pool1 20 #[] #[{ accessFlags := 1, nameIndex := 5, descriptorIndex := 6, attributes := #[] }, { accessFlags := 9, nameIndex := 24, descriptorIndex := 25, attributes := #[] }] 49 2 #[] #[])
  fields := #[]
  methods := #[k1m0, k1m1]
  instanceTypes := #[]
  staticTypes := #[]
  resolved := Array.replicate 29 none
  statics := none }

def pool2 : Array CpInfo := pool [(1, .class_ 2), (0, u "java/lang/constant/Constable"), (0, .class_ 4), (0, u "java/lang/Object")] 6

/-- java/lang/constant/Constable -/
def k2 : Class := { plain "java/lang/constant/Constable" (some 0) with
  accessFlags := 1537
  interfaces := #[]
  cf := some (fileOf pool2 1 #[] #[] 1537 3 #[] #[])
  fields := #[]
  methods := #[]
  instanceTypes := #[]
  staticTypes := #[]
  resolved := Array.replicate 11 none
  statics := none }

def pool3 : Array CpInfo := pool [(1, .class_ 2), (0, u "java/lang/Comparable"), (0, .class_ 4), (0, u "java/lang/Object")] 7

/-- java/lang/Comparable -/
def k3 : Class := { plain "java/lang/Comparable" (some 0) with
  accessFlags := 1537
  interfaces := #[]
  cf := some (fileOf pool3 1 #[] #[] 1537 3 #[] #[])
  fields := #[]
  methods := #[]
  instanceTypes := #[]
  staticTypes := #[]
  resolved := Array.replicate 12 none
  statics := none }

def pool4 : Array CpInfo := pool [(1, .class_ 2), (0, u "java/io/Serializable"), (0, .class_ 4), (0, u "java/lang/Object")] 2

/-- java/io/Serializable -/
def k4 : Class := { plain "java/io/Serializable" (some 0) with
  accessFlags := 1537
  interfaces := #[]
  cf := some (fileOf pool4 1 #[] #[] 1537 3 #[] #[])
  fields := #[]
  methods := #[]
  instanceTypes := #[]
  staticTypes := #[]
  resolved := Array.replicate 7 none
  statics := none }

def pool5 : Array CpInfo := pool [(2, .class_ 4), (1, u "java/lang/Enum"), (0, u "name"), (0, u "Ljava/lang/String;"), (2, u "ordinal"), (0, u "I"), (1, .class_ 14), (1, u "java/lang/Object"), (4, u "hash"), (86, .class_ 108), (1, u "java/lang/Enum$EnumDesc"), (2, .class_ 112), (0, u "java/lang/constant/Constable"), (0, .class_ 114), (0, u "java/lang/Comparable"), (0, .class_ 116), (0, u "java/io/Serializable")] 87

/-- java/lang/Enum -/
def k5 : Class := { plain "java/lang/Enum" (some 0) with
  accessFlags := 1057
  interfaces := #[2, 3, 4]
  cf := some (fileOf pool5 2 #[.nestMembers #[106]] #[] 1057 12 #[111, 113, 115] #[{ accessFlags := 18, nameIndex := 5, descriptorIndex := 6, attributes := #[] }, { accessFlags := 18, nameIndex := 9, descriptorIndex := 10, attributes := #[] }, { accessFlags := 2, nameIndex := 19, descriptorIndex := 10, attributes := #[] }])
  fields := #[{ name := "name", type := (.object "java/lang/String"), accessFlags := 18, slot := 0, constantValue := 0 }, { name := "ordinal", type := .int, accessFlags := 18, slot := 1, constantValue := 0 }, { name := "hash", type := .int, accessFlags := 2, slot := 2, constantValue := 0 }]
  methods := #[]
  instanceTypes := #[(.object "java/lang/String"), .int, .int]
  staticTypes := #[]
  resolved := Array.replicate 204 none
  statics := none }

def pool6 : Array CpInfo := pool [(1, .class_ 2), (0, u "kehai/Side"), (0, .fieldref 1 4), (0, .nameAndType 5 6), (0, u "BUY"), (0, u "Lkehai/Side;"), (0, .fieldref 1 8), (0, .nameAndType 9 6), (0, u "SELL"), (2, u "$VALUES"), (0, u "[Lkehai/Side;"), (6, .class_ 22), (1, u "java/lang/Enum"), (26, u "opposite"), (0, u "()Lkehai/Side;")] 7

def k6c0 : Code := { maxStack := 2, maxLocals := 1, code := prog_56_method_4_code, exceptionTable := #[], attributes := #[] }
def k6m0 : Method := { name := "opposite", desc := "()Lkehai/Side;", sig := { parameters := [], returnType := some (.object "kehai/Side") }, accessFlags := 1, code := some k6c0 }
/-- kehai/Side -/
def k6 : Class := { plain "kehai/Side" (some 5) with
  accessFlags := 16433
  interfaces := #[]
  cf := some (fileOf pool6 1 #[] #[{ accessFlags := 1, nameIndex := 49, descriptorIndex := 50, attributes := #[] }] 16433 20 #[] #[{ accessFlags := 16409, nameIndex := 5, descriptorIndex := 6, attributes := #[] }, { accessFlags := 16409, nameIndex := 9, descriptorIndex := 6, attributes := #[] }, { accessFlags := 4122, nameIndex := 12, descriptorIndex := 13, attributes := #[] }])
  fields := #[{ name := "BUY", type := (.object "kehai/Side"), accessFlags := 16409, slot := 0, constantValue := 0 }, { name := "SELL", type := (.object "kehai/Side"), accessFlags := 16409, slot := 1, constantValue := 0 }, { name := "$VALUES", type := (.array (.object "kehai/Side")), accessFlags := 4122, slot := 2, constantValue := 0 }]
  methods := #[k6m0]
  instanceTypes := #[(.object "java/lang/String"), .int, .int]
  staticTypes := #[(.object "kehai/Side"), (.object "kehai/Side"), (.array (.object "kehai/Side"))]
  resolved := Array.replicate 58 none
  statics := some 0 }

def pool7 : Array CpInfo := pool [(1, u "java/lang/Cloneable"), (0, .class_ 1), (0, u "java/lang/Object"), (0, .class_ 3)] 3

/-- java/lang/Cloneable -/
def k7 : Class := { plain "java/lang/Cloneable" (some 0) with
  accessFlags := 1537
  interfaces := #[]
  cf := some (fileOf pool7 2 #[] #[] 1537 4 #[] #[])
  fields := #[]
  methods := #[]
  instanceTypes := #[]
  staticTypes := #[]
  resolved := Array.replicate 8 none
  statics := none }

/-- the primitive byte -/
def k8 : Class := { plain "byte" none with kind := .primitive 'B', accessFlags := 0x411 }
/-- [B -/
def k9 : Class := { plain "[B" (some 0) with kind := .array 8 .byte, interfaces := #[7, 4], accessFlags := 1041 }

/-- the primitive int -/
def k10 : Class := { plain "int" none with kind := .primitive 'I', accessFlags := 0x411 }
/-- [I -/
def k11 : Class := { plain "[I" (some 0) with kind := .array 10 .int, interfaces := #[7, 4], accessFlags := 1041 }

def heap : Heap := #[{ cls := 6, slots := #[.ref 1, .ref 2, .null], vm := .statics 6 },
  { cls := 6, slots := #[.null, .int 0, .int 0], vm := .none },
  { cls := 6, slots := #[.null, .int 1, .int 0], vm := .none }]
def classes : Array Class := #[k0, k1, k2, k3, k4, k5, k6, k7, k8, k9, k10, k11]
def interned : List (Array UInt16 × Addr) := []
def slotsUsed : Nat := 9
def theMethod : MethodId := ⟨1, 1⟩
def args0 : Array Value := #[.int 1]
def aboutOver (below : List Frame) : State where
  vm := { classes := classes, interned := interned.toArray }
  heap := heap
  slotsUsed := slotsUsed
  threads := #[{ frames := .invoking theMethod args0 :: below }]
def below0 : List Frame := [.native { method := ⟨0, 0⟩, args := #[] }]
def about1 : State := aboutOver below0
def p0 : Program := .bare "" "" ""
def e0 : Env := launch0.env 0 0 0
theorem w_frames : about1.frames = Frame.invoking theMethod args0 :: below0 := rfl
set_option maxRecDepth 65536 in
theorem w_args : argsFit about1.vm theMethod args0 = true := by decide +kernel
set_option maxRecDepth 65536 in
theorem w_heap : heapFits about1 = true := by decide +kernel
set_option maxRecDepth 65536 in
theorem w_runnable : about1.curStatus? = some .runnable := by decide +kernel
set_option maxRecDepth 65536 in
theorem w_alone : about1.alone = true := by decide +kernel
set_option maxRecDepth 65536 in
theorem w_named : about1.methodNamed? x = some theMethod := by decide +kernel
set_option maxRecDepth 65536 in
theorem w_hears : about1.hears theMethod below0 = true := by decide +kernel
set_option maxRecDepth 65536 in
theorem w_ripe : about1.ripe theMethod args0 below0 = true := by decide +kernel
theorem w_running : about1.status = .running := rfl
set_option maxRecDepth 65536 in
theorem w_room : about1.hasRoom e0.platform room_1 = true :=
  launch0.hasRoom_least _ room_1 (by decide +kernel) (by decide +kernel) (by decide +kernel) (by decide +kernel) (by decide +kernel) (by decide +kernel)
theorem allAtoms_all (ts : List Jvm.Cond) (a : Array Jvm.Value) (st : Jvm.State) : (allAtoms ts).before a st = ts.all (fun c => c.before a st) := by
  induction ts with
  | nil => rfl
  | cons c t ih =>
    show (Jvm.Cond.and c (allAtoms t)).before a st = _
    rw [Jvm.Cond.before_and, ih, List.all_cons]
def words1 : List Jvm.Cond := Jvm.Cond.code x code maxLocals ret :: tables_1
/-- a 'code' word, met by the world's own term for the bytes: nothing is compared byte by byte -/
theorem code_word {y : MethodName} {bytes : ByteArray} {mx : Nat} {rt : Option FieldType} {a : Array Value} {s : State} {m : MethodId} {meth : Method} {c : Code} (h1 : s.methodNamed? y = some m) (h2 : s.vm.method? m = some meth) (h3 : meth.code = some c) (h4 : c.code = bytes)
    (h5 : (c.maxLocals == mx && c.exceptionTable.isEmpty && decide (c.maxStack ≤ mostOperands) && decide (meth.sig.returnType = rt) && !meth.locks && decide (parseMethodDescriptor y.desc = some meth.sig)) = true) : (Jvm.Cond.code y bytes mx rt).before a s = true := by
  simp only [Bool.and_eq_true, beq_iff_eq, Bool.not_eq_true', decide_eq_true_eq] at h5
  obtain ⟨⟨⟨⟨⟨g1, g2⟩, g3⟩, g4⟩, g5⟩, g6⟩ := h5
  simp [Cond.before, Cond.holds, Cond.value, h1, h2, h3, h4, g1, g2, g3, g4, g5, g6]
def isCode : Jvm.Cond → Bool
  | .code _ _ _ _ => true
  | _ => false
theorem all_split {L : List Jvm.Cond} {P : Jvm.Cond → Bool} (h1 : L.all (fun c => isCode c || P c) = true) (h2 : ∀ c ∈ L.filter isCode, P c = true) : L.all P = true := by
  refine List.all_eq_true.mpr fun c hc => ?_
  have h := List.all_eq_true.mp h1 c hc
  rcases Bool.eq_false_or_eq_true (isCode c) with hi | hi
  · exact h2 c (List.mem_filter.mpr ⟨hc, hi⟩)
  · simpa [hi] using h
set_option maxRecDepth 65536 in
theorem w_c0 : (Jvm.Cond.code x code maxLocals ret).before args0 about1 = true := code_word (m := ⟨1, 1⟩) (meth := k1m1) (c := k1c1) (by decide +kernel) rfl rfl rfl (by decide +kernel)
set_option maxRecDepth 65536 in
theorem w_c1 : (Jvm.Cond.code ({ cls := "kehai/Side", name := "opposite", desc := "()Lkehai/Side;" } : Jvm.MethodName) prog_56_method_4_code (1 : Nat) (Option.some (Jvm.ClassFile.FieldType.object "kehai/Side"))).before args0 about1 = true := code_word (m := ⟨6, 0⟩) (meth := k6m0) (c := k6c0) (by decide +kernel) rfl rfl rfl (by decide +kernel)
def codes1 : List Jvm.Cond := [Jvm.Cond.code x code maxLocals ret, Jvm.Cond.code ({ cls := "kehai/Side", name := "opposite", desc := "()Lkehai/Side;" } : Jvm.MethodName) prog_56_method_4_code (1 : Nat) (Option.some (Jvm.ClassFile.FieldType.object "kehai/Side"))]
set_option maxRecDepth 65536 in
theorem codes_eq : words1.filter isCode = codes1 := rfl
theorem w_codes : ∀ c ∈ words1.filter isCode, c.before args0 about1 = true := by
  rw [codes_eq]
  intro c hc
  simp only [codes1, List.mem_cons, List.not_mem_nil, or_false] at hc
  rcases hc with rfl | rfl
  · exact w_c0
  · exact w_c1
set_option maxRecDepth 65536 in
theorem w_t1 : words1.all (fun c => isCode c || c.before args0 about1) = true := by decide +kernel
theorem w_tables : (allAtoms (Jvm.Cond.code x code maxLocals ret :: tables_1)).before args0 about1 = true := by
  rw [allAtoms_all]
  show words1.all (fun c => c.before args0 about1) = true
  refine all_split ?_ w_codes
  rw [w_t1]
set_option maxRecDepth 65536 in
theorem w_case : (Jvm.Cond.and given_1 narrow_1).before args0 about1 = true := by decide +kernel
theorem w_applies : (headSpec (Jvm.Cond.code x code maxLocals ret :: tables_1) room_1).applies x e0.platform about1 = true :=
  (Spec.applies_iff w_frames).mpr ⟨w_running, w_runnable, w_alone, w_named, w_hears, w_ripe, w_room, w_tables⟩
theorem atStart : AtStart classFile x code maxLocals ret World_1 tables_1 room_1 Calls_1 rest_1 Pre_1 launch0 p0 e0 about1 theMethod args0 below0 :=
  ⟨lists_1, trivial, launch0.admits_env _ _ _, launch0.least_env, fairChoices_fair.cas, fairChoices_fair.clock, w_frames, w_args, w_heap, w_applies, trivial, trivial, w_case⟩
end start1
theorem witness_1 : WitnessClaimed_1 := ⟨start1.p0, start1.e0, start1.about1, start1.theMethod, start1.args0, start1.below0, start1.atStart⟩
end Jvm.Pilot.@@N@@
