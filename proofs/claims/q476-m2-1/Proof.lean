import JvmDerived
import JvmDerived.Pilot.@@N@@Statement
import JvmDerived.Pilot.@@N@@Code
set_option linter.unusedVariables false
set_option linter.unusedSimpArgs false
namespace Jvm.Pilot.@@N@@
open Jvm Jvm.ClassFile Sem Op Lib Jvm.Free Jvm.Stand Jvm.LawKit Jvm.RoadKit Bundle Jvm.Pilot.@@N@@.Jvm.D
/-! own kit: a walk as a chain of "from here the run ends well" -/
section OwnKit
/-- from T with the frame g on top the run goes on and ends as Q says -/
def Own (p : Program) (e : Env) (below : List Frame) (s : State) (kc ks : Nat) (Q : Option Value → Heap → List Loc → Prop) (T : State) (g : JFrame) : Prop :=
  ∃ s₂ o, Steps p.tables e below (T.setTop g) s₂ ∧ s₂.status = .running ∧ Ended s₂ below o ∧ ∃ v L, o = .returned v ∧ Q v s₂.heap L ∧ FrameEnd s o s₂ L kc ks
variable {p : Program} {l : Launch} {e : Env} {R : Room} {s : State} {m : MethodId} {args : Array Value} {below : List Frame} {meth : Method} {c : Code} {T T' : State} {locs : List Loc} {cells slots kc ks : Nat} {Q : Option Value → Heap → List Loc → Prop}
theorem own_go {g g' : JFrame} (h : ∀ t, Steps p.tables e below (T'.setTop g') t → Steps p.tables e below (T.setTop g) t) (k : Own p e below s kc ks Q T' g') : Own p e below s kc ks Q T g := by
  obtain ⟨s₂, o, h1, r⟩ := k
  exact ⟨s₂, o, h _ h1, r⟩
theorem own_to (T' : State) (g' : JFrame) {g : JFrame} (h : ∀ t, Steps p.tables e below (T'.setTop g') t → Steps p.tables e below (T.setTop g) t) (k : Own p e below s kc ks Q T' g') : Own p e below s kc ks Q T g := own_go h k
theorem own_ret (X : Stand p l e R s m args below meth c T locs cells slots) (hx : p.tables.exec = Jvm.exec) {pc : Nat} {Ls : Array Slot} {w : Value} {t : FieldType} {i : Instr} {rest : List Value} (hret : meth.sig.returnType = some t) (hlk : meth.locks = false) (hn : narrow t w = w)
    (hi : (i = .ireturn ∧ (t = .int ∨ t = .boolean ∨ t = .byte ∨ t = .char ∨ t = .short) ∧ ∃ z, w = .int z) ∨ (i = .lreturn ∧ t = .long ∧ ∃ z, w = .long z) ∨ (i = .dreturn ∧ t = .double ∧ ∃ z, w = .double z) ∨ (i = .freturn ∧ t = .float ∧ ∃ z, w = .float z) ∨ (i = .areturn ∧ t.isReference = true ∧ w.isRef = true))
    (hd : decode c.code pc = .ok (i, 1)) (hc : cells ≤ kc) (hs : slots ≤ ks) (q : Q (some w) T.heap locs) : Own p e below s kc ks Q T (mkF m pc Ls (w :: rest)) := by
  obtain ⟨fs, hr, hrun, hended, hW, hsame⟩ := X.leave (v := some w) (fun h => by rw [hret] at h; cases h) hlk
  exact ⟨_, _, retOut X hx hret hn hi hd hr, hrun, hended, _, locs, rfl, q, ⟨_, rfl⟩, hW, hsame.mono hc hs⟩
theorem own_retI (X : Stand p l e R s m args below meth c T locs cells slots) (hx : p.tables.exec = Jvm.exec) {pc : Nat} {Ls : Array Slot} {z : Int32} {rest : List Value} (hret : meth.sig.returnType = some .int) (hlk : meth.locks = false)
    (hd : decode c.code pc = .ok (.ireturn, 1)) (hc : cells ≤ kc) (hs : slots ≤ ks) (q : Q (some (.int z)) T.heap locs) : Own p e below s kc ks Q T (mkF m pc Ls (.int z :: rest)) :=
  own_ret X hx hret hlk rfl (Or.inl ⟨rfl, Or.inl rfl, _, rfl⟩) hd hc hs q
theorem own_retZ (X : Stand p l e R s m args below meth c T locs cells slots) (hx : p.tables.exec = Jvm.exec) {pc : Nat} {Ls : Array Slot} {z : Int32} {rest : List Value} (hret : meth.sig.returnType = some .boolean) (hlk : meth.locks = false)
    (hd : decode c.code pc = .ok (.ireturn, 1)) (hc : cells ≤ kc) (hs : slots ≤ ks) (hz : z = 0 ∨ z = 1) (q : Q (some (.int z)) T.heap locs) : Own p e below s kc ks Q T (mkF m pc Ls (.int z :: rest)) :=
  own_ret X hx hret hlk (by rcases hz with rfl | rfl <;> rfl) (Or.inl ⟨rfl, Or.inr (Or.inl rfl), _, rfl⟩) hd hc hs q
theorem own_retC (X : Stand p l e R s m args below meth c T locs cells slots) (hx : p.tables.exec = Jvm.exec) {pc : Nat} {Ls : Array Slot} {z : Int32} {rest : List Value} (hret : meth.sig.returnType = some .char) (hlk : meth.locks = false)
    (hd : decode c.code pc = .ok (.ireturn, 1)) (hc : cells ≤ kc) (hs : slots ≤ ks) (hz : z.toUInt32.toUInt16.toUInt32.toInt32 = z) (q : Q (some (.int z)) T.heap locs) : Own p e below s kc ks Q T (mkF m pc Ls (.int z :: rest)) :=
  own_ret X hx hret hlk (congrArg Value.int hz) (Or.inl ⟨rfl, Or.inr (Or.inr (Or.inr (Or.inl rfl))), _, rfl⟩) hd hc hs q
theorem own_retJ (X : Stand p l e R s m args below meth c T locs cells slots) (hx : p.tables.exec = Jvm.exec) {pc : Nat} {Ls : Array Slot} {z : Int64} {rest : List Value} (hret : meth.sig.returnType = some .long) (hlk : meth.locks = false)
    (hd : decode c.code pc = .ok (.lreturn, 1)) (hc : cells ≤ kc) (hs : slots ≤ ks) (q : Q (some (.long z)) T.heap locs) : Own p e below s kc ks Q T (mkF m pc Ls (.long z :: rest)) :=
  own_ret X hx hret hlk rfl (Or.inr (Or.inl ⟨rfl, rfl, _, rfl⟩)) hd hc hs q
theorem own_retD (X : Stand p l e R s m args below meth c T locs cells slots) (hx : p.tables.exec = Jvm.exec) {pc : Nat} {Ls : Array Slot} {z : UInt64} {rest : List Value} (hret : meth.sig.returnType = some .double) (hlk : meth.locks = false)
    (hd : decode c.code pc = .ok (.dreturn, 1)) (hc : cells ≤ kc) (hs : slots ≤ ks) (q : Q (some (.double z)) T.heap locs) : Own p e below s kc ks Q T (mkF m pc Ls (.double z :: rest)) :=
  own_ret X hx hret hlk rfl (Or.inr (Or.inr (Or.inl ⟨rfl, rfl, _, rfl⟩))) hd hc hs q
theorem own_retA (X : Stand p l e R s m args below meth c T locs cells slots) (hx : p.tables.exec = Jvm.exec) {pc : Nat} {Ls : Array Slot} {w : Value} {t : FieldType} {rest : List Value} (hret : meth.sig.returnType = some t) (hlk : meth.locks = false)
    (ht : t.isReference = true) (hw : w.isRef = true) (hd : decode c.code pc = .ok (.areturn, 1)) (hc : cells ≤ kc) (hs : slots ≤ ks) (q : Q (some w) T.heap locs) : Own p e below s kc ks Q T (mkF m pc Ls (w :: rest)) :=
  own_ret X hx hret hlk (by cases t <;> cases w <;> first | rfl | (cases ht; done) | (cases hw; done)) (Or.inr (Or.inr (Or.inr (Or.inr ⟨rfl, ht, hw⟩)))) hd hc hs q
theorem own_retV (X : Stand p l e R s m args below meth c T locs cells slots) (hx : p.tables.exec = Jvm.exec) {pc : Nat} {Ls : Array Slot} (hret : meth.sig.returnType = none) (hlk : meth.locks = false)
    (hd : decode c.code pc = .ok (.return_, 1)) (hc : cells ≤ kc) (hs : slots ≤ ks) (q : Q none T.heap locs) : Own p e below s kc ks Q T (mkF m pc Ls []) := by
  obtain ⟨fs, hr, hrun, hended, hW, hsame⟩ := X.leave (v := none) (fun _ => rfl) hlk
  exact ⟨_, _, X.returnOut hx hret hd hr, hrun, hended, _, locs, rfl, q, ⟨_, rfl⟩, hW, hsame.mono hc hs⟩
/-- a body's contract out of its walk -/
theorem own_met {Z : State} {h0 : Heap} {y : MethodName} {bytes : ByteArray} {ml : Nat} {ret : Option FieldType} {ws : List Jvm.Cond} {rm : Room} {as' : Array Value} (hp : plainFor y = true)
    (body : ∀ (p : Program) (e : Env) (s : State) (m : MethodId) (below : List Frame) (meth : Method) (c : Code) (s₁ : State), Stand p l e rm s m as' below meth c s₁ [] 0 0 → p.tables.exec = Jvm.exec → c.code = bytes → c.maxLocals = ml → meth.sig.returnType = ret → meth.locks = false →
      s.vm.findClass y.cls = some m.cls → meth.name = y.name → Z.Warmed39 s.vm → s₁.heap = h0 → Own p e below s rm.cells rm.slots Q s₁ (entryFrame m as' ml)) :
    MetFree l y (head1 (Jvm.Cond.code y bytes ml ret :: ws) rm) (fun a U => a = as' ∧ Z.Warmed39 U.vm ∧ U.heap = h0) (fun _ _ _ _ _ => True) (fun _ U o U' => ∃ v L, o = .returned v ∧ Q v U'.heap L ∧ FrameEnd U o U' L rm.cells rm.slots) := by
  refine MetFree.of_bodySF hp hisR ?_
  intro p e s m args below meth c s₁ Bd hml0 hP hK
  obtain ⟨rfl, hZ, hh⟩ := hP
  exact body p e s m below meth c s₁ (Stand.of_body Bd) Bd.exec Bd.bytes hml0 Bd.returns Bd.notSynchronized (findClass_of_methodNamed Bd.named) (name_of_methodNamed Bd.named Bd.method).1 hZ (by rw [← hh, Bd.state]; rfl)
theorem own_entry {g g' : JFrame} (q : g = g') (k : Own p e below s kc ks Q T g') : Own p e below s kc ks Q T g := q ▸ k
theorem own_mvMN {Z s : State} {a0 args : Array Value} {own host : String} {index : Nat} {y : MethodName} (hZ : Z.Warmed39 s.vm) (w : (Jvm.Cond.methodLinkNest own index y host).before a0 Z = true) : (Jvm.Cond.methodLinkNest own index y host).before args s = true := (Jvm.Cond.methodLinkNest_wide hZ w :)
theorem own_w {Z : State} {a0 : Array Value} (hw : ∀ d ∈ tables_1, d.before a0 Z = true) (i : Nat) {d : Jvm.Cond} (h : tables_1[i]? = some d) : d.before a0 Z = true := hw _ (List.mem_of_getElem? h)
end OwnKit
theorem own_eqR {args : Array Value} {s : State} {t u : Term} {w : Addr} (h : (Jvm.Cond.eq t u).value args s none s [] = some true) (hb : u.eval args s none [] s = some (.ref w)) : t.eval args s none [] s = some (.ref w) := by
  obtain ⟨x, y, ha, hb', k1, k2⟩ := cmp_v (Or.inl h)
  rw [hb] at hb'
  cases hb'
  have hx : x.isRef = true := by cases x <;> simp_all [Kin, Value.isRef]
  have q := gotT (eq_R ha hb hx rfl) h
  rw [ha, q]
theorem own_eqI {args : Array Value} {s : State} {t : Term} {n : Int32} (h : (Jvm.Cond.eq t (.int n)).value args s none s [] = some true) : t.eval args s none [] s = some (.int n) := by
  obtain ⟨x, y, ha, hb', k1, k2⟩ := cmp_v (Or.inl h)
  have hb : (Term.int n).eval args s none [] s = some (.int n) := Term.int_eval n
  rw [hb] at hb'
  cases hb'
  obtain ⟨z, rfl⟩ := k2
  have q : (Jvm.Cond.eq t (.int n)).value args s none s [] = some (decide (z = n)) := by simp [Jvm.Cond.value, ha, hb]
  have q' : z = n := gotT q h
  rw [ha, q']

theorem d1_0 : decode prog_62_method_6_code 0 = .ok (.iload_n 1, 1) := by decide +kernel
theorem d1_1 : decode prog_62_method_6_code 1 = .ok (.ifCond .eq 10, 3) := by decide +kernel
theorem d1_4 : decode prog_62_method_6_code 4 = .ok (.aload_n 0, 1) := by decide +kernel
theorem d1_5 : decode prog_62_method_6_code 5 = .ok (.getfield 40, 3) := by decide +kernel
theorem d1_8 : decode prog_62_method_6_code 8 = .ok (.goto 7, 3) := by decide +kernel
theorem d1_11 : decode prog_62_method_6_code 11 = .ok (.aload_n 0, 1) := by decide +kernel
theorem d1_12 : decode prog_62_method_6_code 12 = .ok (.getfield 36, 3) := by decide +kernel
theorem d1_15 : decode prog_62_method_6_code 15 = .ok (.areturn, 1) := by decide +kernel
theorem pn_1 : plainName "kehai/VenueProfile" = true := by first | (simp [plainName, overriddenIn]; done) | decide +kernel
theorem ef_1_RI (m : MethodId) (x0 : Addr) (x1 : Int32) : entryFrame m #[(.ref x0), (.int x1)] 2 = mkF m 0 #[.val (.ref x0), .val (.int x1)] [] := by first | (simp [entryFrame, mkF, argsToLocals, Value.category]; done) | rfl
def Q_rm1 (Z : State) (a1 : Addr) (p0 : Int32) (r : Addr) (h0 : Heap) (n0 : Nat) (v : Option Value) (h : Heap) (L : List Loc) : Prop := v = some (.ref r) ∧ Fr n0 L ∧ h = h0
set_option maxRecDepth 65536 in
set_option maxHeartbeats 40000000 in
theorem rm1 (l : Launch) (Z : State) (a0 : Array Value) (hw : ∀ d ∈ tables_1, d.before a0 Z = true) (ws : List Jvm.Cond) (a1 : Addr) (p0 : Int32) (r : Addr) (h0 : Heap) (n0 : Nat) (Z0 : n0 ≤ h0.size) (hr : (p0 = (0 : Int32) ∧ Fld Z h0 a1 "kehai/VenueProfile" "ticks" "Lkehai/TickTable;" (.ref r)) ∨ (¬ p0 = (0 : Int32) ∧ Fld Z h0 a1 "kehai/VenueProfile" "topix100Ticks" "Lkehai/TickTable;" (.ref r))) :
    MetFree l (⟨"kehai/VenueProfile", "ticks", "(Z)Lkehai/TickTable;"⟩ : MethodName) (head1 (Jvm.Cond.code (⟨"kehai/VenueProfile", "ticks", "(Z)Lkehai/TickTable;"⟩ : MethodName) prog_62_method_6_code 2 (some (.object "kehai/TickTable")) :: ws) ({ frames := 0, cells := 0, slots := 0, locals := 0 } : Room)) (fun a U => a = #[(.ref a1), (.int p0)] ∧ Z.Warmed39 U.vm ∧ U.heap = h0) (fun _ _ _ _ _ => True) (fun _ U o U' => ∃ v L, o = .returned v ∧ Q_rm1 Z a1 p0 r h0 n0 v U'.heap L ∧ FrameEnd U o U' L ({ frames := 0, cells := 0, slots := 0, locals := 0 } : Room).cells ({ frames := 0, cells := 0, slots := 0, locals := 0 } : Room).slots) := by
  refine own_met (y := (⟨"kehai/VenueProfile", "ticks", "(Z)Lkehai/TickTable;"⟩ : MethodName)) (Q := (Q_rm1 Z a1 p0 r h0 n0)) (plainFor_of_name pn_1) fun p e s m below meth c s₁ X0 hx hby hml hret hlk hown hnm hZ e0 => ?_
  refine own_entry (ef_1_RI m a1 p0) ?_
  rcases hr with ⟨hb0, Fr0⟩ | ⟨hb0, Fr0⟩
  · skip
    refine own_to s₁ (mkF m 12 #[.val (.ref a1), .val (.int p0)] [(.ref a1)]) (fun t k => XS.iloadN X0.here hx rfl (hb hby d1_0) rfl (XS.ifYes X0.here hx rfl (pc0 := 1) (pc' := 11) rfl (hb hby d1_1) rfl ((if0 _ _).trans (teq hb0).1) (by decide) (by decide) (XS.aloadN X0.here hx rfl (hb hby d1_11) rfl rfl k))) ?_
    obtain ⟨T1, X1, e1, st1⟩ := getF X0 hx hZ hown (host := "") (Or.inl (own_w hw 20 rfl)) Via.refl e0 Fr0 (g := (mkF m 12 #[.val (.ref a1), .val (.int p0)] [(.ref a1)])) rfl rfl (hb hby d1_12)
    refine own_to T1 (mkF m 15 #[.val (.ref a1), .val (.int p0)] [(.ref r)]) (fun t k => st1 _ k) ?_
    exact own_retA X1 hx hret hlk rfl rfl (hb hby d1_15) (by decide) (by decide) ⟨rfl, (Fr.nil n0), e1⟩
  · skip
    refine own_to s₁ (mkF m 5 #[.val (.ref a1), .val (.int p0)] [(.ref a1)]) (fun t k => XS.iloadN X0.here hx rfl (hb hby d1_0) rfl (XS.ifNo X0.here hx rfl (hb hby d1_1) rfl ((if0 _ _).trans (feq hb0).1) (XS.aloadN X0.here hx rfl (hb hby d1_4) rfl rfl k))) ?_
    obtain ⟨T2, X2, e2, st2⟩ := getF X0 hx hZ hown (host := "") (Or.inl (own_w hw 12 rfl)) Via.refl e0 Fr0 (g := (mkF m 5 #[.val (.ref a1), .val (.int p0)] [(.ref a1)])) rfl rfl (hb hby d1_5)
    refine own_to T2 (mkF m 15 #[.val (.ref a1), .val (.int p0)] [(.ref r)]) (fun t k => st2 _ (XS.goto X2.here hx rfl (pc0 := 8) (pc' := 15) rfl (hb hby d1_8) (by decide) (by decide) k)) ?_
    exact own_retA X2 hx hret hlk rfl rfl (hb hby d1_15) (by decide) (by decide) ⟨rfl, (Fr.nil n0), e2⟩
theorem pn_0 : plainName "kehai/VenueProfileTicksPinLaw" = true := by first | (simp [plainName, overriddenIn]; done) | decide +kernel
theorem ef_0_II (m : MethodId) (x0 : Int32) (x1 : Int32) : entryFrame m #[(.int x0), (.int x1)] maxLocals = mkF m 0 #[.val (.int x0), .val (.int x1), .unset, .unset, .unset, .unset] [] := by first | (simp [entryFrame, mkF, argsToLocals, Value.category, maxLocals]; done) | rfl
def Q_rm0 (Z : State) (i0 i1 : Int32) (w_VenueProfile_PTS_FINE w_TickTable_FINE w_VenueProfile_EXCHANGE w_TickTable_EXCHANGE_TOPIX100 w_TickTable_EXCHANGE w_VenueProfile_PTS_STANDARD : Addr) (h0 : Heap) (n0 : Nat) (v : Option Value) (h : Heap) (L : List Loc) : Prop := v = some (.int 1) ∧ Fr n0 L
theorem pd_0 : parseMethodDescriptor "(Z)Lkehai/TickTable;" = some ⟨[.boolean], some (.object "kehai/TickTable")⟩ := by decide +kernel
set_option maxRecDepth 65536 in
set_option maxHeartbeats 40000000 in
theorem rm0 (l : Launch) (Z : State) (a0 : Array Value) (hw : ∀ d ∈ tables_1, d.before a0 Z = true) (ws : List Jvm.Cond) (i0 i1 : Int32) (w_VenueProfile_PTS_FINE w_TickTable_FINE w_VenueProfile_EXCHANGE w_TickTable_EXCHANGE_TOPIX100 w_TickTable_EXCHANGE w_VenueProfile_PTS_STANDARD : Addr) (h0 : Heap) (n0 : Nat) (Z0 : n0 ≤ h0.size) (S_w_VenueProfile_PTS_FINE : Sta Z h0 "kehai/VenueProfile" "PTS_FINE" "Lkehai/VenueProfile;" (.ref w_VenueProfile_PTS_FINE)) (E_w_VenueProfile_PTS_FINE : Exa Z h0 w_VenueProfile_PTS_FINE "kehai/VenueProfile") (S_w_TickTable_FINE : Sta Z h0 "kehai/TickTable" "FINE" "Lkehai/TickTable;" (.ref w_TickTable_FINE)) (S_w_VenueProfile_EXCHANGE : Sta Z h0 "kehai/VenueProfile" "EXCHANGE" "Lkehai/VenueProfile;" (.ref w_VenueProfile_EXCHANGE)) (E_w_VenueProfile_EXCHANGE : Exa Z h0 w_VenueProfile_EXCHANGE "kehai/VenueProfile") (S_w_TickTable_EXCHANGE_TOPIX100 : Sta Z h0 "kehai/TickTable" "EXCHANGE_TOPIX100" "Lkehai/TickTable;" (.ref w_TickTable_EXCHANGE_TOPIX100)) (S_w_TickTable_EXCHANGE : Sta Z h0 "kehai/TickTable" "EXCHANGE" "Lkehai/TickTable;" (.ref w_TickTable_EXCHANGE)) (S_w_VenueProfile_PTS_STANDARD : Sta Z h0 "kehai/VenueProfile" "PTS_STANDARD" "Lkehai/VenueProfile;" (.ref w_VenueProfile_PTS_STANDARD)) (E_w_VenueProfile_PTS_STANDARD : Exa Z h0 w_VenueProfile_PTS_STANDARD "kehai/VenueProfile") (F_w_VenueProfile_PTS_FINE_ticks : Fld Z h0 w_VenueProfile_PTS_FINE "kehai/VenueProfile" "ticks" "Lkehai/TickTable;" (.ref w_TickTable_FINE)) (F_w_VenueProfile_PTS_FINE_topix100Ticks : Fld Z h0 w_VenueProfile_PTS_FINE "kehai/VenueProfile" "topix100Ticks" "Lkehai/TickTable;" (.ref w_TickTable_FINE)) (F_w_VenueProfile_PTS_STANDARD_ticks : Fld Z h0 w_VenueProfile_PTS_STANDARD "kehai/VenueProfile" "ticks" "Lkehai/TickTable;" (.ref w_TickTable_EXCHANGE)) (F_w_VenueProfile_PTS_STANDARD_topix100Ticks : Fld Z h0 w_VenueProfile_PTS_STANDARD "kehai/VenueProfile" "topix100Ticks" "Lkehai/TickTable;" (.ref w_TickTable_EXCHANGE_TOPIX100)) (F_w_VenueProfile_EXCHANGE_ticks : Fld Z h0 w_VenueProfile_EXCHANGE "kehai/VenueProfile" "ticks" "Lkehai/TickTable;" (.ref w_TickTable_EXCHANGE)) (F_w_VenueProfile_EXCHANGE_topix100Ticks : Fld Z h0 w_VenueProfile_EXCHANGE "kehai/VenueProfile" "topix100Ticks" "Lkehai/TickTable;" (.ref w_TickTable_EXCHANGE_TOPIX100)) :
    MetFree l x (head1 (Jvm.Cond.code x code maxLocals ret :: ws) room_1) (fun a U => a = #[(.int i0), (.int i1)] ∧ Z.Warmed39 U.vm ∧ U.heap = h0) (fun _ _ _ _ _ => True) (fun _ U o U' => ∃ v L, o = .returned v ∧ Q_rm0 Z i0 i1 w_VenueProfile_PTS_FINE w_TickTable_FINE w_VenueProfile_EXCHANGE w_TickTable_EXCHANGE_TOPIX100 w_TickTable_EXCHANGE w_VenueProfile_PTS_STANDARD h0 n0 v U'.heap L ∧ FrameEnd U o U' L room_1.cells room_1.slots) := by
  refine own_met (y := x) (Q := (Q_rm0 Z i0 i1 w_VenueProfile_PTS_FINE w_TickTable_FINE w_VenueProfile_EXCHANGE w_TickTable_EXCHANGE_TOPIX100 w_TickTable_EXCHANGE w_VenueProfile_PTS_STANDARD h0 n0)) (plainFor_of_name pn_0) fun p e s m below meth c s₁ X0 hx hby hml hret hlk hown hnm hZ e0 => ?_
  refine own_entry (ef_0_II m i0 i1) ?_
  refine own_to s₁ (mkF m 6 #[.val (.int i0), .val (.int i1), .unset, .unset, .unset, .unset] [(.int ((i0 &&& (2147483647 : Int32)) % (3 : Int32)))]) (fun t k => XS.iloadN X0.here hx rfl (hb hby at_0) rfl (X0.ldcInt hx hown (mvT hZ (own_w hw 0 rfl)) (g := (mkF m 1 #[.val (.int i0), .val (.int i1), .unset, .unset, .unset, .unset] [(.int i0)])) rfl (hb hby at_1) _ (XS.iand X0.here hx rfl (hb hby at_3) rfl (XS.iconst X0.here hx rfl (hb hby at_4) (iremM X0 hx rfl (hb hby at_5) rfl (by decide) k))))) ?_
  obtain ⟨k2, hk2⟩ : ∃ v, v = ((i0 &&& (2147483647 : Int32)) % (3 : Int32)) := ⟨_, rfl⟩
  rw [← hk2]
  refine own_to s₁ (mkF m 10 #[.val (.int i0), .val (.int i1), .val (.int k2), .unset, .unset, .unset] [(.int (i1 &&& (1 : Int32)))]) (fun t k => XS.istoreN X0.here hx rfl (hb hby at_6) rfl (l' := #[.val (.int i0), .val (.int i1), .val (.int k2), .unset, .unset, .unset]) rfl (XS.iloadN X0.here hx rfl (hb hby at_7) rfl (XS.iconst X0.here hx rfl (hb hby at_8) (XS.iand X0.here hx rfl (hb hby at_9) rfl k)))) ?_
  by_cases c10 : (i1 &&& (1 : Int32)) = (0 : Int32)
  · skip
    refine own_to s₁ (mkF m 20 #[.val (.int i0), .val (.int i1), .val (.int k2), .val (.int (0 : Int32)), .unset, .unset] [(.int k2)]) (fun t k => XS.ifYes X0.here hx rfl (pc0 := 10) (pc' := 17) rfl (hb hby at_10) rfl ((if0 _ _).trans (teq c10).1) (by decide) (by decide) (XS.iconst X0.here hx rfl (hb hby at_17) (XS.istoreN X0.here hx rfl (hb hby at_18) rfl (l' := #[.val (.int i0), .val (.int i1), .val (.int k2), .val (.int (0 : Int32)), .unset, .unset]) rfl (XS.iloadN X0.here hx rfl (hb hby at_19) rfl k)))) ?_
    by_cases c20 : k2 = (0 : Int32)
    · skip
      refine own_to s₁ (mkF m 23 #[.val (.int i0), .val (.int i1), .val (.int k2), .val (.int (0 : Int32)), .unset, .unset] []) (fun t k => XS.ifNo X0.here hx rfl (hb hby at_20) rfl ((if0 _ _).trans (teq c20).2) k) ?_
      obtain ⟨T1, X1, e1, st1⟩ := getS2 X0 hx hZ hown (host := "") (Or.inl (own_w hw 1 rfl)) Via.refl e0 S_w_VenueProfile_PTS_FINE (g := (mkF m 23 #[.val (.int i0), .val (.int i1), .val (.int k2), .val (.int (0 : Int32)), .unset, .unset] [])) rfl (hb hby at_23)
      refine own_to T1 (mkF m 28 #[.val (.int i0), .val (.int i1), .val (.int k2), .val (.int (0 : Int32)), .val (.ref w_VenueProfile_PTS_FINE), .unset] []) (fun t k => st1 _ (XS.astore X1.here hx rfl (hb hby at_26) rfl rfl (l' := #[.val (.int i0), .val (.int i1), .val (.int k2), .val (.int (0 : Int32)), .val (.ref w_VenueProfile_PTS_FINE), .unset]) rfl k)) ?_
      obtain ⟨T2, X2, e2, st2⟩ := getS2 X1 hx hZ hown (host := "") (Or.inl (own_w hw 4 rfl)) Via.refl e1 S_w_TickTable_FINE (g := (mkF m 28 #[.val (.int i0), .val (.int i1), .val (.int k2), .val (.int (0 : Int32)), .val (.ref w_VenueProfile_PTS_FINE), .unset] [])) rfl (hb hby at_28)
      refine own_to T2 (mkF m 87 #[.val (.int i0), .val (.int i1), .val (.int k2), .val (.int (0 : Int32)), .val (.ref w_VenueProfile_PTS_FINE), .val (.ref w_TickTable_FINE)] [(.int (0 : Int32)), (.ref w_VenueProfile_PTS_FINE)]) (fun t k => st2 _ (XS.astore X2.here hx rfl (hb hby at_31) rfl rfl (l' := #[.val (.int i0), .val (.int i1), .val (.int k2), .val (.int (0 : Int32)), .val (.ref w_VenueProfile_PTS_FINE), .val (.ref w_TickTable_FINE)]) rfl (XS.goto X2.here hx rfl (pc0 := 33) (pc' := 84) rfl (hb hby at_33) (by decide) (by decide) (XS.aload X2.here hx rfl (hb hby at_84) rfl rfl (XS.iloadN X2.here hx rfl (hb hby at_86) rfl k))))) ?_
      obtain ⟨cq3, kq3, q3a, q3b, q3c⟩ := isOf hZ e2 E_w_VenueProfile_PTS_FINE
      obtain ⟨_, _, ⟨T3, L3, k3, n3⟩, -, X3, ⟨Lc3, hQ3, l3, y3, z3⟩, st3⟩ := X2.virtualBack hx (y := (⟨"kehai/VenueProfile", "ticks", "(Z)Lkehai/TickTable;"⟩ : MethodName)) (z := (⟨"kehai/VenueProfile", "ticks", "(Z)Lkehai/TickTable;"⟩ : MethodName)) hown (mvT hZ (own_w hw 7 rfl)) (mvT hZ (own_w hw 8 rfl)) (notFace_of_selects (args := #[]) (mvT hZ (own_w hw 10 rfl))) (mvT hZ (own_w hw 10 rfl)) (mvT hZ (own_w hw 9 rfl)) (by decide) (backOf (W := 0) (rm1 l Z a0 hw [] w_VenueProfile_PTS_FINE (0 : Int32) w_TickTable_FINE h0 n0 Z0 (Or.inl ⟨rfl, F_w_VenueProfile_PTS_FINE_ticks⟩)) hZ (own_w hw 11 rfl) (own_w hw 2 rfl) (by decide) (by decide)) q3a q3c (g := (mkF m 87 #[.val (.int i0), .val (.int i1), .val (.int k2), .val (.int (0 : Int32)), .val (.ref w_VenueProfile_PTS_FINE), .val (.ref w_TickTable_FINE)] [(.int (0 : Int32)), (.ref w_VenueProfile_PTS_FINE)])) rfl (by rw [hml]; rfl) (Steps.refl _) (argsL := [(.int (0 : Int32))]) (rest := []) (lenOf pd_0 rfl) rfl (by show 2 * 0 + _ ≤ _; exact Nat.le_of_eq rfl) (hb hby at_87) (fun _ _ => ⟨rfl, e2, (by decide : 0 + 0 ≤ _), (by decide : 0 + 0 ≤ _)⟩)
      dsimp only [Pt.U, Pt.locs, Pt.cells, Pt.slots] at X3 l3 y3 z3 st3 hQ3
      subst l3 y3 z3
      obtain ⟨rfl, N3q, e3⟩ := hQ3
      have N3 := Fr.app (Fr.nil n0) N3q
      refine own_to T3 (mkF m 100 #[.val (.int i0), .val (.int i1), .val (.int k2), .val (.int (0 : Int32)), .val (.ref w_VenueProfile_PTS_FINE), .val (.ref w_TickTable_FINE)] [(.int (1 : Int32))]) (fun t k => st3.trans (XS.aload X3.here hx rfl (hb hby at_90) rfl rfl (Jvm.RoadKit.acmp (g := (mkF m 92 #[.val (.int i0), .val (.int i1), .val (.int k2), .val (.int (0 : Int32)), .val (.ref w_VenueProfile_PTS_FINE), .val (.ref w_TickTable_FINE)] [(.ref w_TickTable_FINE), (.ref w_TickTable_FINE)])) X3 hx rfl rfl rfl (pc0 := 92) (pc' := 95) (same := true) rfl (hb hby at_92) rfl (decide_eq_true rfl) (by decide) (by decide) (XS.iconst X3.here hx rfl (hb hby at_95) (XS.goto X3.here hx rfl (pc0 := 96) (pc' := 100) rfl (hb hby at_96) (by decide) (by decide) k))))) ?_
      exact own_retZ X3 hx hret hlk (hb hby at_100) (by decide) (by decide) (Or.inr rfl) ⟨rfl, N3⟩
    · skip
      refine own_to s₁ (mkF m 38 #[.val (.int i0), .val (.int i1), .val (.int k2), .val (.int (0 : Int32)), .unset, .unset] [(.int (1 : Int32)), (.int k2)]) (fun t k => XS.ifYes X0.here hx rfl (pc0 := 20) (pc' := 36) rfl (hb hby at_20) rfl ((if0 _ _).trans (feq c20).2) (by decide) (by decide) (XS.iloadN X0.here hx rfl (hb hby at_36) rfl (XS.iconst X0.here hx rfl (hb hby at_37) k))) ?_
      by_cases c38 : k2 = (1 : Int32)
      · skip
        refine own_to s₁ (mkF m 41 #[.val (.int i0), .val (.int i1), .val (.int k2), .val (.int (0 : Int32)), .unset, .unset] []) (fun t k => XS.icmpNo X0.here hx rfl (hb hby at_38) rfl (teq c38).2 k) ?_
        obtain ⟨T4, X4, e4, st4⟩ := getS2 X0 hx hZ hown (host := "") (Or.inl (own_w hw 22 rfl)) Via.refl e0 S_w_VenueProfile_PTS_STANDARD (g := (mkF m 41 #[.val (.int i0), .val (.int i1), .val (.int k2), .val (.int (0 : Int32)), .unset, .unset] [])) rfl (hb hby at_41)
        refine own_to T4 (mkF m 56 #[.val (.int i0), .val (.int i1), .val (.int k2), .val (.int (0 : Int32)), .val (.ref w_VenueProfile_PTS_STANDARD), .unset] []) (fun t k => st4 _ (XS.astore X4.here hx rfl (hb hby at_44) rfl rfl (l' := #[.val (.int i0), .val (.int i1), .val (.int k2), .val (.int (0 : Int32)), .val (.ref w_VenueProfile_PTS_STANDARD), .unset]) rfl (XS.iloadN X4.here hx rfl (hb hby at_46) rfl (XS.ifYes X4.here hx rfl (pc0 := 47) (pc' := 56) rfl (hb hby at_47) rfl ((if0 _ _).trans (teq (by decide : (0 : Int32) = (0 : Int32))).1) (by decide) (by decide) k)))) ?_
        obtain ⟨T5, X5, e5, st5⟩ := getS2 X4 hx hZ hown (host := "") (Or.inl (own_w hw 18 rfl)) Via.refl e4 S_w_TickTable_EXCHANGE (g := (mkF m 56 #[.val (.int i0), .val (.int i1), .val (.int k2), .val (.int (0 : Int32)), .val (.ref w_VenueProfile_PTS_STANDARD), .unset] [])) rfl (hb hby at_56)
        refine own_to T5 (mkF m 87 #[.val (.int i0), .val (.int i1), .val (.int k2), .val (.int (0 : Int32)), .val (.ref w_VenueProfile_PTS_STANDARD), .val (.ref w_TickTable_EXCHANGE)] [(.int (0 : Int32)), (.ref w_VenueProfile_PTS_STANDARD)]) (fun t k => st5 _ (XS.astore X5.here hx rfl (hb hby at_59) rfl rfl (l' := #[.val (.int i0), .val (.int i1), .val (.int k2), .val (.int (0 : Int32)), .val (.ref w_VenueProfile_PTS_STANDARD), .val (.ref w_TickTable_EXCHANGE)]) rfl (XS.goto X5.here hx rfl (pc0 := 61) (pc' := 84) rfl (hb hby at_61) (by decide) (by decide) (XS.aload X5.here hx rfl (hb hby at_84) rfl rfl (XS.iloadN X5.here hx rfl (hb hby at_86) rfl k))))) ?_
        obtain ⟨cq6, kq6, q6a, q6b, q6c⟩ := isOf hZ e5 E_w_VenueProfile_PTS_STANDARD
        obtain ⟨_, _, ⟨T6, L6, k6, n6⟩, -, X6, ⟨Lc6, hQ6, l6, y6, z6⟩, st6⟩ := X5.virtualBack hx (y := (⟨"kehai/VenueProfile", "ticks", "(Z)Lkehai/TickTable;"⟩ : MethodName)) (z := (⟨"kehai/VenueProfile", "ticks", "(Z)Lkehai/TickTable;"⟩ : MethodName)) hown (mvT hZ (own_w hw 7 rfl)) (mvT hZ (own_w hw 8 rfl)) (notFace_of_selects (args := #[]) (mvT hZ (own_w hw 10 rfl))) (mvT hZ (own_w hw 10 rfl)) (mvT hZ (own_w hw 9 rfl)) (by decide) (backOf (W := 0) (rm1 l Z a0 hw [] w_VenueProfile_PTS_STANDARD (0 : Int32) w_TickTable_EXCHANGE h0 n0 Z0 (Or.inl ⟨rfl, F_w_VenueProfile_PTS_STANDARD_ticks⟩)) hZ (own_w hw 11 rfl) (own_w hw 2 rfl) (by decide) (by decide)) q6a q6c (g := (mkF m 87 #[.val (.int i0), .val (.int i1), .val (.int k2), .val (.int (0 : Int32)), .val (.ref w_VenueProfile_PTS_STANDARD), .val (.ref w_TickTable_EXCHANGE)] [(.int (0 : Int32)), (.ref w_VenueProfile_PTS_STANDARD)])) rfl (by rw [hml]; rfl) (Steps.refl _) (argsL := [(.int (0 : Int32))]) (rest := []) (lenOf pd_0 rfl) rfl (by show 2 * 0 + _ ≤ _; exact Nat.le_of_eq rfl) (hb hby at_87) (fun _ _ => ⟨rfl, e5, (by decide : 0 + 0 ≤ _), (by decide : 0 + 0 ≤ _)⟩)
        dsimp only [Pt.U, Pt.locs, Pt.cells, Pt.slots] at X6 l6 y6 z6 st6 hQ6
        subst l6 y6 z6
        obtain ⟨rfl, N6q, e6⟩ := hQ6
        have N6 := Fr.app (Fr.nil n0) N6q
        refine own_to T6 (mkF m 100 #[.val (.int i0), .val (.int i1), .val (.int k2), .val (.int (0 : Int32)), .val (.ref w_VenueProfile_PTS_STANDARD), .val (.ref w_TickTable_EXCHANGE)] [(.int (1 : Int32))]) (fun t k => st6.trans (XS.aload X6.here hx rfl (hb hby at_90) rfl rfl (Jvm.RoadKit.acmp (g := (mkF m 92 #[.val (.int i0), .val (.int i1), .val (.int k2), .val (.int (0 : Int32)), .val (.ref w_VenueProfile_PTS_STANDARD), .val (.ref w_TickTable_EXCHANGE)] [(.ref w_TickTable_EXCHANGE), (.ref w_TickTable_EXCHANGE)])) X6 hx rfl rfl rfl (pc0 := 92) (pc' := 95) (same := true) rfl (hb hby at_92) rfl (decide_eq_true rfl) (by decide) (by decide) (XS.iconst X6.here hx rfl (hb hby at_95) (XS.goto X6.here hx rfl (pc0 := 96) (pc' := 100) rfl (hb hby at_96) (by decide) (by decide) k))))) ?_
        exact own_retZ X6 hx hret hlk (hb hby at_100) (by decide) (by decide) (Or.inr rfl) ⟨rfl, N6⟩
      · skip
        refine own_to s₁ (mkF m 64 #[.val (.int i0), .val (.int i1), .val (.int k2), .val (.int (0 : Int32)), .unset, .unset] []) (fun t k => XS.icmpYes X0.here hx rfl (pc0 := 38) (pc' := 64) rfl (hb hby at_38) rfl (feq c38).2 (by decide) (by decide) k) ?_
        obtain ⟨T7, X7, e7, st7⟩ := getS2 X0 hx hZ hown (host := "") (Or.inl (own_w hw 14 rfl)) Via.refl e0 S_w_VenueProfile_EXCHANGE (g := (mkF m 64 #[.val (.int i0), .val (.int i1), .val (.int k2), .val (.int (0 : Int32)), .unset, .unset] [])) rfl (hb hby at_64)
        refine own_to T7 (mkF m 79 #[.val (.int i0), .val (.int i1), .val (.int k2), .val (.int (0 : Int32)), .val (.ref w_VenueProfile_EXCHANGE), .unset] []) (fun t k => st7 _ (XS.astore X7.here hx rfl (hb hby at_67) rfl rfl (l' := #[.val (.int i0), .val (.int i1), .val (.int k2), .val (.int (0 : Int32)), .val (.ref w_VenueProfile_EXCHANGE), .unset]) rfl (XS.iloadN X7.here hx rfl (hb hby at_69) rfl (XS.ifYes X7.here hx rfl (pc0 := 70) (pc' := 79) rfl (hb hby at_70) rfl ((if0 _ _).trans (teq (by decide : (0 : Int32) = (0 : Int32))).1) (by decide) (by decide) k)))) ?_
        obtain ⟨T8, X8, e8, st8⟩ := getS2 X7 hx hZ hown (host := "") (Or.inl (own_w hw 18 rfl)) Via.refl e7 S_w_TickTable_EXCHANGE (g := (mkF m 79 #[.val (.int i0), .val (.int i1), .val (.int k2), .val (.int (0 : Int32)), .val (.ref w_VenueProfile_EXCHANGE), .unset] [])) rfl (hb hby at_79)
        refine own_to T8 (mkF m 87 #[.val (.int i0), .val (.int i1), .val (.int k2), .val (.int (0 : Int32)), .val (.ref w_VenueProfile_EXCHANGE), .val (.ref w_TickTable_EXCHANGE)] [(.int (0 : Int32)), (.ref w_VenueProfile_EXCHANGE)]) (fun t k => st8 _ (XS.astore X8.here hx rfl (hb hby at_82) rfl rfl (l' := #[.val (.int i0), .val (.int i1), .val (.int k2), .val (.int (0 : Int32)), .val (.ref w_VenueProfile_EXCHANGE), .val (.ref w_TickTable_EXCHANGE)]) rfl (XS.aload X8.here hx rfl (hb hby at_84) rfl rfl (XS.iloadN X8.here hx rfl (hb hby at_86) rfl k)))) ?_
        obtain ⟨cq9, kq9, q9a, q9b, q9c⟩ := isOf hZ e8 E_w_VenueProfile_EXCHANGE
        obtain ⟨_, _, ⟨T9, L9, k9, n9⟩, -, X9, ⟨Lc9, hQ9, l9, y9, z9⟩, st9⟩ := X8.virtualBack hx (y := (⟨"kehai/VenueProfile", "ticks", "(Z)Lkehai/TickTable;"⟩ : MethodName)) (z := (⟨"kehai/VenueProfile", "ticks", "(Z)Lkehai/TickTable;"⟩ : MethodName)) hown (mvT hZ (own_w hw 7 rfl)) (mvT hZ (own_w hw 8 rfl)) (notFace_of_selects (args := #[]) (mvT hZ (own_w hw 10 rfl))) (mvT hZ (own_w hw 10 rfl)) (mvT hZ (own_w hw 9 rfl)) (by decide) (backOf (W := 0) (rm1 l Z a0 hw [] w_VenueProfile_EXCHANGE (0 : Int32) w_TickTable_EXCHANGE h0 n0 Z0 (Or.inl ⟨rfl, F_w_VenueProfile_EXCHANGE_ticks⟩)) hZ (own_w hw 11 rfl) (own_w hw 2 rfl) (by decide) (by decide)) q9a q9c (g := (mkF m 87 #[.val (.int i0), .val (.int i1), .val (.int k2), .val (.int (0 : Int32)), .val (.ref w_VenueProfile_EXCHANGE), .val (.ref w_TickTable_EXCHANGE)] [(.int (0 : Int32)), (.ref w_VenueProfile_EXCHANGE)])) rfl (by rw [hml]; rfl) (Steps.refl _) (argsL := [(.int (0 : Int32))]) (rest := []) (lenOf pd_0 rfl) rfl (by show 2 * 0 + _ ≤ _; exact Nat.le_of_eq rfl) (hb hby at_87) (fun _ _ => ⟨rfl, e8, (by decide : 0 + 0 ≤ _), (by decide : 0 + 0 ≤ _)⟩)
        dsimp only [Pt.U, Pt.locs, Pt.cells, Pt.slots] at X9 l9 y9 z9 st9 hQ9
        subst l9 y9 z9
        obtain ⟨rfl, N9q, e9⟩ := hQ9
        have N9 := Fr.app (Fr.nil n0) N9q
        refine own_to T9 (mkF m 100 #[.val (.int i0), .val (.int i1), .val (.int k2), .val (.int (0 : Int32)), .val (.ref w_VenueProfile_EXCHANGE), .val (.ref w_TickTable_EXCHANGE)] [(.int (1 : Int32))]) (fun t k => st9.trans (XS.aload X9.here hx rfl (hb hby at_90) rfl rfl (Jvm.RoadKit.acmp (g := (mkF m 92 #[.val (.int i0), .val (.int i1), .val (.int k2), .val (.int (0 : Int32)), .val (.ref w_VenueProfile_EXCHANGE), .val (.ref w_TickTable_EXCHANGE)] [(.ref w_TickTable_EXCHANGE), (.ref w_TickTable_EXCHANGE)])) X9 hx rfl rfl rfl (pc0 := 92) (pc' := 95) (same := true) rfl (hb hby at_92) rfl (decide_eq_true rfl) (by decide) (by decide) (XS.iconst X9.here hx rfl (hb hby at_95) (XS.goto X9.here hx rfl (pc0 := 96) (pc' := 100) rfl (hb hby at_96) (by decide) (by decide) k))))) ?_
        exact own_retZ X9 hx hret hlk (hb hby at_100) (by decide) (by decide) (Or.inr rfl) ⟨rfl, N9⟩
  · skip
    refine own_to s₁ (mkF m 20 #[.val (.int i0), .val (.int i1), .val (.int k2), .val (.int (1 : Int32)), .unset, .unset] [(.int k2)]) (fun t k => XS.ifNo X0.here hx rfl (hb hby at_10) rfl ((if0 _ _).trans (feq c10).1) (XS.iconst X0.here hx rfl (hb hby at_13) (XS.goto X0.here hx rfl (pc0 := 14) (pc' := 18) rfl (hb hby at_14) (by decide) (by decide) (XS.istoreN X0.here hx rfl (hb hby at_18) rfl (l' := #[.val (.int i0), .val (.int i1), .val (.int k2), .val (.int (1 : Int32)), .unset, .unset]) rfl (XS.iloadN X0.here hx rfl (hb hby at_19) rfl k))))) ?_
    by_cases c20 : k2 = (0 : Int32)
    · skip
      refine own_to s₁ (mkF m 23 #[.val (.int i0), .val (.int i1), .val (.int k2), .val (.int (1 : Int32)), .unset, .unset] []) (fun t k => XS.ifNo X0.here hx rfl (hb hby at_20) rfl ((if0 _ _).trans (teq c20).2) k) ?_
      obtain ⟨T10, X10, e10, st10⟩ := getS2 X0 hx hZ hown (host := "") (Or.inl (own_w hw 1 rfl)) Via.refl e0 S_w_VenueProfile_PTS_FINE (g := (mkF m 23 #[.val (.int i0), .val (.int i1), .val (.int k2), .val (.int (1 : Int32)), .unset, .unset] [])) rfl (hb hby at_23)
      refine own_to T10 (mkF m 28 #[.val (.int i0), .val (.int i1), .val (.int k2), .val (.int (1 : Int32)), .val (.ref w_VenueProfile_PTS_FINE), .unset] []) (fun t k => st10 _ (XS.astore X10.here hx rfl (hb hby at_26) rfl rfl (l' := #[.val (.int i0), .val (.int i1), .val (.int k2), .val (.int (1 : Int32)), .val (.ref w_VenueProfile_PTS_FINE), .unset]) rfl k)) ?_
      obtain ⟨T11, X11, e11, st11⟩ := getS2 X10 hx hZ hown (host := "") (Or.inl (own_w hw 4 rfl)) Via.refl e10 S_w_TickTable_FINE (g := (mkF m 28 #[.val (.int i0), .val (.int i1), .val (.int k2), .val (.int (1 : Int32)), .val (.ref w_VenueProfile_PTS_FINE), .unset] [])) rfl (hb hby at_28)
      refine own_to T11 (mkF m 87 #[.val (.int i0), .val (.int i1), .val (.int k2), .val (.int (1 : Int32)), .val (.ref w_VenueProfile_PTS_FINE), .val (.ref w_TickTable_FINE)] [(.int (1 : Int32)), (.ref w_VenueProfile_PTS_FINE)]) (fun t k => st11 _ (XS.astore X11.here hx rfl (hb hby at_31) rfl rfl (l' := #[.val (.int i0), .val (.int i1), .val (.int k2), .val (.int (1 : Int32)), .val (.ref w_VenueProfile_PTS_FINE), .val (.ref w_TickTable_FINE)]) rfl (XS.goto X11.here hx rfl (pc0 := 33) (pc' := 84) rfl (hb hby at_33) (by decide) (by decide) (XS.aload X11.here hx rfl (hb hby at_84) rfl rfl (XS.iloadN X11.here hx rfl (hb hby at_86) rfl k))))) ?_
      obtain ⟨cq12, kq12, q12a, q12b, q12c⟩ := isOf hZ e11 E_w_VenueProfile_PTS_FINE
      obtain ⟨_, _, ⟨T12, L12, k12, n12⟩, -, X12, ⟨Lc12, hQ12, l12, y12, z12⟩, st12⟩ := X11.virtualBack hx (y := (⟨"kehai/VenueProfile", "ticks", "(Z)Lkehai/TickTable;"⟩ : MethodName)) (z := (⟨"kehai/VenueProfile", "ticks", "(Z)Lkehai/TickTable;"⟩ : MethodName)) hown (mvT hZ (own_w hw 7 rfl)) (mvT hZ (own_w hw 8 rfl)) (notFace_of_selects (args := #[]) (mvT hZ (own_w hw 10 rfl))) (mvT hZ (own_w hw 10 rfl)) (mvT hZ (own_w hw 9 rfl)) (by decide) (backOf (W := 0) (rm1 l Z a0 hw [] w_VenueProfile_PTS_FINE (1 : Int32) w_TickTable_FINE h0 n0 Z0 (Or.inr ⟨by decide, F_w_VenueProfile_PTS_FINE_topix100Ticks⟩)) hZ (own_w hw 11 rfl) (own_w hw 2 rfl) (by decide) (by decide)) q12a q12c (g := (mkF m 87 #[.val (.int i0), .val (.int i1), .val (.int k2), .val (.int (1 : Int32)), .val (.ref w_VenueProfile_PTS_FINE), .val (.ref w_TickTable_FINE)] [(.int (1 : Int32)), (.ref w_VenueProfile_PTS_FINE)])) rfl (by rw [hml]; rfl) (Steps.refl _) (argsL := [(.int (1 : Int32))]) (rest := []) (lenOf pd_0 rfl) rfl (by show 2 * 0 + _ ≤ _; exact Nat.le_of_eq rfl) (hb hby at_87) (fun _ _ => ⟨rfl, e11, (by decide : 0 + 0 ≤ _), (by decide : 0 + 0 ≤ _)⟩)
      dsimp only [Pt.U, Pt.locs, Pt.cells, Pt.slots] at X12 l12 y12 z12 st12 hQ12
      subst l12 y12 z12
      obtain ⟨rfl, N12q, e12⟩ := hQ12
      have N12 := Fr.app (Fr.nil n0) N12q
      refine own_to T12 (mkF m 100 #[.val (.int i0), .val (.int i1), .val (.int k2), .val (.int (1 : Int32)), .val (.ref w_VenueProfile_PTS_FINE), .val (.ref w_TickTable_FINE)] [(.int (1 : Int32))]) (fun t k => st12.trans (XS.aload X12.here hx rfl (hb hby at_90) rfl rfl (Jvm.RoadKit.acmp (g := (mkF m 92 #[.val (.int i0), .val (.int i1), .val (.int k2), .val (.int (1 : Int32)), .val (.ref w_VenueProfile_PTS_FINE), .val (.ref w_TickTable_FINE)] [(.ref w_TickTable_FINE), (.ref w_TickTable_FINE)])) X12 hx rfl rfl rfl (pc0 := 92) (pc' := 95) (same := true) rfl (hb hby at_92) rfl (decide_eq_true rfl) (by decide) (by decide) (XS.iconst X12.here hx rfl (hb hby at_95) (XS.goto X12.here hx rfl (pc0 := 96) (pc' := 100) rfl (hb hby at_96) (by decide) (by decide) k))))) ?_
      exact own_retZ X12 hx hret hlk (hb hby at_100) (by decide) (by decide) (Or.inr rfl) ⟨rfl, N12⟩
    · skip
      refine own_to s₁ (mkF m 38 #[.val (.int i0), .val (.int i1), .val (.int k2), .val (.int (1 : Int32)), .unset, .unset] [(.int (1 : Int32)), (.int k2)]) (fun t k => XS.ifYes X0.here hx rfl (pc0 := 20) (pc' := 36) rfl (hb hby at_20) rfl ((if0 _ _).trans (feq c20).2) (by decide) (by decide) (XS.iloadN X0.here hx rfl (hb hby at_36) rfl (XS.iconst X0.here hx rfl (hb hby at_37) k))) ?_
      by_cases c38 : k2 = (1 : Int32)
      · skip
        refine own_to s₁ (mkF m 41 #[.val (.int i0), .val (.int i1), .val (.int k2), .val (.int (1 : Int32)), .unset, .unset] []) (fun t k => XS.icmpNo X0.here hx rfl (hb hby at_38) rfl (teq c38).2 k) ?_
        obtain ⟨T13, X13, e13, st13⟩ := getS2 X0 hx hZ hown (host := "") (Or.inl (own_w hw 22 rfl)) Via.refl e0 S_w_VenueProfile_PTS_STANDARD (g := (mkF m 41 #[.val (.int i0), .val (.int i1), .val (.int k2), .val (.int (1 : Int32)), .unset, .unset] [])) rfl (hb hby at_41)
        refine own_to T13 (mkF m 50 #[.val (.int i0), .val (.int i1), .val (.int k2), .val (.int (1 : Int32)), .val (.ref w_VenueProfile_PTS_STANDARD), .unset] []) (fun t k => st13 _ (XS.astore X13.here hx rfl (hb hby at_44) rfl rfl (l' := #[.val (.int i0), .val (.int i1), .val (.int k2), .val (.int (1 : Int32)), .val (.ref w_VenueProfile_PTS_STANDARD), .unset]) rfl (XS.iloadN X13.here hx rfl (hb hby at_46) rfl (XS.ifNo X13.here hx rfl (hb hby at_47) rfl ((if0 _ _).trans (feq (by decide : ¬ ((1 : Int32) = (0 : Int32)))).1) k)))) ?_
        obtain ⟨T14, X14, e14, st14⟩ := getS2 X13 hx hZ hown (host := "") (Or.inl (own_w hw 16 rfl)) Via.refl e13 S_w_TickTable_EXCHANGE_TOPIX100 (g := (mkF m 50 #[.val (.int i0), .val (.int i1), .val (.int k2), .val (.int (1 : Int32)), .val (.ref w_VenueProfile_PTS_STANDARD), .unset] [])) rfl (hb hby at_50)
        refine own_to T14 (mkF m 87 #[.val (.int i0), .val (.int i1), .val (.int k2), .val (.int (1 : Int32)), .val (.ref w_VenueProfile_PTS_STANDARD), .val (.ref w_TickTable_EXCHANGE_TOPIX100)] [(.int (1 : Int32)), (.ref w_VenueProfile_PTS_STANDARD)]) (fun t k => st14 _ (XS.goto X14.here hx rfl (pc0 := 53) (pc' := 59) rfl (hb hby at_53) (by decide) (by decide) (XS.astore X14.here hx rfl (hb hby at_59) rfl rfl (l' := #[.val (.int i0), .val (.int i1), .val (.int k2), .val (.int (1 : Int32)), .val (.ref w_VenueProfile_PTS_STANDARD), .val (.ref w_TickTable_EXCHANGE_TOPIX100)]) rfl (XS.goto X14.here hx rfl (pc0 := 61) (pc' := 84) rfl (hb hby at_61) (by decide) (by decide) (XS.aload X14.here hx rfl (hb hby at_84) rfl rfl (XS.iloadN X14.here hx rfl (hb hby at_86) rfl k)))))) ?_
        obtain ⟨cq15, kq15, q15a, q15b, q15c⟩ := isOf hZ e14 E_w_VenueProfile_PTS_STANDARD
        obtain ⟨_, _, ⟨T15, L15, k15, n15⟩, -, X15, ⟨Lc15, hQ15, l15, y15, z15⟩, st15⟩ := X14.virtualBack hx (y := (⟨"kehai/VenueProfile", "ticks", "(Z)Lkehai/TickTable;"⟩ : MethodName)) (z := (⟨"kehai/VenueProfile", "ticks", "(Z)Lkehai/TickTable;"⟩ : MethodName)) hown (mvT hZ (own_w hw 7 rfl)) (mvT hZ (own_w hw 8 rfl)) (notFace_of_selects (args := #[]) (mvT hZ (own_w hw 10 rfl))) (mvT hZ (own_w hw 10 rfl)) (mvT hZ (own_w hw 9 rfl)) (by decide) (backOf (W := 0) (rm1 l Z a0 hw [] w_VenueProfile_PTS_STANDARD (1 : Int32) w_TickTable_EXCHANGE_TOPIX100 h0 n0 Z0 (Or.inr ⟨by decide, F_w_VenueProfile_PTS_STANDARD_topix100Ticks⟩)) hZ (own_w hw 11 rfl) (own_w hw 2 rfl) (by decide) (by decide)) q15a q15c (g := (mkF m 87 #[.val (.int i0), .val (.int i1), .val (.int k2), .val (.int (1 : Int32)), .val (.ref w_VenueProfile_PTS_STANDARD), .val (.ref w_TickTable_EXCHANGE_TOPIX100)] [(.int (1 : Int32)), (.ref w_VenueProfile_PTS_STANDARD)])) rfl (by rw [hml]; rfl) (Steps.refl _) (argsL := [(.int (1 : Int32))]) (rest := []) (lenOf pd_0 rfl) rfl (by show 2 * 0 + _ ≤ _; exact Nat.le_of_eq rfl) (hb hby at_87) (fun _ _ => ⟨rfl, e14, (by decide : 0 + 0 ≤ _), (by decide : 0 + 0 ≤ _)⟩)
        dsimp only [Pt.U, Pt.locs, Pt.cells, Pt.slots] at X15 l15 y15 z15 st15 hQ15
        subst l15 y15 z15
        obtain ⟨rfl, N15q, e15⟩ := hQ15
        have N15 := Fr.app (Fr.nil n0) N15q
        refine own_to T15 (mkF m 100 #[.val (.int i0), .val (.int i1), .val (.int k2), .val (.int (1 : Int32)), .val (.ref w_VenueProfile_PTS_STANDARD), .val (.ref w_TickTable_EXCHANGE_TOPIX100)] [(.int (1 : Int32))]) (fun t k => st15.trans (XS.aload X15.here hx rfl (hb hby at_90) rfl rfl (Jvm.RoadKit.acmp (g := (mkF m 92 #[.val (.int i0), .val (.int i1), .val (.int k2), .val (.int (1 : Int32)), .val (.ref w_VenueProfile_PTS_STANDARD), .val (.ref w_TickTable_EXCHANGE_TOPIX100)] [(.ref w_TickTable_EXCHANGE_TOPIX100), (.ref w_TickTable_EXCHANGE_TOPIX100)])) X15 hx rfl rfl rfl (pc0 := 92) (pc' := 95) (same := true) rfl (hb hby at_92) rfl (decide_eq_true rfl) (by decide) (by decide) (XS.iconst X15.here hx rfl (hb hby at_95) (XS.goto X15.here hx rfl (pc0 := 96) (pc' := 100) rfl (hb hby at_96) (by decide) (by decide) k))))) ?_
        exact own_retZ X15 hx hret hlk (hb hby at_100) (by decide) (by decide) (Or.inr rfl) ⟨rfl, N15⟩
      · skip
        refine own_to s₁ (mkF m 64 #[.val (.int i0), .val (.int i1), .val (.int k2), .val (.int (1 : Int32)), .unset, .unset] []) (fun t k => XS.icmpYes X0.here hx rfl (pc0 := 38) (pc' := 64) rfl (hb hby at_38) rfl (feq c38).2 (by decide) (by decide) k) ?_
        obtain ⟨T16, X16, e16, st16⟩ := getS2 X0 hx hZ hown (host := "") (Or.inl (own_w hw 14 rfl)) Via.refl e0 S_w_VenueProfile_EXCHANGE (g := (mkF m 64 #[.val (.int i0), .val (.int i1), .val (.int k2), .val (.int (1 : Int32)), .unset, .unset] [])) rfl (hb hby at_64)
        refine own_to T16 (mkF m 73 #[.val (.int i0), .val (.int i1), .val (.int k2), .val (.int (1 : Int32)), .val (.ref w_VenueProfile_EXCHANGE), .unset] []) (fun t k => st16 _ (XS.astore X16.here hx rfl (hb hby at_67) rfl rfl (l' := #[.val (.int i0), .val (.int i1), .val (.int k2), .val (.int (1 : Int32)), .val (.ref w_VenueProfile_EXCHANGE), .unset]) rfl (XS.iloadN X16.here hx rfl (hb hby at_69) rfl (XS.ifNo X16.here hx rfl (hb hby at_70) rfl ((if0 _ _).trans (feq (by decide : ¬ ((1 : Int32) = (0 : Int32)))).1) k)))) ?_
        obtain ⟨T17, X17, e17, st17⟩ := getS2 X16 hx hZ hown (host := "") (Or.inl (own_w hw 16 rfl)) Via.refl e16 S_w_TickTable_EXCHANGE_TOPIX100 (g := (mkF m 73 #[.val (.int i0), .val (.int i1), .val (.int k2), .val (.int (1 : Int32)), .val (.ref w_VenueProfile_EXCHANGE), .unset] [])) rfl (hb hby at_73)
        refine own_to T17 (mkF m 87 #[.val (.int i0), .val (.int i1), .val (.int k2), .val (.int (1 : Int32)), .val (.ref w_VenueProfile_EXCHANGE), .val (.ref w_TickTable_EXCHANGE_TOPIX100)] [(.int (1 : Int32)), (.ref w_VenueProfile_EXCHANGE)]) (fun t k => st17 _ (XS.goto X17.here hx rfl (pc0 := 76) (pc' := 82) rfl (hb hby at_76) (by decide) (by decide) (XS.astore X17.here hx rfl (hb hby at_82) rfl rfl (l' := #[.val (.int i0), .val (.int i1), .val (.int k2), .val (.int (1 : Int32)), .val (.ref w_VenueProfile_EXCHANGE), .val (.ref w_TickTable_EXCHANGE_TOPIX100)]) rfl (XS.aload X17.here hx rfl (hb hby at_84) rfl rfl (XS.iloadN X17.here hx rfl (hb hby at_86) rfl k))))) ?_
        obtain ⟨cq18, kq18, q18a, q18b, q18c⟩ := isOf hZ e17 E_w_VenueProfile_EXCHANGE
        obtain ⟨_, _, ⟨T18, L18, k18, n18⟩, -, X18, ⟨Lc18, hQ18, l18, y18, z18⟩, st18⟩ := X17.virtualBack hx (y := (⟨"kehai/VenueProfile", "ticks", "(Z)Lkehai/TickTable;"⟩ : MethodName)) (z := (⟨"kehai/VenueProfile", "ticks", "(Z)Lkehai/TickTable;"⟩ : MethodName)) hown (mvT hZ (own_w hw 7 rfl)) (mvT hZ (own_w hw 8 rfl)) (notFace_of_selects (args := #[]) (mvT hZ (own_w hw 10 rfl))) (mvT hZ (own_w hw 10 rfl)) (mvT hZ (own_w hw 9 rfl)) (by decide) (backOf (W := 0) (rm1 l Z a0 hw [] w_VenueProfile_EXCHANGE (1 : Int32) w_TickTable_EXCHANGE_TOPIX100 h0 n0 Z0 (Or.inr ⟨by decide, F_w_VenueProfile_EXCHANGE_topix100Ticks⟩)) hZ (own_w hw 11 rfl) (own_w hw 2 rfl) (by decide) (by decide)) q18a q18c (g := (mkF m 87 #[.val (.int i0), .val (.int i1), .val (.int k2), .val (.int (1 : Int32)), .val (.ref w_VenueProfile_EXCHANGE), .val (.ref w_TickTable_EXCHANGE_TOPIX100)] [(.int (1 : Int32)), (.ref w_VenueProfile_EXCHANGE)])) rfl (by rw [hml]; rfl) (Steps.refl _) (argsL := [(.int (1 : Int32))]) (rest := []) (lenOf pd_0 rfl) rfl (by show 2 * 0 + _ ≤ _; exact Nat.le_of_eq rfl) (hb hby at_87) (fun _ _ => ⟨rfl, e17, (by decide : 0 + 0 ≤ _), (by decide : 0 + 0 ≤ _)⟩)
        dsimp only [Pt.U, Pt.locs, Pt.cells, Pt.slots] at X18 l18 y18 z18 st18 hQ18
        subst l18 y18 z18
        obtain ⟨rfl, N18q, e18⟩ := hQ18
        have N18 := Fr.app (Fr.nil n0) N18q
        refine own_to T18 (mkF m 100 #[.val (.int i0), .val (.int i1), .val (.int k2), .val (.int (1 : Int32)), .val (.ref w_VenueProfile_EXCHANGE), .val (.ref w_TickTable_EXCHANGE_TOPIX100)] [(.int (1 : Int32))]) (fun t k => st18.trans (XS.aload X18.here hx rfl (hb hby at_90) rfl rfl (Jvm.RoadKit.acmp (g := (mkF m 92 #[.val (.int i0), .val (.int i1), .val (.int k2), .val (.int (1 : Int32)), .val (.ref w_VenueProfile_EXCHANGE), .val (.ref w_TickTable_EXCHANGE_TOPIX100)] [(.ref w_TickTable_EXCHANGE_TOPIX100), (.ref w_TickTable_EXCHANGE_TOPIX100)])) X18 hx rfl rfl rfl (pc0 := 92) (pc' := 95) (same := true) rfl (hb hby at_92) rfl (decide_eq_true rfl) (by decide) (by decide) (XS.iconst X18.here hx rfl (hb hby at_95) (XS.goto X18.here hx rfl (pc0 := 96) (pc' := 100) rfl (hb hby at_96) (by decide) (by decide) k))))) ?_
        exact own_retZ X18 hx hret hlk (hb hby at_100) (by decide) (by decide) (Or.inr rfl) ⟨rfl, N18⟩
set_option maxRecDepth 65536 in
set_option maxHeartbeats 40000000 in
theorem comes_1 {Post : Tables → Env → Array Value → State → Outcome → State → Prop} (hpost : ∀ tb e args s v u, (limb_1_1.after args s (.returned v) u = true ∧ limb_1_2.after args s (.returned v) u = true ∧ True) → FrameEnd s (.returned v) u (Jvm.fieldLocs frame_1_writes args s ++ Jvm.arrayLocs frame_1_arrays args s ++ Jvm.staticLocs frame_1_statics s) 0 0 → Post tb e args s (.returned v) u) :
    ArmFor flags0 classFile x code maxLocals ret World_1 tables_1 room_1 Calls_1 rest_1 Pre_1 Post := by
  intro l hfl _ _ p e ha hc hk s m args below hf hA hF happ hP
  obtain ⟨hcalls, hrest, hpre⟩ := hP
  obtain ⟨-, -, -, hnamed, -, -, -, hat⟩ := (Spec.applies_iff hf).mp happ
  obtain ⟨hg, hn⟩ := and_e (Cond.before_iff.mp (show (Jvm.Cond.and given_1 narrow_1).before args s = true from hpre))
  obtain ⟨q1, q2⟩ := and_e hg
  obtain ⟨q3, q4⟩ := and_e q2
  obtain ⟨w0, w1, rfl⟩ : ∃ w0 w1 : Value, args = #[w0, w1] := by
    have hs : args.size = 2 := by simpa [Cond.value, given_1] using q1
    obtain ⟨L⟩ := args
    match L, hs with
    | [w0, w1], _ => exact ⟨w0, w1, rfl⟩
  have hw := fun d (hd : d ∈ tables_1) => atoms_spec (ws := Jvm.Cond.code x code maxLocals ret :: tables_1) hat d (List.mem_cons_of_mem _ hd)
  have hfit : Fit s := fun {y c} hc i hi => by
    obtain ⟨ha, rfl⟩ := Array.getElem?_eq_some_iff.mp hc
    have q := List.all_eq_true.mp ((Array.all_eq_true_iff_forall_mem.mp hF) _ (Array.getElem_mem ha)) i (List.mem_range.mpr hi)
    simpa [Array.getElem?_eq_getElem hi] using q
  obtain ⟨i0, ei0⟩ := is_v q3
  obtain rfl : w0 = (.int i0) := Option.some.inj ei0
  obtain ⟨i1, ei1⟩ := is_v q4
  obtain rfl : w1 = (.int i1) := Option.some.inj ei1
  obtain ⟨nn1, nn2⟩ := and_e hn
  obtain ⟨nn3, nn4⟩ := and_e nn2
  obtain ⟨nn5, nn6⟩ := and_e nn4
  obtain ⟨nn7, nn8⟩ := and_e nn6
  obtain ⟨nn9, nn10⟩ := and_e nn8
  obtain ⟨nn11, nn12⟩ := and_e nn10
  obtain ⟨nn13, nn14⟩ := and_e nn12
  obtain ⟨nn15, nn16⟩ := and_e nn14
  obtain ⟨nn17, nn18⟩ := and_e nn16
  obtain ⟨nn19, nn20⟩ := and_e nn18
  obtain ⟨nn21, nn22⟩ := and_e nn20
  obtain ⟨w_VenueProfile_PTS_FINE, ev_w_VenueProfile_PTS_FINE⟩ := exa_v nn1
  have S_w_VenueProfile_PTS_FINE := Sta.start ev_w_VenueProfile_PTS_FINE (Or.inr ⟨(own_w hw 2 rfl), (own_w hw 3 rfl)⟩)
  have E_w_VenueProfile_PTS_FINE := Exa.start ev_w_VenueProfile_PTS_FINE nn1
  obtain ⟨w_TickTable_FINE, ev_w_TickTable_FINE⟩ := exa_v nn3
  have S_w_TickTable_FINE := Sta.start ev_w_TickTable_FINE (Or.inr ⟨(own_w hw 5 rfl), (own_w hw 6 rfl)⟩)
  have E_w_TickTable_FINE := Exa.start ev_w_TickTable_FINE nn3
  obtain ⟨w_VenueProfile_EXCHANGE, ev_w_VenueProfile_EXCHANGE⟩ := exa_v nn7
  have S_w_VenueProfile_EXCHANGE := Sta.start ev_w_VenueProfile_EXCHANGE (Or.inr ⟨(own_w hw 2 rfl), (own_w hw 15 rfl)⟩)
  have E_w_VenueProfile_EXCHANGE := Exa.start ev_w_VenueProfile_EXCHANGE nn7
  obtain ⟨w_TickTable_EXCHANGE_TOPIX100, ev_w_TickTable_EXCHANGE_TOPIX100⟩ := exa_v nn9
  have S_w_TickTable_EXCHANGE_TOPIX100 := Sta.start ev_w_TickTable_EXCHANGE_TOPIX100 (Or.inr ⟨(own_w hw 5 rfl), (own_w hw 17 rfl)⟩)
  have E_w_TickTable_EXCHANGE_TOPIX100 := Exa.start ev_w_TickTable_EXCHANGE_TOPIX100 nn9
  obtain ⟨w_TickTable_EXCHANGE, ev_w_TickTable_EXCHANGE⟩ := exa_v nn13
  have S_w_TickTable_EXCHANGE := Sta.start ev_w_TickTable_EXCHANGE (Or.inr ⟨(own_w hw 5 rfl), (own_w hw 19 rfl)⟩)
  have E_w_TickTable_EXCHANGE := Exa.start ev_w_TickTable_EXCHANGE nn13
  obtain ⟨w_VenueProfile_PTS_STANDARD, ev_w_VenueProfile_PTS_STANDARD⟩ := exa_v nn17
  have S_w_VenueProfile_PTS_STANDARD := Sta.start ev_w_VenueProfile_PTS_STANDARD (Or.inr ⟨(own_w hw 2 rfl), (own_w hw 23 rfl)⟩)
  have E_w_VenueProfile_PTS_STANDARD := Exa.start ev_w_VenueProfile_PTS_STANDARD nn17
  have F_w_VenueProfile_PTS_FINE_topix100Ticks : Fld s s.heap w_VenueProfile_PTS_FINE "kehai/VenueProfile" "topix100Ticks" "Lkehai/TickTable;" (.ref w_TickTable_FINE) := Fld.start ((fld_at ev_w_VenueProfile_PTS_FINE).symm.trans (own_eqR nn5 ev_w_TickTable_FINE))
  have F_w_VenueProfile_EXCHANGE_topix100Ticks : Fld s s.heap w_VenueProfile_EXCHANGE "kehai/VenueProfile" "topix100Ticks" "Lkehai/TickTable;" (.ref w_TickTable_EXCHANGE_TOPIX100) := Fld.start ((fld_at ev_w_VenueProfile_EXCHANGE).symm.trans (own_eqR nn11 ev_w_TickTable_EXCHANGE_TOPIX100))
  have F_w_VenueProfile_EXCHANGE_ticks : Fld s s.heap w_VenueProfile_EXCHANGE "kehai/VenueProfile" "ticks" "Lkehai/TickTable;" (.ref w_TickTable_EXCHANGE) := Fld.start ((fld_at ev_w_VenueProfile_EXCHANGE).symm.trans (own_eqR nn15 ev_w_TickTable_EXCHANGE))
  have F_w_VenueProfile_PTS_STANDARD_ticks : Fld s s.heap w_VenueProfile_PTS_STANDARD "kehai/VenueProfile" "ticks" "Lkehai/TickTable;" (.ref w_TickTable_EXCHANGE) := Fld.start ((fld_at ev_w_VenueProfile_PTS_STANDARD).symm.trans (own_eqR nn19 ev_w_TickTable_EXCHANGE))
  have F_w_VenueProfile_PTS_STANDARD_topix100Ticks : Fld s s.heap w_VenueProfile_PTS_STANDARD "kehai/VenueProfile" "topix100Ticks" "Lkehai/TickTable;" (.ref w_TickTable_EXCHANGE_TOPIX100) := Fld.start ((fld_at ev_w_VenueProfile_PTS_STANDARD).symm.trans (own_eqR nn21 ev_w_TickTable_EXCHANGE_TOPIX100))
  have F_w_VenueProfile_PTS_FINE_ticks : Fld s s.heap w_VenueProfile_PTS_FINE "kehai/VenueProfile" "ticks" "Lkehai/TickTable;" (.ref w_TickTable_FINE) := Fld.start ((fld_at ev_w_VenueProfile_PTS_FINE).symm.trans (own_eqR nn22 ev_w_TickTable_FINE))
  obtain ⟨n, o, h1, h2, h3, _, L, rfl, ⟨rfl, N⟩, hq⟩ := rm0 l s _ hw tables_1 i0 i1 w_VenueProfile_PTS_FINE w_TickTable_FINE w_VenueProfile_EXCHANGE w_TickTable_EXCHANGE_TOPIX100 w_TickTable_EXCHANGE w_VenueProfile_PTS_STANDARD s.heap s.heap.size (Nat.le_refl _) S_w_VenueProfile_PTS_FINE E_w_VenueProfile_PTS_FINE S_w_TickTable_FINE S_w_VenueProfile_EXCHANGE E_w_VenueProfile_EXCHANGE S_w_TickTable_EXCHANGE_TOPIX100 S_w_TickTable_EXCHANGE S_w_VenueProfile_PTS_STANDARD E_w_VenueProfile_PTS_STANDARD F_w_VenueProfile_PTS_FINE_ticks F_w_VenueProfile_PTS_FINE_topix100Ticks F_w_VenueProfile_PTS_STANDARD_ticks F_w_VenueProfile_PTS_STANDARD_topix100Ticks F_w_VenueProfile_EXCHANGE_ticks F_w_VenueProfile_EXCHANGE_topix100Ticks p e ha hc hk s m _ below hf ((Spec.applies_iff_loose hf).mp happ).1 ⟨rfl, State.Warmed39.refl s, rfl⟩ trivial
  refine ⟨n, _, h1, h2, h3, hpost _ _ _ _ _ _ ⟨Cond.after_iff.mpr rfl, Cond.after_iff.mpr (eq_i res_at (Term.int_eval (1)) rfl), trivial⟩ ⟨hq.1, hq.2.1, (hq.2.2.sift fun y hy => Or.inr (N y hy)).mono (by decide) (by decide)⟩⟩
theorem main_1_1 : Claimed_1_1 := comes_1 fun _ _ _ _ _ _ h hF => ⟨h.1, hF⟩
theorem main_1_2 : Claimed_1_2 := comes_1 fun _ _ _ _ _ _ h hF => ⟨h.2.1, hF⟩
end Jvm.Pilot.@@N@@
namespace Jvm.Pilot.@@N@@
open Jvm Jvm.ClassFile Sem Op Lib Jvm.Free Jvm.Stand Jvm.Pilot.@@N@@.Jvm.D
/-! MADE BY PROGRAM (witnessworld.py) out of the Statement's table words and the real class files: 13 classes; the members and pool entries that the words name. The judged class is class 1, her method 1. -/
namespace start1
open Jvm.ClassFile
def u (s : String) : CpInfo := .utf8 (stringToUtf16 s)
/-- a pool by its gaps: so many unusable entries, then the entry; so many at the end -/
def gap : Nat → List CpInfo → List CpInfo
  | 0, r => r
  | n + 1, r => .unusable :: gap n r
def poolList (es : List (Nat × CpInfo)) (last : Nat) : List CpInfo := es.foldr (fun e r => gap e.1 (e.2 :: r)) (gap last [])
def pool (es : List (Nat × CpInfo)) (last : Nat) : Array CpInfo := ⟨poolList es last⟩
def fileOf (pool : Array CpInfo) (this : Nat) (attrs : Array Attribute := #[]) (ms : Array MethodInfo := #[]) (fl : Nat := 33) (sup : Nat := 0) (ifs : Array Nat := #[]) (fds : Array FieldInfo := #[]) : ClassFile where
  minorVersion := 0
  majorVersion := 65
  constantPool := pool
  accessFlags := fl
  thisClass := this
  superClass := sup
  interfaces := ifs
  fields := fds
  methods := ms
  attributes := attrs
def plain (name : String) (sup : Option ClassId) : Class where
  name := name
  kind := .ordinary
  loader := none
  accessFlags := 33
  super := sup
  interfaces := #[]
  cf := none
  fields := #[]
  methods := #[]
  instanceTypes := #[]
  staticTypes := #[]
  resolved := #[]
  callSites := []
  init := .initialized
  statics := none
  mirror := none

def pool0 : Array CpInfo := pool [(5, u "<init>"), (0, u "()V"), (1, .class_ 10), (1, u "java/lang/Object")] 113

def k0m0 : Method := { name := "<init>", desc := "()V", sig := { parameters := [], returnType := none }, accessFlags := 1, code := none }
/-- java/lang/Object -/
def k0 : Class := { plain "java/lang/Object" none with
  accessFlags := 33
  interfaces := #[]
  cf := some (fileOf pool0 8 #[] #[{ accessFlags := 1, nameIndex := 5, descriptorIndex := 6, attributes := #[] }] 33 0 #[] #[])
  fields := #[]
  methods := #[k0m0]
  instanceTypes := #[]
  staticTypes := #[]
  resolved := Array.replicate 124 none
  statics := none }

def pool1 : Array CpInfo := pool [(2, .class_ 4), (1, u "java/lang/Object"), (0, u "<init>"), (0, u "()V"), (0, .integer 2147483647), (0, .fieldref 9 10), (0, .class_ 11), (0, .nameAndType 12 13), (0, u "kehai/VenueProfile"), (0, u "PTS_FINE"), (0, u "Lkehai/VenueProfile;"), (0, .fieldref 15 16), (0, .class_ 17), (0, .nameAndType 18 19), (0, u "kehai/TickTable"), (0, u "FINE"), (0, u "Lkehai/TickTable;"), (0, .fieldref 9 21), (0, .nameAndType 22 13), (0, u "PTS_STANDARD"), (0, .fieldref 15 24), (0, .nameAndType 25 19), (0, u "EXCHANGE_TOPIX100"), (0, .fieldref 15 27), (0, .nameAndType 28 19), (0, u "EXCHANGE"), (0, .fieldref 9 30), (0, .nameAndType 28 13), (0, .methodref 9 32), (0, .nameAndType 33 34), (0, u "ticks"), (0, u "(Z)Lkehai/TickTable;"), (0, .class_ 36), (0, u "kehai/VenueProfileTicksPinLaw"), (2, u "law"), (0, u "(II)Z")] 3

def k1m0 : Method := { name := "<init>", desc := "()V", sig := { parameters := [], returnType := none }, accessFlags := 2, code := none }
def k1c1 : Code := { maxStack := 2, maxLocals := 6, code := code, exceptionTable := #[], attributes := #[] }
def k1m1 : Method := { name := "law", desc := "(II)Z", sig := { parameters := [.int, .int], returnType := some .boolean }, accessFlags := 9, code := some k1c1 }
/-- kehai/VenueProfileTicksPinLaw -/
def k1 : Class := { plain "kehai/VenueProfileTicksPinLaw" (some 0) with
  accessFlags := 49
  interfaces := #[]
  cf := some (fileOf pool1 35 #[] #[{ accessFlags := 2, nameIndex := 5, descriptorIndex := 6, attributes := #[] }, { accessFlags := 9, nameIndex := 39, descriptorIndex := 40, attributes := #[] }] 49 2 #[] #[])
  fields := #[]
  methods := #[k1m0, k1m1]
  instanceTypes := #[]
  staticTypes := #[]
  resolved := Array.replicate 44 none
  statics := none }

def pool2 : Array CpInfo := pool [(1, .class_ 2), (0, u "java/lang/constant/Constable"), (0, .class_ 4), (0, u "java/lang/Object")] 6

/-- java/lang/constant/Constable -/
def k2 : Class := { plain "java/lang/constant/Constable" (some 0) with
  accessFlags := 1537
  interfaces := #[]
  cf := some (fileOf pool2 1 #[] #[] 1537 3 #[] #[])
  fields := #[]
  methods := #[]
  instanceTypes := #[]
  staticTypes := #[]
  resolved := Array.replicate 11 none
  statics := none }

def pool3 : Array CpInfo := pool [(1, .class_ 2), (0, u "java/lang/Comparable"), (0, .class_ 4), (0, u "java/lang/Object")] 7

/-- java/lang/Comparable -/
def k3 : Class := { plain "java/lang/Comparable" (some 0) with
  accessFlags := 1537
  interfaces := #[]
  cf := some (fileOf pool3 1 #[] #[] 1537 3 #[] #[])
  fields := #[]
  methods := #[]
  instanceTypes := #[]
  staticTypes := #[]
  resolved := Array.replicate 12 none
  statics := none }

def pool4 : Array CpInfo := pool [(1, .class_ 2), (0, u "java/io/Serializable"), (0, .class_ 4), (0, u "java/lang/Object")] 2

/-- java/io/Serializable -/
def k4 : Class := { plain "java/io/Serializable" (some 0) with
  accessFlags := 1537
  interfaces := #[]
  cf := some (fileOf pool4 1 #[] #[] 1537 3 #[] #[])
  fields := #[]
  methods := #[]
  instanceTypes := #[]
  staticTypes := #[]
  resolved := Array.replicate 7 none
  statics := none }

def pool5 : Array CpInfo := pool [(2, .class_ 4), (1, u "java/lang/Enum"), (0, u "name"), (0, u "Ljava/lang/String;"), (2, u "ordinal"), (0, u "I"), (1, .class_ 14), (1, u "java/lang/Object"), (4, u "hash"), (86, .class_ 108), (1, u "java/lang/Enum$EnumDesc"), (2, .class_ 112), (0, u "java/lang/constant/Constable"), (0, .class_ 114), (0, u "java/lang/Comparable"), (0, .class_ 116), (0, u "java/io/Serializable")] 87

/-- java/lang/Enum -/
def k5 : Class := { plain "java/lang/Enum" (some 0) with
  accessFlags := 1057
  interfaces := #[2, 3, 4]
  cf := some (fileOf pool5 2 #[.nestMembers #[106]] #[] 1057 12 #[111, 113, 115] #[{ accessFlags := 18, nameIndex := 5, descriptorIndex := 6, attributes := #[] }, { accessFlags := 18, nameIndex := 9, descriptorIndex := 10, attributes := #[] }, { accessFlags := 2, nameIndex := 19, descriptorIndex := 10, attributes := #[] }])
  fields := #[{ name := "name", type := (.object "java/lang/String"), accessFlags := 18, slot := 0, constantValue := 0 }, { name := "ordinal", type := .int, accessFlags := 18, slot := 1, constantValue := 0 }, { name := "hash", type := .int, accessFlags := 2, slot := 2, constantValue := 0 }]
  methods := #[]
  instanceTypes := #[(.object "java/lang/String"), .int, .int]
  staticTypes := #[]
  resolved := Array.replicate 204 none
  statics := none }

def pool6 : Array CpInfo := pool [(1, .class_ 2), (0, u "kehai/VenueProfile"), (2, u "PTS_FINE"), (0, u "Lkehai/VenueProfile;"), (2, u "PTS_STANDARD"), (2, u "EXCHANGE"), (2, u "$VALUES"), (0, u "[Lkehai/VenueProfile;"), (6, .class_ 25), (1, u "java/lang/Enum"), (8, u "word"), (0, u "Ljava/lang/String;"), (0, .fieldref 1 37), (0, .nameAndType 38 39), (0, u "ticks"), (0, u "Lkehai/TickTable;"), (0, .fieldref 1 41), (0, .nameAndType 42 39), (0, u "topix100Ticks"), (2, u "minimumUnit"), (0, u "Lkehai/VenueProfile$MinimumUnit;"), (2, u "hours"), (0, u "Lkehai/TradingHours;"), (2, u "onHalt"), (0, u "Lkehai/HaltPolicy;"), (15, .class_ 72), (1, u "kehai/VenueProfile$MinimumUnit"), (77, u "(Z)Lkehai/TickTable;")] 33

def k6c0 : Code := { maxStack := 1, maxLocals := 2, code := prog_62_method_6_code, exceptionTable := #[], attributes := #[] }
def k6m0 : Method := { name := "ticks", desc := "(Z)Lkehai/TickTable;", sig := { parameters := [.boolean], returnType := some (.object "kehai/TickTable") }, accessFlags := 0, code := some k6c0 }
/-- kehai/VenueProfile -/
def k6 : Class := { plain "kehai/VenueProfile" (some 5) with
  accessFlags := 16432
  interfaces := #[]
  cf := some (fileOf pool6 1 #[.nestMembers #[70]] #[{ accessFlags := 0, nameIndex := 38, descriptorIndex := 150, attributes := #[] }] 16432 23 #[] #[{ accessFlags := 16409, nameIndex := 5, descriptorIndex := 6, attributes := #[] }, { accessFlags := 16409, nameIndex := 9, descriptorIndex := 6, attributes := #[] }, { accessFlags := 16409, nameIndex := 12, descriptorIndex := 6, attributes := #[] }, { accessFlags := 18, nameIndex := 34, descriptorIndex := 35, attributes := #[] }, { accessFlags := 18, nameIndex := 38, descriptorIndex := 39, attributes := #[] }, { accessFlags := 18, nameIndex := 42, descriptorIndex := 39, attributes := #[] }, { accessFlags := 18, nameIndex := 45, descriptorIndex := 46, attributes := #[] }, { accessFlags := 18, nameIndex := 49, descriptorIndex := 50, attributes := #[] }, { accessFlags := 18, nameIndex := 53, descriptorIndex := 54, attributes := #[] }, { accessFlags := 4122, nameIndex := 15, descriptorIndex := 16, attributes := #[] }])
  fields := #[{ name := "PTS_FINE", type := (.object "kehai/VenueProfile"), accessFlags := 16409, slot := 0, constantValue := 0 }, { name := "PTS_STANDARD", type := (.object "kehai/VenueProfile"), accessFlags := 16409, slot := 1, constantValue := 0 }, { name := "EXCHANGE", type := (.object "kehai/VenueProfile"), accessFlags := 16409, slot := 2, constantValue := 0 }, { name := "word", type := (.object "java/lang/String"), accessFlags := 18, slot := 3, constantValue := 0 }, { name := "ticks", type := (.object "kehai/TickTable"), accessFlags := 18, slot := 4, constantValue := 0 }, { name := "topix100Ticks", type := (.object "kehai/TickTable"), accessFlags := 18, slot := 5, constantValue := 0 }, { name := "minimumUnit", type := (.object "kehai/VenueProfile$MinimumUnit"), accessFlags := 18, slot := 6, constantValue := 0 }, { name := "hours", type := (.object "kehai/TradingHours"), accessFlags := 18, slot := 7, constantValue := 0 }, { name := "onHalt", type := (.object "kehai/HaltPolicy"), accessFlags := 18, slot := 8, constantValue := 0 }, { name := "$VALUES", type := (.array (.object "kehai/VenueProfile")), accessFlags := 4122, slot := 3, constantValue := 0 }]
  methods := #[k6m0]
  instanceTypes := #[(.object "java/lang/String"), .int, .int, (.object "java/lang/String"), (.object "kehai/TickTable"), (.object "kehai/TickTable"), (.object "kehai/VenueProfile$MinimumUnit"), (.object "kehai/TradingHours"), (.object "kehai/HaltPolicy")]
  staticTypes := #[(.object "kehai/VenueProfile"), (.object "kehai/VenueProfile"), (.object "kehai/VenueProfile"), (.array (.object "kehai/VenueProfile"))]
  resolved := Array.replicate 184 none
  statics := some 0 }

def pool7 : Array CpInfo := pool [(2, .class_ 4), (1, u "java/lang/Object"), (3, .class_ 10), (1, u "kehai/TickTable"), (0, u "ticks"), (0, u "Lkehai/PriceBands;"), (2, u "BANDS"), (0, u "[[Ljava/lang/String;"), (84, u "FINE"), (0, u "Lkehai/TickTable;"), (2, u "EXCHANGE"), (2, u "EXCHANGE_TOPIX100")] 8

/-- kehai/TickTable -/
def k7 : Class := { plain "kehai/TickTable" (some 0) with
  accessFlags := 48
  interfaces := #[]
  cf := some (fileOf pool7 8 #[] #[] 48 2 #[] #[{ accessFlags := 26, nameIndex := 15, descriptorIndex := 16, attributes := #[] }, { accessFlags := 24, nameIndex := 101, descriptorIndex := 102, attributes := #[] }, { accessFlags := 24, nameIndex := 105, descriptorIndex := 102, attributes := #[] }, { accessFlags := 24, nameIndex := 108, descriptorIndex := 102, attributes := #[] }, { accessFlags := 18, nameIndex := 11, descriptorIndex := 12, attributes := #[] }])
  fields := #[{ name := "BANDS", type := (.array (.array (.object "java/lang/String"))), accessFlags := 26, slot := 0, constantValue := 0 }, { name := "FINE", type := (.object "kehai/TickTable"), accessFlags := 24, slot := 1, constantValue := 0 }, { name := "EXCHANGE", type := (.object "kehai/TickTable"), accessFlags := 24, slot := 2, constantValue := 0 }, { name := "EXCHANGE_TOPIX100", type := (.object "kehai/TickTable"), accessFlags := 24, slot := 3, constantValue := 0 }, { name := "ticks", type := (.object "kehai/PriceBands"), accessFlags := 18, slot := 0, constantValue := 0 }]
  methods := #[]
  instanceTypes := #[(.object "kehai/PriceBands")]
  staticTypes := #[(.array (.array (.object "java/lang/String"))), (.object "kehai/TickTable"), (.object "kehai/TickTable"), (.object "kehai/TickTable")]
  resolved := Array.replicate 117 none
  statics := some 1 }

def pool8 : Array CpInfo := pool [(1, u "java/lang/Cloneable"), (0, .class_ 1), (0, u "java/lang/Object"), (0, .class_ 3)] 3

/-- java/lang/Cloneable -/
def k8 : Class := { plain "java/lang/Cloneable" (some 0) with
  accessFlags := 1537
  interfaces := #[]
  cf := some (fileOf pool8 2 #[] #[] 1537 4 #[] #[])
  fields := #[]
  methods := #[]
  instanceTypes := #[]
  staticTypes := #[]
  resolved := Array.replicate 8 none
  statics := none }

/-- the primitive byte -/
def k9 : Class := { plain "byte" none with kind := .primitive 'B', accessFlags := 0x411 }
/-- [B -/
def k10 : Class := { plain "[B" (some 0) with kind := .array 9 .byte, interfaces := #[8, 4], accessFlags := 1041 }

/-- the primitive int -/
def k11 : Class := { plain "int" none with kind := .primitive 'I', accessFlags := 0x411 }
/-- [I -/
def k12 : Class := { plain "[I" (some 0) with kind := .array 11 .int, interfaces := #[8, 4], accessFlags := 1041 }

def heap : Heap := #[{ cls := 6, slots := #[.ref 5, .ref 6, .ref 7, .null], vm := .statics 6 },
  { cls := 7, slots := #[.null, .ref 2, .ref 3, .ref 4], vm := .statics 7 },
  { cls := 7, slots := #[.null], vm := .none },
  { cls := 7, slots := #[.null], vm := .none },
  { cls := 7, slots := #[.null], vm := .none },
  { cls := 6, slots := #[.null, .int 0, .int 0, .null, .ref 2, .ref 2, .null, .null, .null], vm := .none },
  { cls := 6, slots := #[.null, .int 1, .int 0, .null, .ref 3, .ref 4, .null, .null, .null], vm := .none },
  { cls := 6, slots := #[.null, .int 2, .int 0, .null, .ref 3, .ref 4, .null, .null, .null], vm := .none }]
def classes : Array Class := #[k0, k1, k2, k3, k4, k5, k6, k7, k8, k9, k10, k11, k12]
def interned : List (Array UInt16 × Addr) := []
def slotsUsed : Nat := 38
def theMethod : MethodId := ⟨1, 1⟩
def args0 : Array Value := #[.int 1, .int 1]
def aboutOver (below : List Frame) : State where
  vm := { classes := classes, interned := interned.toArray }
  heap := heap
  slotsUsed := slotsUsed
  threads := #[{ frames := .invoking theMethod args0 :: below }]
def below0 : List Frame := [.native { method := ⟨0, 0⟩, args := #[] }]
def about1 : State := aboutOver below0
def p0 : Program := .bare "" "" ""
def e0 : Env := launch0.env 0 0 0
theorem w_frames : about1.frames = Frame.invoking theMethod args0 :: below0 := rfl
set_option maxRecDepth 65536 in
theorem w_args : argsFit about1.vm theMethod args0 = true := by decide +kernel
set_option maxRecDepth 65536 in
theorem w_heap : heapFits about1 = true := by decide +kernel
set_option maxRecDepth 65536 in
theorem w_runnable : about1.curStatus? = some .runnable := by decide +kernel
set_option maxRecDepth 65536 in
theorem w_alone : about1.alone = true := by decide +kernel
set_option maxRecDepth 65536 in
theorem w_named : about1.methodNamed? x = some theMethod := by decide +kernel
set_option maxRecDepth 65536 in
theorem w_hears : about1.hears theMethod below0 = true := by decide +kernel
set_option maxRecDepth 65536 in
theorem w_ripe : about1.ripe theMethod args0 below0 = true := by decide +kernel
theorem w_running : about1.status = .running := rfl
set_option maxRecDepth 65536 in
theorem w_room : about1.hasRoom e0.platform room_1 = true :=
  launch0.hasRoom_least _ room_1 (by decide +kernel) (by decide +kernel) (by decide +kernel) (by decide +kernel) (by decide +kernel) (by decide +kernel)
theorem allAtoms_all (ts : List Jvm.Cond) (a : Array Jvm.Value) (st : Jvm.State) : (allAtoms ts).before a st = ts.all (fun c => c.before a st) := by
  induction ts with
  | nil => rfl
  | cons c t ih =>
    show (Jvm.Cond.and c (allAtoms t)).before a st = _
    rw [Jvm.Cond.before_and, ih, List.all_cons]
def words1 : List Jvm.Cond := Jvm.Cond.code x code maxLocals ret :: tables_1
/-- a 'code' word, met by the world's own term for the bytes: nothing is compared byte by byte -/
theorem code_word {y : MethodName} {bytes : ByteArray} {mx : Nat} {rt : Option FieldType} {a : Array Value} {s : State} {m : MethodId} {meth : Method} {c : Code} (h1 : s.methodNamed? y = some m) (h2 : s.vm.method? m = some meth) (h3 : meth.code = some c) (h4 : c.code = bytes)
    (h5 : (c.maxLocals == mx && c.exceptionTable.isEmpty && decide (c.maxStack ≤ mostOperands) && decide (meth.sig.returnType = rt) && !meth.locks && decide (parseMethodDescriptor y.desc = some meth.sig)) = true) : (Jvm.Cond.code y bytes mx rt).before a s = true := by
  simp only [Bool.and_eq_true, beq_iff_eq, Bool.not_eq_true', decide_eq_true_eq] at h5
  obtain ⟨⟨⟨⟨⟨g1, g2⟩, g3⟩, g4⟩, g5⟩, g6⟩ := h5
  simp [Cond.before, Cond.holds, Cond.value, h1, h2, h3, h4, g1, g2, g3, g4, g5, g6]
def isCode : Jvm.Cond → Bool
  | .code _ _ _ _ => true
  | _ => false
theorem all_split {L : List Jvm.Cond} {P : Jvm.Cond → Bool} (h1 : L.all (fun c => isCode c || P c) = true) (h2 : ∀ c ∈ L.filter isCode, P c = true) : L.all P = true := by
  refine List.all_eq_true.mpr fun c hc => ?_
  have h := List.all_eq_true.mp h1 c hc
  rcases Bool.eq_false_or_eq_true (isCode c) with hi | hi
  · exact h2 c (List.mem_filter.mpr ⟨hc, hi⟩)
  · simpa [hi] using h
set_option maxRecDepth 65536 in
theorem w_c0 : (Jvm.Cond.code x code maxLocals ret).before args0 about1 = true := code_word (m := ⟨1, 1⟩) (meth := k1m1) (c := k1c1) (by decide +kernel) rfl rfl rfl (by decide +kernel)
set_option maxRecDepth 65536 in
theorem w_c1 : (Jvm.Cond.code ({ cls := "kehai/VenueProfile", name := "ticks", desc := "(Z)Lkehai/TickTable;" } : Jvm.MethodName) prog_62_method_6_code (2 : Nat) (Option.some (Jvm.ClassFile.FieldType.object "kehai/TickTable"))).before args0 about1 = true := code_word (m := ⟨6, 0⟩) (meth := k6m0) (c := k6c0) (by decide +kernel) rfl rfl rfl (by decide +kernel)
def codes1 : List Jvm.Cond := [Jvm.Cond.code x code maxLocals ret, Jvm.Cond.code ({ cls := "kehai/VenueProfile", name := "ticks", desc := "(Z)Lkehai/TickTable;" } : Jvm.MethodName) prog_62_method_6_code (2 : Nat) (Option.some (Jvm.ClassFile.FieldType.object "kehai/TickTable"))]
set_option maxRecDepth 65536 in
theorem codes_eq : words1.filter isCode = codes1 := rfl
theorem w_codes : ∀ c ∈ words1.filter isCode, c.before args0 about1 = true := by
  rw [codes_eq]
  intro c hc
  simp only [codes1, List.mem_cons, List.not_mem_nil, or_false] at hc
  rcases hc with rfl | rfl
  · exact w_c0
  · exact w_c1
set_option maxRecDepth 65536 in
theorem w_t1 : (words1.take 24).all (fun c => isCode c || c.before args0 about1) = true := by decide +kernel
set_option maxRecDepth 65536 in
theorem w_t2 : (words1.drop 24).all (fun c => isCode c || c.before args0 about1) = true := by decide +kernel
theorem w_tables : (allAtoms (Jvm.Cond.code x code maxLocals ret :: tables_1)).before args0 about1 = true := by
  rw [allAtoms_all]
  show words1.all (fun c => c.before args0 about1) = true
  refine all_split ?_ w_codes
  rw [← List.take_append_drop 24 words1, List.all_append, w_t1, w_t2]
  rfl
set_option maxRecDepth 65536 in
theorem w_case : (Jvm.Cond.and given_1 narrow_1).before args0 about1 = true := by decide +kernel
theorem w_applies : (headSpec (Jvm.Cond.code x code maxLocals ret :: tables_1) room_1).applies x e0.platform about1 = true :=
  (Spec.applies_iff w_frames).mpr ⟨w_running, w_runnable, w_alone, w_named, w_hears, w_ripe, w_room, w_tables⟩
theorem atStart : AtStart classFile x code maxLocals ret World_1 tables_1 room_1 Calls_1 rest_1 Pre_1 launch0 p0 e0 about1 theMethod args0 below0 :=
  ⟨lists_1, trivial, launch0.admits_env _ _ _, launch0.least_env, fairChoices_fair.cas, fairChoices_fair.clock, w_frames, w_args, w_heap, w_applies, trivial, trivial, w_case⟩
end start1
theorem witness_1 : WitnessClaimed_1 := ⟨start1.p0, start1.e0, start1.about1, start1.theMethod, start1.args0, start1.below0, start1.atStart⟩
end Jvm.Pilot.@@N@@
