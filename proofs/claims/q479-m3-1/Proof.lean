import JvmDerived
import JvmDerived.Pilot.@@N@@Statement
import JvmDerived.Pilot.@@N@@Code
set_option linter.unusedVariables false
set_option linter.unusedSimpArgs false
namespace Jvm.Pilot.@@N@@
open Jvm Jvm.ClassFile Sem Op Lib Jvm.Free Jvm.Stand Jvm.LawKit Jvm.RoadKit Bundle Jvm.Pilot.@@N@@.Jvm.D
/-! own kit: a walk as a chain of "from here the run ends well" -/
section OwnKit
/-- from T with the frame g on top the run goes on and ends as Q says -/
def Own (p : Program) (e : Env) (below : List Frame) (s : State) (kc ks : Nat) (Q : Option Value → Heap → List Loc → Prop) (T : State) (g : JFrame) : Prop :=
  ∃ s₂ o, Steps p.tables e below (T.setTop g) s₂ ∧ s₂.status = .running ∧ Ended s₂ below o ∧ ∃ v L, o = .returned v ∧ Q v s₂.heap L ∧ FrameEnd s o s₂ L kc ks
variable {p : Program} {l : Launch} {e : Env} {R : Room} {s : State} {m : MethodId} {args : Array Value} {below : List Frame} {meth : Method} {c : Code} {T T' : State} {locs : List Loc} {cells slots kc ks : Nat} {Q : Option Value → Heap → List Loc → Prop}
theorem own_go {g g' : JFrame} (h : ∀ t, Steps p.tables e below (T'.setTop g') t → Steps p.tables e below (T.setTop g) t) (k : Own p e below s kc ks Q T' g') : Own p e below s kc ks Q T g := by
  obtain ⟨s₂, o, h1, r⟩ := k
  exact ⟨s₂, o, h _ h1, r⟩
theorem own_to (T' : State) (g' : JFrame) {g : JFrame} (h : ∀ t, Steps p.tables e below (T'.setTop g') t → Steps p.tables e below (T.setTop g) t) (k : Own p e below s kc ks Q T' g') : Own p e below s kc ks Q T g := own_go h k
theorem own_ret (X : Stand p l e R s m args below meth c T locs cells slots) (hx : p.tables.exec = Jvm.exec) {pc : Nat} {Ls : Array Slot} {w : Value} {t : FieldType} {i : Instr} {rest : List Value} (hret : meth.sig.returnType = some t) (hlk : meth.locks = false) (hn : narrow t w = w)
    (hi : (i = .ireturn ∧ (t = .int ∨ t = .boolean ∨ t = .byte ∨ t = .char ∨ t = .short) ∧ ∃ z, w = .int z) ∨ (i = .lreturn ∧ t = .long ∧ ∃ z, w = .long z) ∨ (i = .dreturn ∧ t = .double ∧ ∃ z, w = .double z) ∨ (i = .freturn ∧ t = .float ∧ ∃ z, w = .float z) ∨ (i = .areturn ∧ t.isReference = true ∧ w.isRef = true))
    (hd : decode c.code pc = .ok (i, 1)) (hc : cells ≤ kc) (hs : slots ≤ ks) (q : Q (some w) T.heap locs) : Own p e below s kc ks Q T (mkF m pc Ls (w :: rest)) := by
  obtain ⟨fs, hr, hrun, hended, hW, hsame⟩ := X.leave (v := some w) (fun h => by rw [hret] at h; cases h) hlk
  exact ⟨_, _, retOut X hx hret hn hi hd hr, hrun, hended, _, locs, rfl, q, ⟨_, rfl⟩, hW, hsame.mono hc hs⟩
theorem own_retI (X : Stand p l e R s m args below meth c T locs cells slots) (hx : p.tables.exec = Jvm.exec) {pc : Nat} {Ls : Array Slot} {z : Int32} {rest : List Value} (hret : meth.sig.returnType = some .int) (hlk : meth.locks = false)
    (hd : decode c.code pc = .ok (.ireturn, 1)) (hc : cells ≤ kc) (hs : slots ≤ ks) (q : Q (some (.int z)) T.heap locs) : Own p e below s kc ks Q T (mkF m pc Ls (.int z :: rest)) :=
  own_ret X hx hret hlk rfl (Or.inl ⟨rfl, Or.inl rfl, _, rfl⟩) hd hc hs q
theorem own_retZ (X : Stand p l e R s m args below meth c T locs cells slots) (hx : p.tables.exec = Jvm.exec) {pc : Nat} {Ls : Array Slot} {z : Int32} {rest : List Value} (hret : meth.sig.returnType = some .boolean) (hlk : meth.locks = false)
    (hd : decode c.code pc = .ok (.ireturn, 1)) (hc : cells ≤ kc) (hs : slots ≤ ks) (hz : z = 0 ∨ z = 1) (q : Q (some (.int z)) T.heap locs) : Own p e below s kc ks Q T (mkF m pc Ls (.int z :: rest)) :=
  own_ret X hx hret hlk (by rcases hz with rfl | rfl <;> rfl) (Or.inl ⟨rfl, Or.inr (Or.inl rfl), _, rfl⟩) hd hc hs q
theorem own_retC (X : Stand p l e R s m args below meth c T locs cells slots) (hx : p.tables.exec = Jvm.exec) {pc : Nat} {Ls : Array Slot} {z : Int32} {rest : List Value} (hret : meth.sig.returnType = some .char) (hlk : meth.locks = false)
    (hd : decode c.code pc = .ok (.ireturn, 1)) (hc : cells ≤ kc) (hs : slots ≤ ks) (hz : z.toUInt32.toUInt16.toUInt32.toInt32 = z) (q : Q (some (.int z)) T.heap locs) : Own p e below s kc ks Q T (mkF m pc Ls (.int z :: rest)) :=
  own_ret X hx hret hlk (congrArg Value.int hz) (Or.inl ⟨rfl, Or.inr (Or.inr (Or.inr (Or.inl rfl))), _, rfl⟩) hd hc hs q
theorem own_retJ (X : Stand p l e R s m args below meth c T locs cells slots) (hx : p.tables.exec = Jvm.exec) {pc : Nat} {Ls : Array Slot} {z : Int64} {rest : List Value} (hret : meth.sig.returnType = some .long) (hlk : meth.locks = false)
    (hd : decode c.code pc = .ok (.lreturn, 1)) (hc : cells ≤ kc) (hs : slots ≤ ks) (q : Q (some (.long z)) T.heap locs) : Own p e below s kc ks Q T (mkF m pc Ls (.long z :: rest)) :=
  own_ret X hx hret hlk rfl (Or.inr (Or.inl ⟨rfl, rfl, _, rfl⟩)) hd hc hs q
theorem own_retD (X : Stand p l e R s m args below meth c T locs cells slots) (hx : p.tables.exec = Jvm.exec) {pc : Nat} {Ls : Array Slot} {z : UInt64} {rest : List Value} (hret : meth.sig.returnType = some .double) (hlk : meth.locks = false)
    (hd : decode c.code pc = .ok (.dreturn, 1)) (hc : cells ≤ kc) (hs : slots ≤ ks) (q : Q (some (.double z)) T.heap locs) : Own p e below s kc ks Q T (mkF m pc Ls (.double z :: rest)) :=
  own_ret X hx hret hlk rfl (Or.inr (Or.inr (Or.inl ⟨rfl, rfl, _, rfl⟩))) hd hc hs q
theorem own_retA (X : Stand p l e R s m args below meth c T locs cells slots) (hx : p.tables.exec = Jvm.exec) {pc : Nat} {Ls : Array Slot} {w : Value} {t : FieldType} {rest : List Value} (hret : meth.sig.returnType = some t) (hlk : meth.locks = false)
    (ht : t.isReference = true) (hw : w.isRef = true) (hd : decode c.code pc = .ok (.areturn, 1)) (hc : cells ≤ kc) (hs : slots ≤ ks) (q : Q (some w) T.heap locs) : Own p e below s kc ks Q T (mkF m pc Ls (w :: rest)) :=
  own_ret X hx hret hlk (by cases t <;> cases w <;> first | rfl | (cases ht; done) | (cases hw; done)) (Or.inr (Or.inr (Or.inr (Or.inr ⟨rfl, ht, hw⟩)))) hd hc hs q
theorem own_retV (X : Stand p l e R s m args below meth c T locs cells slots) (hx : p.tables.exec = Jvm.exec) {pc : Nat} {Ls : Array Slot} (hret : meth.sig.returnType = none) (hlk : meth.locks = false)
    (hd : decode c.code pc = .ok (.return_, 1)) (hc : cells ≤ kc) (hs : slots ≤ ks) (q : Q none T.heap locs) : Own p e below s kc ks Q T (mkF m pc Ls []) := by
  obtain ⟨fs, hr, hrun, hended, hW, hsame⟩ := X.leave (v := none) (fun _ => rfl) hlk
  exact ⟨_, _, X.returnOut hx hret hd hr, hrun, hended, _, locs, rfl, q, ⟨_, rfl⟩, hW, hsame.mono hc hs⟩
/-- a body's contract out of its walk -/
theorem own_met {Z : State} {h0 : Heap} {y : MethodName} {bytes : ByteArray} {ml : Nat} {ret : Option FieldType} {ws : List Jvm.Cond} {rm : Room} {as' : Array Value} (hp : plainFor y = true)
    (body : ∀ (p : Program) (e : Env) (s : State) (m : MethodId) (below : List Frame) (meth : Method) (c : Code) (s₁ : State), Stand p l e rm s m as' below meth c s₁ [] 0 0 → p.tables.exec = Jvm.exec → c.code = bytes → c.maxLocals = ml → meth.sig.returnType = ret → meth.locks = false →
      s.vm.findClass y.cls = some m.cls → meth.name = y.name → Z.Warmed39 s.vm → s₁.heap = h0 → Own p e below s rm.cells rm.slots Q s₁ (entryFrame m as' ml)) :
    MetFree l y (head1 (Jvm.Cond.code y bytes ml ret :: ws) rm) (fun a U => a = as' ∧ Z.Warmed39 U.vm ∧ U.heap = h0) (fun _ _ _ _ _ => True) (fun _ U o U' => ∃ v L, o = .returned v ∧ Q v U'.heap L ∧ FrameEnd U o U' L rm.cells rm.slots) := by
  refine MetFree.of_bodySF hp hisR ?_
  intro p e s m args below meth c s₁ Bd hml0 hP hK
  obtain ⟨rfl, hZ, hh⟩ := hP
  exact body p e s m below meth c s₁ (Stand.of_body Bd) Bd.exec Bd.bytes hml0 Bd.returns Bd.notSynchronized (findClass_of_methodNamed Bd.named) (name_of_methodNamed Bd.named Bd.method).1 hZ (by rw [← hh, Bd.state]; rfl)
theorem own_entry {g g' : JFrame} (q : g = g') (k : Own p e below s kc ks Q T g') : Own p e below s kc ks Q T g := q ▸ k
theorem own_mvMN {Z s : State} {a0 args : Array Value} {own host : String} {index : Nat} {y : MethodName} (hZ : Z.Warmed39 s.vm) (w : (Jvm.Cond.methodLinkNest own index y host).before a0 Z = true) : (Jvm.Cond.methodLinkNest own index y host).before args s = true := (Jvm.Cond.methodLinkNest_wide hZ w :)
theorem own_w {Z : State} {a0 : Array Value} (hw : ∀ d ∈ tables_1, d.before a0 Z = true) (i : Nat) {d : Jvm.Cond} (h : tables_1[i]? = some d) : d.before a0 Z = true := hw _ (List.mem_of_getElem? h)
end OwnKit
def own_min (x y : Int64) : Int64 := if y < x then y else x
def own_max (x y : Int64) : Int64 := if x < y then y else x
def own_in (x lo hi : Int64) : Int32 := if x < lo ∨ hi < x then 0 else 1
def own_ule (x y : Int64) : Int32 := if (y + (-9223372036854775808 : Int64)) < (x + (-9223372036854775808 : Int64)) then 0 else 1
theorem own_in01 (x lo hi : Int64) : own_in x lo hi = 0 ∨ own_in x lo hi = 1 := by unfold own_in; split <;> simp
theorem own_ule01 (x y : Int64) : own_ule x y = 0 ∨ own_ule x y = 1 := by unfold own_ule; split <;> simp
theorem own_same (a b x : Int64) : own_in x (own_min a b) (own_max a b) = own_ule (x - own_min a b) (own_max a b - own_min a b) := by
  have hle : (own_min a b).toInt ≤ (own_max a b).toInt := by
    unfold own_min own_max
    by_cases h1 : b < a
    · have h2 : ¬ a < b := by rw [Int64.lt_iff_toInt_lt] at *; omega
      rw [if_pos h1, if_neg h2]; rw [Int64.lt_iff_toInt_lt] at h1; omega
    · rw [if_neg h1]; split
      · rename_i h; rw [Int64.lt_iff_toInt_lt] at h; omega
      · omega
  generalize own_min a b = lo at *
  generalize own_max a b = hi at *
  unfold own_in own_ule
  have r1 := rng64 x
  have r2 := rng64 lo
  have r3 := rng64 hi
  have m : (-9223372036854775808 : Int64).toInt = -9223372036854775808 := by decide
  have s1 := c_lsub x lo
  have s2 := c_lsub hi lo
  have s3 := c_ladd (hi - lo) (-9223372036854775808 : Int64)
  have s4 := c_ladd (x - lo) (-9223372036854775808 : Int64)
  have r4 := rng64 (x - lo)
  have r5 := rng64 (hi - lo)
  have r6 := rng64 (hi - lo + (-9223372036854775808 : Int64))
  have r7 := rng64 (x - lo + (-9223372036854775808 : Int64))
  rw [m] at s3 s4
  have key : (x < lo ∨ hi < x) ↔ (hi - lo + (-9223372036854775808 : Int64)) < (x - lo + (-9223372036854775808 : Int64)) := by
    rw [Int64.lt_iff_toInt_lt, Int64.lt_iff_toInt_lt, Int64.lt_iff_toInt_lt]
    generalize (hi - lo + (-9223372036854775808 : Int64)).toInt = A at *
    generalize (x - lo + (-9223372036854775808 : Int64)).toInt = B at *
    generalize (hi - lo).toInt = D at *
    generalize (x - lo).toInt = E at *
    omega
  by_cases h : x < lo ∨ hi < x
  · rw [if_pos h, if_pos (key.mp h)]
  · rw [if_neg h, if_neg (fun q => h (key.mpr q))]
theorem d1_0 : decode jdk_29_method_70_code 0 = .ok (.lload_n 0, 1) := by decide +kernel
theorem d1_1 : decode jdk_29_method_70_code 1 = .ok (.lload_n 2, 1) := by decide +kernel
theorem d1_2 : decode jdk_29_method_70_code 2 = .ok (.lcmp, 1) := by decide +kernel
theorem d1_3 : decode jdk_29_method_70_code 3 = .ok (.ifCond .gt 7, 3) := by decide +kernel
theorem d1_6 : decode jdk_29_method_70_code 6 = .ok (.lload_n 0, 1) := by decide +kernel
theorem d1_7 : decode jdk_29_method_70_code 7 = .ok (.goto 4, 3) := by decide +kernel
theorem d1_10 : decode jdk_29_method_70_code 10 = .ok (.lload_n 2, 1) := by decide +kernel
theorem d1_11 : decode jdk_29_method_70_code 11 = .ok (.lreturn, 1) := by decide +kernel
theorem ef_1_JJ (m : MethodId) (x0 : Int64) (x1 : Int64) : entryFrame m #[(.long x0), (.long x1)] 4 = mkF m 0 #[.val (.long x0), .second, .val (.long x1), .second] [] := by first | (simp [entryFrame, mkF, argsToLocals, Value.category]; done) | rfl
def Q_rm1 (Z : State) (q0 q1 : Int64) (h0 : Heap) (n0 : Nat) (v : Option Value) (h : Heap) (L : List Loc) : Prop := v = some (.long (own_min q0 q1)) ∧ Fr n0 L ∧ h = h0
set_option maxRecDepth 65536 in
set_option maxHeartbeats 40000000 in
theorem rm1 (l : Launch) (Z : State) (a0 : Array Value) (hw : ∀ d ∈ tables_1, d.before a0 Z = true) (ws : List Jvm.Cond) (q0 q1 : Int64) (h0 : Heap) (n0 : Nat) (Z0 : n0 ≤ h0.size)  :
    MetFree l (⟨"java/lang/Math", "min", "(JJ)J"⟩ : MethodName) (head1 (Jvm.Cond.code (⟨"java/lang/Math", "min", "(JJ)J"⟩ : MethodName) jdk_29_method_70_code 4 (some .long) :: ws) ({ frames := 0, cells := 0, slots := 0, locals := 0 } : Room)) (fun a U => a = #[(.long q0), (.long q1)] ∧ Z.Warmed39 U.vm ∧ U.heap = h0) (fun _ _ _ _ _ => True) (fun _ U o U' => ∃ v L, o = .returned v ∧ Q_rm1 Z q0 q1 h0 n0 v U'.heap L ∧ FrameEnd U o U' L ({ frames := 0, cells := 0, slots := 0, locals := 0 } : Room).cells ({ frames := 0, cells := 0, slots := 0, locals := 0 } : Room).slots) := by
  refine own_met (y := (⟨"java/lang/Math", "min", "(JJ)J"⟩ : MethodName)) (Q := (Q_rm1 Z q0 q1 h0 n0)) (Jvm.Free.JP.mathPlain rfl (by decide +kernel)) fun p e s m below meth c s₁ X0 hx hby hml hret hlk hown hnm hZ e0 => ?_
  refine own_entry (ef_1_JJ m q0 q1) ?_
  refine own_to s₁ (mkF m 3 #[.val (.long q0), .second, .val (.long q1), .second] [(.int (lcmpW q0 q1))]) (fun t k => XS.lloadN X0.here hx rfl (hb hby d1_0) rfl (XS.lloadN X0.here hx rfl (hb hby d1_1) rfl (XS.lcmp X0.here hx rfl (hb hby d1_2) rfl k))) ?_
  by_cases c3 : q1 < q0
  · skip
    refine own_to s₁ (mkF m 11 #[.val (.long q0), .second, .val (.long q1), .second] [(.long q1)]) (fun t k => XS.ifYes X0.here hx rfl (pc0 := 3) (pc' := 10) rfl (hb hby d1_3) rfl ((if0 _ _).trans (tlt ((lw_gt q0 q1).mpr c3)).2.2.1) (by decide) (by decide) (XS.lloadN X0.here hx rfl (hb hby d1_10) rfl k)) ?_
    exact own_retJ X0 hx hret hlk (hb hby d1_11) (by decide) (by decide) ⟨congrArg (fun z => some (Value.long z)) (show own_min q0 q1 = q1 from if_pos c3).symm, (Fr.nil n0), e0⟩
  · skip
    refine own_to s₁ (mkF m 11 #[.val (.long q0), .second, .val (.long q1), .second] [(.long q0)]) (fun t k => XS.ifNo X0.here hx rfl (hb hby d1_3) rfl ((if0 _ _).trans (flt (mt (lw_gt q0 q1).mp c3)).2.2.1) (XS.lloadN X0.here hx rfl (hb hby d1_6) rfl (XS.goto X0.here hx rfl (pc0 := 7) (pc' := 11) rfl (hb hby d1_7) (by decide) (by decide) k))) ?_
    exact own_retJ X0 hx hret hlk (hb hby d1_11) (by decide) (by decide) ⟨congrArg (fun z => some (Value.long z)) (show own_min q0 q1 = q0 from if_neg c3).symm, (Fr.nil n0), e0⟩
theorem d2_0 : decode jdk_29_method_66_code 0 = .ok (.lload_n 0, 1) := by decide +kernel
theorem d2_1 : decode jdk_29_method_66_code 1 = .ok (.lload_n 2, 1) := by decide +kernel
theorem d2_2 : decode jdk_29_method_66_code 2 = .ok (.lcmp, 1) := by decide +kernel
theorem d2_3 : decode jdk_29_method_66_code 3 = .ok (.ifCond .lt 7, 3) := by decide +kernel
theorem d2_6 : decode jdk_29_method_66_code 6 = .ok (.lload_n 0, 1) := by decide +kernel
theorem d2_7 : decode jdk_29_method_66_code 7 = .ok (.goto 4, 3) := by decide +kernel
theorem d2_10 : decode jdk_29_method_66_code 10 = .ok (.lload_n 2, 1) := by decide +kernel
theorem d2_11 : decode jdk_29_method_66_code 11 = .ok (.lreturn, 1) := by decide +kernel
theorem ef_2_JJ (m : MethodId) (x0 : Int64) (x1 : Int64) : entryFrame m #[(.long x0), (.long x1)] 4 = mkF m 0 #[.val (.long x0), .second, .val (.long x1), .second] [] := by first | (simp [entryFrame, mkF, argsToLocals, Value.category]; done) | rfl
def Q_rm2 (Z : State) (q0 q1 : Int64) (h0 : Heap) (n0 : Nat) (v : Option Value) (h : Heap) (L : List Loc) : Prop := v = some (.long (own_max q0 q1)) ∧ Fr n0 L ∧ h = h0
set_option maxRecDepth 65536 in
set_option maxHeartbeats 40000000 in
theorem rm2 (l : Launch) (Z : State) (a0 : Array Value) (hw : ∀ d ∈ tables_1, d.before a0 Z = true) (ws : List Jvm.Cond) (q0 q1 : Int64) (h0 : Heap) (n0 : Nat) (Z0 : n0 ≤ h0.size)  :
    MetFree l (⟨"java/lang/Math", "max", "(JJ)J"⟩ : MethodName) (head1 (Jvm.Cond.code (⟨"java/lang/Math", "max", "(JJ)J"⟩ : MethodName) jdk_29_method_66_code 4 (some .long) :: ws) ({ frames := 0, cells := 0, slots := 0, locals := 0 } : Room)) (fun a U => a = #[(.long q0), (.long q1)] ∧ Z.Warmed39 U.vm ∧ U.heap = h0) (fun _ _ _ _ _ => True) (fun _ U o U' => ∃ v L, o = .returned v ∧ Q_rm2 Z q0 q1 h0 n0 v U'.heap L ∧ FrameEnd U o U' L ({ frames := 0, cells := 0, slots := 0, locals := 0 } : Room).cells ({ frames := 0, cells := 0, slots := 0, locals := 0 } : Room).slots) := by
  refine own_met (y := (⟨"java/lang/Math", "max", "(JJ)J"⟩ : MethodName)) (Q := (Q_rm2 Z q0 q1 h0 n0)) (Jvm.Free.JP.mathPlain rfl (by decide +kernel)) fun p e s m below meth c s₁ X0 hx hby hml hret hlk hown hnm hZ e0 => ?_
  refine own_entry (ef_2_JJ m q0 q1) ?_
  refine own_to s₁ (mkF m 3 #[.val (.long q0), .second, .val (.long q1), .second] [(.int (lcmpW q0 q1))]) (fun t k => XS.lloadN X0.here hx rfl (hb hby d2_0) rfl (XS.lloadN X0.here hx rfl (hb hby d2_1) rfl (XS.lcmp X0.here hx rfl (hb hby d2_2) rfl k))) ?_
  by_cases c3 : q0 < q1
  · skip
    refine own_to s₁ (mkF m 11 #[.val (.long q0), .second, .val (.long q1), .second] [(.long q1)]) (fun t k => XS.ifYes X0.here hx rfl (pc0 := 3) (pc' := 10) rfl (hb hby d2_3) rfl ((if0 _ _).trans (tlt ((lw_lt q0 q1).mpr c3)).1) (by decide) (by decide) (XS.lloadN X0.here hx rfl (hb hby d2_10) rfl k)) ?_
    exact own_retJ X0 hx hret hlk (hb hby d2_11) (by decide) (by decide) ⟨congrArg (fun z => some (Value.long z)) (show own_max q0 q1 = q1 from if_pos c3).symm, (Fr.nil n0), e0⟩
  · skip
    refine own_to s₁ (mkF m 11 #[.val (.long q0), .second, .val (.long q1), .second] [(.long q0)]) (fun t k => XS.ifNo X0.here hx rfl (hb hby d2_3) rfl ((if0 _ _).trans (flt (mt (lw_lt q0 q1).mp c3)).1) (XS.lloadN X0.here hx rfl (hb hby d2_6) rfl (XS.goto X0.here hx rfl (pc0 := 7) (pc' := 11) rfl (hb hby d2_7) (by decide) (by decide) k))) ?_
    exact own_retJ X0 hx hret hlk (hb hby d2_11) (by decide) (by decide) ⟨congrArg (fun z => some (Value.long z)) (show own_max q0 q1 = q0 from if_neg c3).symm, (Fr.nil n0), e0⟩
theorem d3_0 : decode prog_29_method_1_code 0 = .ok (.aload_n 0, 1) := by decide +kernel
theorem d3_1 : decode prog_29_method_1_code 1 = .ok (.invokespecial 1, 3) := by decide +kernel
theorem d3_4 : decode prog_29_method_1_code 4 = .ok (.aload_n 0, 1) := by decide +kernel
theorem d3_5 : decode prog_29_method_1_code 5 = .ok (.lload_n 1, 1) := by decide +kernel
theorem d3_6 : decode prog_29_method_1_code 6 = .ok (.putfield 7, 3) := by decide +kernel
theorem d3_9 : decode prog_29_method_1_code 9 = .ok (.aload_n 0, 1) := by decide +kernel
theorem d3_10 : decode prog_29_method_1_code 10 = .ok (.lload_n 3, 1) := by decide +kernel
theorem d3_11 : decode prog_29_method_1_code 11 = .ok (.putfield 13, 3) := by decide +kernel
theorem d3_14 : decode prog_29_method_1_code 14 = .ok (.return_, 1) := by decide +kernel
theorem pn_3 : plainName "com/example/tidemark/tidemark/model/WholeRange" = true := by first | (simp [plainName, overriddenIn]; done) | decide +kernel
theorem ef_3_RJJ (m : MethodId) (x0 : Addr) (x1 : Int64) (x2 : Int64) : entryFrame m #[(.ref x0), (.long x1), (.long x2)] 5 = mkF m 0 #[.val (.ref x0), .val (.long x1), .second, .val (.long x2), .second] [] := by first | (simp [entryFrame, mkF, argsToLocals, Value.category]; done) | rfl
def Q_rm3 (Z : State) (a1 : Addr) (q0 q1 : Int64) (h0 : Heap) (n0 : Nat) (v : Option Value) (h : Heap) (L : List Loc) : Prop := v = none ∧ Fr n0 L ∧ Keep h0 h [a1] ∧ Exa Z h a1 "com/example/tidemark/tidemark/model/WholeRange" ∧ Fld Z h a1 "com/example/tidemark/tidemark/model/WholeRange" "min" "J" (.long q0) ∧ Fld Z h a1 "com/example/tidemark/tidemark/model/WholeRange" "max" "J" (.long q1)
theorem sn_max_min {Z : State} {a0 : Array Value} (hw : ∀ d ∈ tables_1, d.before a0 Z = true) : Jvm.RoadKit.slotOf Z "com/example/tidemark/tidemark/model/WholeRange" "max" "J" ≠ Jvm.RoadKit.slotOf Z "com/example/tidemark/tidemark/model/WholeRange" "min" "J" := Jvm.RoadKit.slot_ne (a0 := a0) (Or.inr (own_w hw 19 rfl)) (Or.inr (own_w hw 17 rfl)) (by decide) (t := .long) (t' := .long) (by decide) (by decide)
theorem sn_min_max {Z : State} {a0 : Array Value} (hw : ∀ d ∈ tables_1, d.before a0 Z = true) : Jvm.RoadKit.slotOf Z "com/example/tidemark/tidemark/model/WholeRange" "min" "J" ≠ Jvm.RoadKit.slotOf Z "com/example/tidemark/tidemark/model/WholeRange" "max" "J" := Jvm.RoadKit.slot_ne (a0 := a0) (Or.inr (own_w hw 17 rfl)) (Or.inr (own_w hw 19 rfl)) (by decide) (t := .long) (t' := .long) (by decide) (by decide)
set_option maxRecDepth 65536 in
set_option maxHeartbeats 40000000 in
theorem rm3 (l : Launch) (Z : State) (a0 : Array Value) (hw : ∀ d ∈ tables_1, d.before a0 Z = true) (ws : List Jvm.Cond) (a1 : Addr) (q0 q1 : Int64) (h0 : Heap) (n0 : Nat) (Z0 : n0 ≤ h0.size) (E1 : Exa Z h0 a1 "com/example/tidemark/tidemark/model/WholeRange") (F1 : Fld Z h0 a1 "com/example/tidemark/tidemark/model/WholeRange" "min" "J" (.long (0 : Int64))) (F2 : Fld Z h0 a1 "com/example/tidemark/tidemark/model/WholeRange" "max" "J" (.long (0 : Int64))) (g_a1 : n0 ≤ a1) :
    MetFree l (⟨"com/example/tidemark/tidemark/model/WholeRange", "<init>", "(JJ)V"⟩ : MethodName) (head1 (Jvm.Cond.code (⟨"com/example/tidemark/tidemark/model/WholeRange", "<init>", "(JJ)V"⟩ : MethodName) prog_29_method_1_code 5 none :: ws) ({ frames := 1, cells := 0, slots := 0, locals := 12 } : Room)) (fun a U => a = #[(.ref a1), (.long q0), (.long q1)] ∧ Z.Warmed39 U.vm ∧ U.heap = h0) (fun _ _ _ _ _ => True) (fun _ U o U' => ∃ v L, o = .returned v ∧ Q_rm3 Z a1 q0 q1 h0 n0 v U'.heap L ∧ FrameEnd U o U' L ({ frames := 1, cells := 0, slots := 0, locals := 12 } : Room).cells ({ frames := 1, cells := 0, slots := 0, locals := 12 } : Room).slots) := by
  refine own_met (y := (⟨"com/example/tidemark/tidemark/model/WholeRange", "<init>", "(JJ)V"⟩ : MethodName)) (Q := (Q_rm3 Z a1 q0 q1 h0 n0)) (plainFor_of_name pn_3) fun p e s m below meth c s₁ X0 hx hby hml hret hlk hown hnm hZ e0 => ?_
  refine own_entry (ef_3_RJJ m a1 q0 q1) ?_
  have K0 := Keep.refl h0 [a1]
  refine own_to s₁ (mkF m 1 #[.val (.ref a1), .val (.long q0), .second, .val (.long q1), .second] [(.ref a1)]) (fun t k => XS.aloadN X0.here hx rfl (hb hby d3_0) rfl rfl k) ?_
  obtain ⟨T1, X1, e1, st1⟩ := initO X0 hx hZ hown (own_w hw 13 rfl) (own_w hw 14 rfl) (own_w hw 15 rfl) e0 (g := (mkF m 1 #[.val (.ref a1), .val (.long q0), .second, .val (.long q1), .second] [(.ref a1)])) rfl (by rw [hml]; rfl) rfl (hb hby d3_1) (by decide) (W := 0) (by show 2 * 0 + _ ≤ _; exact Nat.le_of_eq rfl) (by decide)
  refine own_to T1 (mkF m 6 #[.val (.ref a1), .val (.long q0), .second, .val (.long q1), .second] [(.long q0), (.ref a1)]) (fun t k => st1 _ (XS.aloadN X1.here hx rfl (hb hby d3_4) rfl rfl (XS.lloadN X1.here hx rfl (hb hby d3_5) rfl k))) ?_
  obtain ⟨T2, h2, X2, e2, W2, st2⟩ := putF X1 hx hZ hown (host := "") (Or.inl (own_w hw 16 rfl)) Via.refl e1 F1 E1 (Or.inr ⟨(own_w hw 17 rfl), rfl, hnm⟩) (own_w hw 8 rfl) (ty := .long) (by decide) rfl rfl (g := (mkF m 6 #[.val (.ref a1), .val (.long q0), .second, .val (.long q1), .second] [(.long q0), (.ref a1)])) rfl rfl (hb hby d3_6)
  have f3 := E1.wr W2
  have f4 := F2.other W2 (Or.inr (sn_max_min hw))
  have f5 := F1.same W2
  have N2 := Fr.snoc X2 (Fr.nil n0) g_a1
  have Zs2 : n0 ≤ h2.size := by rw [W2.size]; exact Z0
  have K2 := K0.wr W2 (Or.inl (List.mem_of_getElem? (i := 0) rfl))
  refine own_to T2 (mkF m 11 #[.val (.ref a1), .val (.long q0), .second, .val (.long q1), .second] [(.long q1), (.ref a1)]) (fun t k => st2 _ (XS.aloadN X2.here hx rfl (hb hby d3_9) rfl rfl (XS.lloadN X2.here hx rfl (hb hby d3_10) rfl k))) ?_
  obtain ⟨T6, h6, X6, e6, W6, st6⟩ := putF X2 hx hZ hown (host := "") (Or.inl (own_w hw 18 rfl)) Via.refl e2 f4 f3 (Or.inr ⟨(own_w hw 19 rfl), rfl, hnm⟩) (own_w hw 8 rfl) (ty := .long) (by decide) rfl rfl (g := (mkF m 11 #[.val (.ref a1), .val (.long q0), .second, .val (.long q1), .second] [(.long q1), (.ref a1)])) rfl rfl (hb hby d3_11)
  have f7 := f3.wr W6
  have f8 := f5.other W6 (Or.inr (sn_min_max hw))
  have f9 := f4.same W6
  have N6 := Fr.snoc X6 N2 g_a1
  have Zs6 : n0 ≤ h6.size := by rw [W6.size]; exact Zs2
  have K6 := K2.wr W6 (Or.inl (List.mem_of_getElem? (i := 0) rfl))
  refine own_to T6 (mkF m 14 #[.val (.ref a1), .val (.long q0), .second, .val (.long q1), .second] []) (fun t k => st6 _ k) ?_
  exact own_retV X6 hx hret hlk (hb hby d3_14) (by decide) (by decide) (by rw [e6]; exact ⟨rfl, N6, K6, f7, f8, f9⟩)
theorem d5_0 : decode prog_29_method_4_code 0 = .ok (.lload_n 1, 1) := by decide +kernel
theorem d5_1 : decode prog_29_method_4_code 1 = .ok (.aload_n 0, 1) := by decide +kernel
theorem d5_2 : decode prog_29_method_4_code 2 = .ok (.getfield 7, 3) := by decide +kernel
theorem d5_5 : decode prog_29_method_4_code 5 = .ok (.lcmp, 1) := by decide +kernel
theorem d5_6 : decode prog_29_method_4_code 6 = .ok (.ifCond .lt 16, 3) := by decide +kernel
theorem d5_9 : decode prog_29_method_4_code 9 = .ok (.lload_n 1, 1) := by decide +kernel
theorem d5_10 : decode prog_29_method_4_code 10 = .ok (.aload_n 0, 1) := by decide +kernel
theorem d5_11 : decode prog_29_method_4_code 11 = .ok (.getfield 13, 3) := by decide +kernel
theorem d5_14 : decode prog_29_method_4_code 14 = .ok (.lcmp, 1) := by decide +kernel
theorem d5_15 : decode prog_29_method_4_code 15 = .ok (.ifCond .gt 7, 3) := by decide +kernel
theorem d5_18 : decode prog_29_method_4_code 18 = .ok (.iconst 1, 1) := by decide +kernel
theorem d5_19 : decode prog_29_method_4_code 19 = .ok (.goto 4, 3) := by decide +kernel
theorem d5_22 : decode prog_29_method_4_code 22 = .ok (.iconst 0, 1) := by decide +kernel
theorem d5_23 : decode prog_29_method_4_code 23 = .ok (.ireturn, 1) := by decide +kernel
theorem ef_5_RJ (m : MethodId) (x0 : Addr) (x1 : Int64) : entryFrame m #[(.ref x0), (.long x1)] 3 = mkF m 0 #[.val (.ref x0), .val (.long x1), .second] [] := by first | (simp [entryFrame, mkF, argsToLocals, Value.category]; done) | rfl
def Q_rm5 (Z : State) (a1 : Addr) (q0 lo hi : Int64) (h0 : Heap) (n0 : Nat) (v : Option Value) (h : Heap) (L : List Loc) : Prop := v = some (.int (own_in q0 lo hi)) ∧ Fr n0 L ∧ h = h0
set_option maxRecDepth 65536 in
set_option maxHeartbeats 40000000 in
theorem rm5 (l : Launch) (Z : State) (a0 : Array Value) (hw : ∀ d ∈ tables_1, d.before a0 Z = true) (ws : List Jvm.Cond) (a1 : Addr) (q0 lo hi : Int64) (h0 : Heap) (n0 : Nat) (Z0 : n0 ≤ h0.size) (F1 : Fld Z h0 a1 "com/example/tidemark/tidemark/model/WholeRange" "min" "J" (.long lo)) (F2 : Fld Z h0 a1 "com/example/tidemark/tidemark/model/WholeRange" "max" "J" (.long hi)) :
    MetFree l (⟨"com/example/tidemark/tidemark/model/WholeRange", "contains", "(J)Z"⟩ : MethodName) (head1 (Jvm.Cond.code (⟨"com/example/tidemark/tidemark/model/WholeRange", "contains", "(J)Z"⟩ : MethodName) prog_29_method_4_code 3 (some .boolean) :: ws) ({ frames := 0, cells := 0, slots := 0, locals := 0 } : Room)) (fun a U => a = #[(.ref a1), (.long q0)] ∧ Z.Warmed39 U.vm ∧ U.heap = h0) (fun _ _ _ _ _ => True) (fun _ U o U' => ∃ v L, o = .returned v ∧ Q_rm5 Z a1 q0 lo hi h0 n0 v U'.heap L ∧ FrameEnd U o U' L ({ frames := 0, cells := 0, slots := 0, locals := 0 } : Room).cells ({ frames := 0, cells := 0, slots := 0, locals := 0 } : Room).slots) := by
  refine own_met (y := (⟨"com/example/tidemark/tidemark/model/WholeRange", "contains", "(J)Z"⟩ : MethodName)) (Q := (Q_rm5 Z a1 q0 lo hi h0 n0)) (plainFor_of_name pn_3) fun p e s m below meth c s₁ X0 hx hby hml hret hlk hown hnm hZ e0 => ?_
  refine own_entry (ef_5_RJ m a1 q0) ?_
  refine own_to s₁ (mkF m 2 #[.val (.ref a1), .val (.long q0), .second] [(.ref a1), (.long q0)]) (fun t k => XS.lloadN X0.here hx rfl (hb hby d5_0) rfl (XS.aloadN X0.here hx rfl (hb hby d5_1) rfl rfl k)) ?_
  obtain ⟨T1, X1, e1, st1⟩ := getF X0 hx hZ hown (host := "") (Or.inl (own_w hw 16 rfl)) Via.refl e0 F1 (g := (mkF m 2 #[.val (.ref a1), .val (.long q0), .second] [(.ref a1), (.long q0)])) rfl rfl (hb hby d5_2)
  refine own_to T1 (mkF m 6 #[.val (.ref a1), .val (.long q0), .second] [(.int (lcmpW q0 lo))]) (fun t k => st1 _ (XS.lcmp X1.here hx rfl (hb hby d5_5) rfl k)) ?_
  by_cases c6 : q0 < lo
  · skip
    refine own_to T1 (mkF m 23 #[.val (.ref a1), .val (.long q0), .second] [(.int (0 : Int32))]) (fun t k => XS.ifYes X1.here hx rfl (pc0 := 6) (pc' := 22) rfl (hb hby d5_6) rfl ((if0 _ _).trans (tlt ((lw_lt q0 lo).mpr c6)).1) (by decide) (by decide) (XS.iconst X1.here hx rfl (hb hby d5_22) k)) ?_
    exact own_retZ X1 hx hret hlk (hb hby d5_23) (by decide) (by decide) (Or.inl rfl) ⟨congrArg (fun z => some (Value.int z)) (show own_in q0 lo hi = (0 : Int32) from if_pos (Or.inl c6)).symm, (Fr.nil n0), e1⟩
  · skip
    refine own_to T1 (mkF m 11 #[.val (.ref a1), .val (.long q0), .second] [(.ref a1), (.long q0)]) (fun t k => XS.ifNo X1.here hx rfl (hb hby d5_6) rfl ((if0 _ _).trans (flt (mt (lw_lt q0 lo).mp c6)).1) (XS.lloadN X1.here hx rfl (hb hby d5_9) rfl (XS.aloadN X1.here hx rfl (hb hby d5_10) rfl rfl k))) ?_
    obtain ⟨T2, X2, e2, st2⟩ := getF X1 hx hZ hown (host := "") (Or.inl (own_w hw 18 rfl)) Via.refl e1 F2 (g := (mkF m 11 #[.val (.ref a1), .val (.long q0), .second] [(.ref a1), (.long q0)])) rfl rfl (hb hby d5_11)
    refine own_to T2 (mkF m 15 #[.val (.ref a1), .val (.long q0), .second] [(.int (lcmpW q0 hi))]) (fun t k => st2 _ (XS.lcmp X2.here hx rfl (hb hby d5_14) rfl k)) ?_
    by_cases c15 : hi < q0
    · skip
      refine own_to T2 (mkF m 23 #[.val (.ref a1), .val (.long q0), .second] [(.int (0 : Int32))]) (fun t k => XS.ifYes X2.here hx rfl (pc0 := 15) (pc' := 22) rfl (hb hby d5_15) rfl ((if0 _ _).trans (tlt ((lw_gt q0 hi).mpr c15)).2.2.1) (by decide) (by decide) (XS.iconst X2.here hx rfl (hb hby d5_22) k)) ?_
      exact own_retZ X2 hx hret hlk (hb hby d5_23) (by decide) (by decide) (Or.inl rfl) ⟨congrArg (fun z => some (Value.int z)) (show own_in q0 lo hi = (0 : Int32) from if_pos (Or.inr c15)).symm, (Fr.nil n0), e2⟩
    · skip
      refine own_to T2 (mkF m 23 #[.val (.ref a1), .val (.long q0), .second] [(.int (1 : Int32))]) (fun t k => XS.ifNo X2.here hx rfl (hb hby d5_15) rfl ((if0 _ _).trans (flt (mt (lw_gt q0 hi).mp c15)).2.2.1) (XS.iconst X2.here hx rfl (hb hby d5_18) (XS.goto X2.here hx rfl (pc0 := 19) (pc' := 23) rfl (hb hby d5_19) (by decide) (by decide) k))) ?_
      exact own_retZ X2 hx hret hlk (hb hby d5_23) (by decide) (by decide) (Or.inr rfl) ⟨congrArg (fun z => some (Value.int z)) (show own_in q0 lo hi = (1 : Int32) from if_neg (fun q => q.elim c6 c15)).symm, (Fr.nil n0), e2⟩
theorem d6_0 : decode method_2_code 0 = .ok (.lload_n 0, 1) := by decide +kernel
theorem d6_1 : decode method_2_code 1 = .ok (.ldc2_w 9, 3) := by decide +kernel
theorem d6_4 : decode method_2_code 4 = .ok (.ladd, 1) := by decide +kernel
theorem d6_5 : decode method_2_code 5 = .ok (.lload_n 2, 1) := by decide +kernel
theorem d6_6 : decode method_2_code 6 = .ok (.ldc2_w 9, 3) := by decide +kernel
theorem d6_9 : decode method_2_code 9 = .ok (.ladd, 1) := by decide +kernel
theorem d6_10 : decode method_2_code 10 = .ok (.lcmp, 1) := by decide +kernel
theorem d6_11 : decode method_2_code 11 = .ok (.ifCond .gt 7, 3) := by decide +kernel
theorem d6_14 : decode method_2_code 14 = .ok (.iconst 1, 1) := by decide +kernel
theorem d6_15 : decode method_2_code 15 = .ok (.goto 4, 3) := by decide +kernel
theorem d6_18 : decode method_2_code 18 = .ok (.iconst 0, 1) := by decide +kernel
theorem d6_19 : decode method_2_code 19 = .ok (.ireturn, 1) := by decide +kernel
theorem pn_6 : plainName "com/example/tidemark/tidemark/model/WholeRangeContainsPinLaw" = true := by first | (simp [plainName, overriddenIn]; done) | decide +kernel
theorem ef_6_JJ (m : MethodId) (x0 : Int64) (x1 : Int64) : entryFrame m #[(.long x0), (.long x1)] 4 = mkF m 0 #[.val (.long x0), .second, .val (.long x1), .second] [] := by first | (simp [entryFrame, mkF, argsToLocals, Value.category]; done) | rfl
def Q_rm6 (Z : State) (q0 q1 : Int64) (h0 : Heap) (n0 : Nat) (v : Option Value) (h : Heap) (L : List Loc) : Prop := v = some (.int (own_ule q0 q1)) ∧ Fr n0 L ∧ h = h0
set_option maxRecDepth 65536 in
set_option maxHeartbeats 40000000 in
theorem rm6 (l : Launch) (Z : State) (a0 : Array Value) (hw : ∀ d ∈ tables_1, d.before a0 Z = true) (ws : List Jvm.Cond) (q0 q1 : Int64) (h0 : Heap) (n0 : Nat) (Z0 : n0 ≤ h0.size)  :
    MetFree l (⟨"com/example/tidemark/tidemark/model/WholeRangeContainsPinLaw", "unsignedLe", "(JJ)Z"⟩ : MethodName) (head1 (Jvm.Cond.code (⟨"com/example/tidemark/tidemark/model/WholeRangeContainsPinLaw", "unsignedLe", "(JJ)Z"⟩ : MethodName) method_2_code 4 (some .boolean) :: ws) ({ frames := 0, cells := 0, slots := 0, locals := 0 } : Room)) (fun a U => a = #[(.long q0), (.long q1)] ∧ Z.Warmed39 U.vm ∧ U.heap = h0) (fun _ _ _ _ _ => True) (fun _ U o U' => ∃ v L, o = .returned v ∧ Q_rm6 Z q0 q1 h0 n0 v U'.heap L ∧ FrameEnd U o U' L ({ frames := 0, cells := 0, slots := 0, locals := 0 } : Room).cells ({ frames := 0, cells := 0, slots := 0, locals := 0 } : Room).slots) := by
  refine own_met (y := (⟨"com/example/tidemark/tidemark/model/WholeRangeContainsPinLaw", "unsignedLe", "(JJ)Z"⟩ : MethodName)) (Q := (Q_rm6 Z q0 q1 h0 n0)) (plainFor_of_name pn_6) fun p e s m below meth c s₁ X0 hx hby hml hret hlk hown hnm hZ e0 => ?_
  refine own_entry (ef_6_JJ m q0 q1) ?_
  refine own_to s₁ (mkF m 11 #[.val (.long q0), .second, .val (.long q1), .second] [(.int (lcmpW (q0 + (-9223372036854775808 : Int64)) (q1 + (-9223372036854775808 : Int64))))]) (fun t k => XS.lloadN X0.here hx rfl (hb hby d6_0) rfl (X0.ldc2Long hx hown (mvT hZ (own_w hw 29 rfl)) (g := (mkF m 1 #[.val (.long q0), .second, .val (.long q1), .second] [(.long q0)])) rfl (hb hby d6_1) _ (XS.ladd X0.here hx rfl (hb hby d6_4) rfl (XS.lloadN X0.here hx rfl (hb hby d6_5) rfl (X0.ldc2Long hx hown (mvT hZ (own_w hw 29 rfl)) (g := (mkF m 6 #[.val (.long q0), .second, .val (.long q1), .second] [(.long q1), (.long (q0 + (-9223372036854775808 : Int64)))])) rfl (hb hby d6_6) _ (XS.ladd X0.here hx rfl (hb hby d6_9) rfl (XS.lcmp X0.here hx rfl (hb hby d6_10) rfl k))))))) ?_
  by_cases c11 : (q1 + (-9223372036854775808 : Int64)) < (q0 + (-9223372036854775808 : Int64))
  · skip
    refine own_to s₁ (mkF m 19 #[.val (.long q0), .second, .val (.long q1), .second] [(.int (0 : Int32))]) (fun t k => XS.ifYes X0.here hx rfl (pc0 := 11) (pc' := 18) rfl (hb hby d6_11) rfl ((if0 _ _).trans (tlt ((lw_gt (q0 + (-9223372036854775808 : Int64)) (q1 + (-9223372036854775808 : Int64))).mpr c11)).2.2.1) (by decide) (by decide) (XS.iconst X0.here hx rfl (hb hby d6_18) k)) ?_
    exact own_retZ X0 hx hret hlk (hb hby d6_19) (by decide) (by decide) (Or.inl rfl) ⟨congrArg (fun z => some (Value.int z)) (show own_ule q0 q1 = (0 : Int32) from if_pos c11).symm, (Fr.nil n0), e0⟩
  · skip
    refine own_to s₁ (mkF m 19 #[.val (.long q0), .second, .val (.long q1), .second] [(.int (1 : Int32))]) (fun t k => XS.ifNo X0.here hx rfl (hb hby d6_11) rfl ((if0 _ _).trans (flt (mt (lw_gt (q0 + (-9223372036854775808 : Int64)) (q1 + (-9223372036854775808 : Int64))).mp c11)).2.2.1) (XS.iconst X0.here hx rfl (hb hby d6_14) (XS.goto X0.here hx rfl (pc0 := 15) (pc' := 19) rfl (hb hby d6_15) (by decide) (by decide) k))) ?_
    exact own_retZ X0 hx hret hlk (hb hby d6_19) (by decide) (by decide) (Or.inr rfl) ⟨congrArg (fun z => some (Value.int z)) (show own_ule q0 q1 = (1 : Int32) from if_neg c11).symm, (Fr.nil n0), e0⟩
theorem ef_0_JJJI (m : MethodId) (x0 : Int64) (x1 : Int64) (x2 : Int64) (x3 : Int32) : entryFrame m #[(.long x0), (.long x1), (.long x2), (.int x3)] maxLocals = mkF m 0 #[.val (.long x0), .second, .val (.long x1), .second, .val (.long x2), .second, .val (.int x3), .unset, .unset, .unset, .unset, .unset, .unset, .unset, .unset, .unset, .unset] [] := by first | (simp [entryFrame, mkF, argsToLocals, Value.category, maxLocals]; done) | rfl
def Q_rm0 (Z : State) (q0 q1 q2 : Int64) (i3 : Int32) (h0 : Heap) (n0 : Nat) (v : Option Value) (h : Heap) (L : List Loc) : Prop := v = some (.int 1) ∧ Fr n0 L
theorem pd_0 : parseMethodDescriptor "(JJ)J" = some ⟨[.long, .long], some .long⟩ := by decide +kernel
theorem pd_1 : parseMethodDescriptor "(JJ)V" = some ⟨[.long, .long], none⟩ := by decide +kernel
theorem pd_3 : parseMethodDescriptor "(J)Z" = some ⟨[.long], some .boolean⟩ := by decide +kernel
theorem pd_4 : parseMethodDescriptor "(JJ)Z" = some ⟨[.long, .long], some .boolean⟩ := by decide +kernel
set_option maxRecDepth 65536 in
set_option maxHeartbeats 40000000 in
theorem rm0 (l : Launch) (Z : State) (a0 : Array Value) (hw : ∀ d ∈ tables_1, d.before a0 Z = true) (ws : List Jvm.Cond) (q0 q1 q2 : Int64) (i3 : Int32) (h0 : Heap) (n0 : Nat) (Z0 : n0 ≤ h0.size)  :
    MetFree l x (head1 (Jvm.Cond.code x code maxLocals ret :: ws) room_1) (fun a U => a = #[(.long q0), (.long q1), (.long q2), (.int i3)] ∧ Z.Warmed39 U.vm ∧ U.heap = h0) (fun _ _ _ _ _ => True) (fun _ U o U' => ∃ v L, o = .returned v ∧ Q_rm0 Z q0 q1 q2 i3 h0 n0 v U'.heap L ∧ FrameEnd U o U' L room_1.cells room_1.slots) := by
  refine own_met (y := x) (Q := (Q_rm0 Z q0 q1 q2 i3 h0 n0)) (plainFor_of_name pn_6) fun p e s m below meth c s₁ X0 hx hby hml hret hlk hown hnm hZ e0 => ?_
  refine own_entry (ef_0_JJJI m q0 q1 q2 i3) ?_
  refine own_to s₁ (mkF m 2 #[.val (.long q0), .second, .val (.long q1), .second, .val (.long q2), .second, .val (.int i3), .unset, .unset, .unset, .unset, .unset, .unset, .unset, .unset, .unset, .unset] [(.long q1), (.long q0)]) (fun t k => XS.lloadN X0.here hx rfl (hb hby at_0) rfl (XS.lloadN X0.here hx rfl (hb hby at_1) rfl k)) ?_
  obtain ⟨_, _, ⟨T1, L1, k1, n1⟩, -, X1, ⟨Lc1, hQ1, l1, y1, z1⟩, st1⟩ := Jvm.LawKit.callS X0 hx (y := (⟨"java/lang/Math", "min", "(JJ)J"⟩ : MethodName)) hown (mvT hZ (own_w hw 0 rfl)) (mvT hZ (own_w hw 1 rfl)) (mvT hZ (own_w hw 2 rfl)) (mvT hZ (own_w hw 3 rfl)) (by decide) (backOf (W := 0) (rm1 l Z a0 hw [] q0 q1 h0 n0 Z0) hZ (own_w hw 3 rfl) (own_w hw 2 rfl) (by decide) (by decide)) (g := (mkF m 2 #[.val (.long q0), .second, .val (.long q1), .second, .val (.long q2), .second, .val (.int i3), .unset, .unset, .unset, .unset, .unset, .unset, .unset, .unset, .unset, .unset] [(.long q1), (.long q0)])) rfl (by rw [hml]; rfl) (argsL := [(.long q0), (.long q1)]) (rest := []) (lenOf pd_0 rfl) rfl (by show 2 * 0 + _ ≤ _; exact Nat.le_of_eq rfl) (hb hby at_2) (fun _ _ => ⟨rfl, e0, (by decide : 0 + 0 ≤ _), (by decide : 0 + 0 ≤ _)⟩)
  dsimp only [Pt.U, Pt.locs, Pt.cells, Pt.slots] at X1 l1 y1 z1 st1 hQ1
  subst l1 y1 z1
  obtain ⟨rfl, N1q, e1⟩ := hQ1
  have N1 := Fr.app (Fr.nil n0) N1q
  refine own_to T1 (mkF m 9 #[.val (.long q0), .second, .val (.long q1), .second, .val (.long q2), .second, .val (.int i3), .val (.long (own_min q0 q1)), .second, .unset, .unset, .unset, .unset, .unset, .unset, .unset, .unset] [(.long q1), (.long q0)]) (fun t k => st1 _ (XS.lstore X1.here hx rfl (hb hby at_5) rfl (l' := #[.val (.long q0), .second, .val (.long q1), .second, .val (.long q2), .second, .val (.int i3), .val (.long (own_min q0 q1)), .second, .unset, .unset, .unset, .unset, .unset, .unset, .unset, .unset]) rfl (XS.lloadN X1.here hx rfl (hb hby at_7) rfl (XS.lloadN X1.here hx rfl (hb hby at_8) rfl k)))) ?_
  obtain ⟨_, _, ⟨T2, L2, k2, n2⟩, -, X2, ⟨Lc2, hQ2, l2, y2, z2⟩, st2⟩ := Jvm.LawKit.callS X1 hx (y := (⟨"java/lang/Math", "max", "(JJ)J"⟩ : MethodName)) hown (mvT hZ (own_w hw 4 rfl)) (mvT hZ (own_w hw 5 rfl)) (mvT hZ (own_w hw 2 rfl)) (mvT hZ (own_w hw 6 rfl)) (by decide) (backOf (W := 0) (rm2 l Z a0 hw [] q0 q1 h0 n0 Z0) hZ (own_w hw 6 rfl) (own_w hw 2 rfl) (by decide) (by decide)) (g := (mkF m 9 #[.val (.long q0), .second, .val (.long q1), .second, .val (.long q2), .second, .val (.int i3), .val (.long (own_min q0 q1)), .second, .unset, .unset, .unset, .unset, .unset, .unset, .unset, .unset] [(.long q1), (.long q0)])) rfl (by rw [hml]; rfl) (argsL := [(.long q0), (.long q1)]) (rest := []) (lenOf pd_0 rfl) rfl (by show 2 * 0 + _ ≤ _; exact Nat.le_of_eq rfl) (hb hby at_9) (fun _ _ => ⟨rfl, e1, (by decide : 0 + 0 ≤ _), (by decide : 0 + 0 ≤ _)⟩)
  dsimp only [Pt.U, Pt.locs, Pt.cells, Pt.slots] at X2 l2 y2 z2 st2 hQ2
  subst l2 y2 z2
  obtain ⟨rfl, N2q, e2⟩ := hQ2
  have N2 := Fr.app N1 N2q
  refine own_to T2 (mkF m 14 #[.val (.long q0), .second, .val (.long q1), .second, .val (.long q2), .second, .val (.int i3), .val (.long (own_min q0 q1)), .second, .val (.long (own_max q0 q1)), .second, .unset, .unset, .unset, .unset, .unset, .unset] []) (fun t k => st2 _ (XS.lstore X2.here hx rfl (hb hby at_12) rfl (l' := #[.val (.long q0), .second, .val (.long q1), .second, .val (.long q2), .second, .val (.int i3), .val (.long (own_min q0 q1)), .second, .val (.long (own_max q0 q1)), .second, .unset, .unset, .unset, .unset, .unset, .unset]) rfl k)) ?_
  have J63 : ∀ (k11 : Int32) (x12 : Int64), Own p e below s room_1.cells room_1.slots (Q_rm0 Z q0 q1 q2 i3 h0 n0) T2 (mkF m 63 #[.val (.long q0), .second, .val (.long q1), .second, .val (.long q2), .second, .val (.int i3), .val (.long (own_min q0 q1)), .second, .val (.long (own_max q0 q1)), .second, .val (.int k11), .val (.long x12), .second, .unset, .unset, .unset] []) := by
    intro k11 x12
    obtain ⟨T3, h3, X3, e3, E3, A3, D3, -, st3⟩ := newO X2 hx hZ hown (own_w hw 7 rfl) (own_w hw 8 rfl) (own_w hw 9 rfl) e2 (g := (mkF m 63 #[.val (.long q0), .second, .val (.long q1), .second, .val (.long q2), .second, .val (.int i3), .val (.long (own_min q0 q1)), .second, .val (.long (own_max q0 q1)), .second, .val (.int k11), .val (.long x12), .second, .unset, .unset, .unset] [])) rfl (hb hby at_63) (by decide) (by decide)
    obtain ⟨b3, g3⟩ : ∃ z, z = h0.size := ⟨_, rfl⟩
    rw [← g3] at A3 D3 st3
    have sz3 : n0 ≤ b3 := Nat.le_trans Z0 (Nat.le_of_eq g3.symm)
    have Zs3 : n0 ≤ h3.size := Nat.le_trans Z0 E3.1
    have F3_min : Fld Z h3 b3 "com/example/tidemark/tidemark/model/WholeRange" "min" "J" (.long (0 : Int64)) := D3 (Or.inr (own_w hw 17 rfl)) (ty := .long) (by decide)
    have F3_max : Fld Z h3 b3 "com/example/tidemark/tidemark/model/WholeRange" "max" "J" (.long (0 : Int64)) := D3 (Or.inr (own_w hw 19 rfl)) (ty := .long) (by decide)
    refine own_to T3 (mkF m 71 #[.val (.long q0), .second, .val (.long q1), .second, .val (.long q2), .second, .val (.int i3), .val (.long (own_min q0 q1)), .second, .val (.long (own_max q0 q1)), .second, .val (.int k11), .val (.long x12), .second, .unset, .unset, .unset] [(.long (own_max q0 q1)), (.long (own_min q0 q1)), (.ref b3), (.ref b3)]) (fun t k => st3 _ (XS.dup X3.here hx rfl (hb hby at_66) rfl rfl (XS.lload X3.here hx rfl (hb hby at_67) rfl (XS.lload X3.here hx rfl (hb hby at_69) rfl k)))) ?_
    obtain ⟨_, _, ⟨T4, L4, k4, n4⟩, -, X4, ⟨Lc4, hQ4, l4, y4, z4⟩, st4⟩ := X3.specialBack hx (y := (⟨"com/example/tidemark/tidemark/model/WholeRange", "<init>", "(JJ)V"⟩ : MethodName)) rfl hown (mvT hZ (own_w hw 10 rfl)) (mvT hZ (own_w hw 11 rfl)) (mvT hZ (own_w hw 12 rfl)) (by decide) (backOf (W := 1) (rm3 l Z a0 hw [] b3 (own_min q0 q1) (own_max q0 q1) h3 n0 Zs3 A3 F3_min F3_max sz3) hZ (own_w hw 12 rfl) (own_w hw 9 rfl) (by decide) (by decide)) (g := (mkF m 71 #[.val (.long q0), .second, .val (.long q1), .second, .val (.long q2), .second, .val (.int i3), .val (.long (own_min q0 q1)), .second, .val (.long (own_max q0 q1)), .second, .val (.int k11), .val (.long x12), .second, .unset, .unset, .unset] [(.long (own_max q0 q1)), (.long (own_min q0 q1)), (.ref b3), (.ref b3)])) rfl (by rw [hml]; rfl) (Steps.refl _) (a := b3) (argsL := [(.long (own_min q0 q1)), (.long (own_max q0 q1))]) (rest := [(.ref b3)]) (lenOf pd_1 rfl) rfl (by show 2 * 0 + _ ≤ _; exact Nat.le_of_eq rfl) (hb hby at_71) (fun _ _ => ⟨rfl, e3, (by decide : 1 + 0 ≤ _), (by decide : 2 + 0 ≤ _)⟩)
    dsimp only [Pt.U, Pt.locs, Pt.cells, Pt.slots] at X4 l4 y4 z4 st4 hQ4
    subst l4 y4 z4
    obtain ⟨rfl, N4q, K4q, E4q, F4a, F4b⟩ := hQ4
    have N4 := Fr.app N2 N4q
    have Zs4 : n0 ≤ T4.heap.size := Nat.le_trans Zs3 K4q.1
    refine own_to T4 (mkF m 80 #[.val (.long q0), .second, .val (.long q1), .second, .val (.long q2), .second, .val (.int i3), .val (.long (own_min q0 q1)), .second, .val (.long (own_max q0 q1)), .second, .val (.int k11), .val (.long x12), .second, .val (.ref b3), .unset, .unset] [(.long x12), (.ref b3)]) (fun t k => st4.trans (XS.astore X4.here hx rfl (hb hby at_74) rfl rfl (l' := #[.val (.long q0), .second, .val (.long q1), .second, .val (.long q2), .second, .val (.int i3), .val (.long (own_min q0 q1)), .second, .val (.long (own_max q0 q1)), .second, .val (.int k11), .val (.long x12), .second, .val (.ref b3), .unset, .unset]) rfl (XS.aload X4.here hx rfl (hb hby at_76) rfl rfl (XS.lload X4.here hx rfl (hb hby at_78) rfl k)))) ?_
    obtain ⟨cq5, kq5, q5a, q5b, q5c⟩ := isOf hZ rfl E4q
    obtain ⟨_, _, ⟨T5, L5, k5, n5⟩, -, X5, ⟨Lc5, hQ5, l5, y5, z5⟩, st5⟩ := X4.virtualBack hx (y := (⟨"com/example/tidemark/tidemark/model/WholeRange", "contains", "(J)Z"⟩ : MethodName)) (z := (⟨"com/example/tidemark/tidemark/model/WholeRange", "contains", "(J)Z"⟩ : MethodName)) hown (mvT hZ (own_w hw 20 rfl)) (mvT hZ (own_w hw 21 rfl)) (notFace_of_selects (args := #[]) (mvT hZ (own_w hw 23 rfl))) (mvT hZ (own_w hw 23 rfl)) (mvT hZ (own_w hw 22 rfl)) (by decide) (backOf (W := 0) (rm5 l Z a0 hw [] b3 x12 (own_min q0 q1) (own_max q0 q1) T4.heap n0 Zs4 F4a F4b) hZ (own_w hw 24 rfl) (own_w hw 9 rfl) (by decide) (by decide)) q5a q5c (g := (mkF m 80 #[.val (.long q0), .second, .val (.long q1), .second, .val (.long q2), .second, .val (.int i3), .val (.long (own_min q0 q1)), .second, .val (.long (own_max q0 q1)), .second, .val (.int k11), .val (.long x12), .second, .val (.ref b3), .unset, .unset] [(.long x12), (.ref b3)])) rfl (by rw [hml]; rfl) (Steps.refl _) (argsL := [(.long x12)]) (rest := []) (lenOf pd_3 rfl) rfl (by show 2 * 0 + _ ≤ _; exact Nat.le_of_eq rfl) (hb hby at_80) (fun _ _ => ⟨rfl, rfl, (by decide : 1 + 0 ≤ _), (by decide : 2 + 0 ≤ _)⟩)
    dsimp only [Pt.U, Pt.locs, Pt.cells, Pt.slots] at X5 l5 y5 z5 st5 hQ5
    subst l5 y5 z5
    obtain ⟨rfl, N5q, e5⟩ := hQ5
    have N5 := Fr.app N4 N5q
    refine own_to T5 (mkF m 95 #[.val (.long q0), .second, .val (.long q1), .second, .val (.long q2), .second, .val (.int i3), .val (.long (own_min q0 q1)), .second, .val (.long (own_max q0 q1)), .second, .val (.int k11), .val (.long x12), .second, .val (.ref b3), .val (.int (own_in x12 (own_min q0 q1) (own_max q0 q1))), .unset] [(.long ((own_max q0 q1) - (own_min q0 q1))), (.long (x12 - (own_min q0 q1)))]) (fun t k => st5.trans (XS.istore X5.here hx rfl (hb hby at_83) rfl (l' := #[.val (.long q0), .second, .val (.long q1), .second, .val (.long q2), .second, .val (.int i3), .val (.long (own_min q0 q1)), .second, .val (.long (own_max q0 q1)), .second, .val (.int k11), .val (.long x12), .second, .val (.ref b3), .val (.int (own_in x12 (own_min q0 q1) (own_max q0 q1))), .unset]) rfl (XS.lload X5.here hx rfl (hb hby at_85) rfl (XS.lload X5.here hx rfl (hb hby at_87) rfl (XS.lsub X5.here hx rfl (hb hby at_89) rfl (XS.lload X5.here hx rfl (hb hby at_90) rfl (XS.lload X5.here hx rfl (hb hby at_92) rfl (XS.lsub X5.here hx rfl (hb hby at_94) rfl k)))))))) ?_
    obtain ⟨_, _, ⟨T6, L6, k6, n6⟩, -, X6, ⟨Lc6, hQ6, l6, y6, z6⟩, st6⟩ := Jvm.LawKit.callS X5 hx (y := (⟨"com/example/tidemark/tidemark/model/WholeRangeContainsPinLaw", "unsignedLe", "(JJ)Z"⟩ : MethodName)) hown (mvT hZ (own_w hw 25 rfl)) (mvT hZ (own_w hw 26 rfl)) (mvT hZ (own_w hw 27 rfl)) (mvT hZ (own_w hw 28 rfl)) (by decide) (backOf (W := 0) (rm6 l Z a0 hw [] (x12 - (own_min q0 q1)) ((own_max q0 q1) - (own_min q0 q1)) T4.heap n0 Zs4) hZ (own_w hw 28 rfl) (own_w hw 27 rfl) (by decide) (by decide)) (g := (mkF m 95 #[.val (.long q0), .second, .val (.long q1), .second, .val (.long q2), .second, .val (.int i3), .val (.long (own_min q0 q1)), .second, .val (.long (own_max q0 q1)), .second, .val (.int k11), .val (.long x12), .second, .val (.ref b3), .val (.int (own_in x12 (own_min q0 q1) (own_max q0 q1))), .unset] [(.long ((own_max q0 q1) - (own_min q0 q1))), (.long (x12 - (own_min q0 q1)))])) rfl (by rw [hml]; rfl) (argsL := [(.long (x12 - (own_min q0 q1))), (.long ((own_max q0 q1) - (own_min q0 q1)))]) (rest := []) (lenOf pd_4 rfl) rfl (by show 2 * 0 + _ ≤ _; exact Nat.le_of_eq rfl) (hb hby at_95) (fun _ _ => ⟨rfl, e5, (by decide : 1 + 0 ≤ _), (by decide : 2 + 0 ≤ _)⟩)
    dsimp only [Pt.U, Pt.locs, Pt.cells, Pt.slots] at X6 l6 y6 z6 st6 hQ6
    subst l6 y6 z6
    obtain ⟨rfl, N6q, e6⟩ := hQ6
    have N6 := Fr.app N5 N6q
    refine own_to T6 (mkF m 112 #[.val (.long q0), .second, .val (.long q1), .second, .val (.long q2), .second, .val (.int i3), .val (.long (own_min q0 q1)), .second, .val (.long (own_max q0 q1)), .second, .val (.int k11), .val (.long x12), .second, .val (.ref b3), .val (.int (own_in x12 (own_min q0 q1) (own_max q0 q1))), .val (.int (own_ule (x12 - (own_min q0 q1)) ((own_max q0 q1) - (own_min q0 q1))))] [(.int (1 : Int32))]) (fun t k => st6 _ (XS.istore X6.here hx rfl (hb hby at_98) rfl (l' := #[.val (.long q0), .second, .val (.long q1), .second, .val (.long q2), .second, .val (.int i3), .val (.long (own_min q0 q1)), .second, .val (.long (own_max q0 q1)), .second, .val (.int k11), .val (.long x12), .second, .val (.ref b3), .val (.int (own_in x12 (own_min q0 q1) (own_max q0 q1))), .val (.int (own_ule (x12 - (own_min q0 q1)) ((own_max q0 q1) - (own_min q0 q1))))]) rfl (XS.iload X6.here hx rfl (hb hby at_100) rfl (XS.iload X6.here hx rfl (hb hby at_102) rfl (XS.icmpNo X6.here hx rfl (hb hby at_104) rfl (teq (own_same q0 q1 x12)).2 (XS.iconst X6.here hx rfl (hb hby at_107) (XS.goto X6.here hx rfl (pc0 := 108) (pc' := 112) rfl (hb hby at_108) (by decide) (by decide) k))))))) ?_
    exact own_retZ X6 hx hret hlk (hb hby at_112) (by decide) (by decide) (Or.inr rfl) ⟨rfl, N6⟩
  refine own_to T2 (mkF m 24 #[.val (.long q0), .second, .val (.long q1), .second, .val (.long q2), .second, .val (.int i3), .val (.long (own_min q0 q1)), .second, .val (.long (own_max q0 q1)), .second, .val (.int (i3 &&& (7 : Int32))), .unset, .unset, .unset, .unset, .unset] [(.int (2 : Int32)), (.int (i3 &&& (7 : Int32)))]) (fun t k => XS.iload X2.here hx rfl (hb hby at_14) rfl (XS.bipush X2.here hx rfl (hb hby at_16) (XS.iand X2.here hx rfl (hb hby at_18) rfl (XS.istore X2.here hx rfl (hb hby at_19) rfl (l' := #[.val (.long q0), .second, .val (.long q1), .second, .val (.long q2), .second, .val (.int i3), .val (.long (own_min q0 q1)), .second, .val (.long (own_max q0 q1)), .second, .val (.int (i3 &&& (7 : Int32))), .unset, .unset, .unset, .unset, .unset]) rfl (XS.iload X2.here hx rfl (hb hby at_21) rfl (XS.iconst X2.here hx rfl (hb hby at_23) k)))))) ?_
  by_cases c24 : (2 : Int32) < (i3 &&& (7 : Int32))
  · skip
    refine own_to T2 (mkF m 43 #[.val (.long q0), .second, .val (.long q1), .second, .val (.long q2), .second, .val (.int i3), .val (.long (own_min q0 q1)), .second, .val (.long (own_max q0 q1)), .second, .val (.int (i3 &&& (7 : Int32))), .unset, .unset, .unset, .unset, .unset] [(.int (5 : Int32)), (.int (i3 &&& (7 : Int32)))]) (fun t k => XS.icmpYes X2.here hx rfl (pc0 := 24) (pc' := 40) rfl (hb hby at_24) rfl (tlt c24).2.2.1 (by decide) (by decide) (XS.iload X2.here hx rfl (hb hby at_40) rfl (XS.iconst X2.here hx rfl (hb hby at_42) k))) ?_
    by_cases c43 : (5 : Int32) < (i3 &&& (7 : Int32))
    · skip
      refine own_to T2 (mkF m 63 #[.val (.long q0), .second, .val (.long q1), .second, .val (.long q2), .second, .val (.int i3), .val (.long (own_min q0 q1)), .second, .val (.long (own_max q0 q1)), .second, .val (.int (i3 &&& (7 : Int32))), .val (.long q2), .second, .unset, .unset, .unset] []) (fun t k => XS.icmpYes X2.here hx rfl (pc0 := 43) (pc' := 59) rfl (hb hby at_43) rfl (tlt c43).2.2.1 (by decide) (by decide) (XS.lload X2.here hx rfl (hb hby at_59) rfl (XS.lstore X2.here hx rfl (hb hby at_61) rfl (l' := #[.val (.long q0), .second, .val (.long q1), .second, .val (.long q2), .second, .val (.int i3), .val (.long (own_min q0 q1)), .second, .val (.long (own_max q0 q1)), .second, .val (.int (i3 &&& (7 : Int32))), .val (.long q2), .second, .unset, .unset, .unset]) rfl k))) ?_
      exact J63 _ _
    · skip
      refine own_to T2 (mkF m 63 #[.val (.long q0), .second, .val (.long q1), .second, .val (.long q2), .second, .val (.int i3), .val (.long (own_min q0 q1)), .second, .val (.long (own_max q0 q1)), .second, .val (.int (i3 &&& (7 : Int32))), .val (.long ((own_max q0 q1) + (((i3 &&& (7 : Int32)) - (4 : Int32)).toInt64))), .second, .unset, .unset, .unset] []) (fun t k => XS.icmpNo X2.here hx rfl (hb hby at_43) rfl (flt c43).2.2.1 (XS.lload X2.here hx rfl (hb hby at_46) rfl (XS.iload X2.here hx rfl (hb hby at_48) rfl (XS.iconst X2.here hx rfl (hb hby at_50) (XS.isub X2.here hx rfl (hb hby at_51) rfl (XS.i2l X2.here hx rfl (hb hby at_52) rfl (XS.ladd X2.here hx rfl (hb hby at_53) rfl (XS.lstore X2.here hx rfl (hb hby at_54) rfl (l' := #[.val (.long q0), .second, .val (.long q1), .second, .val (.long q2), .second, .val (.int i3), .val (.long (own_min q0 q1)), .second, .val (.long (own_max q0 q1)), .second, .val (.int (i3 &&& (7 : Int32))), .val (.long ((own_max q0 q1) + (((i3 &&& (7 : Int32)) - (4 : Int32)).toInt64))), .second, .unset, .unset, .unset]) rfl (XS.goto X2.here hx rfl (pc0 := 56) (pc' := 63) rfl (hb hby at_56) (by decide) (by decide) k))))))))) ?_
      exact J63 _ _
  · skip
    refine own_to T2 (mkF m 63 #[.val (.long q0), .second, .val (.long q1), .second, .val (.long q2), .second, .val (.int i3), .val (.long (own_min q0 q1)), .second, .val (.long (own_max q0 q1)), .second, .val (.int (i3 &&& (7 : Int32))), .val (.long ((own_min q0 q1) + (((i3 &&& (7 : Int32)) - (1 : Int32)).toInt64))), .second, .unset, .unset, .unset] []) (fun t k => XS.icmpNo X2.here hx rfl (hb hby at_24) rfl (flt c24).2.2.1 (XS.lload X2.here hx rfl (hb hby at_27) rfl (XS.iload X2.here hx rfl (hb hby at_29) rfl (XS.iconst X2.here hx rfl (hb hby at_31) (XS.isub X2.here hx rfl (hb hby at_32) rfl (XS.i2l X2.here hx rfl (hb hby at_33) rfl (XS.ladd X2.here hx rfl (hb hby at_34) rfl (XS.lstore X2.here hx rfl (hb hby at_35) rfl (l' := #[.val (.long q0), .second, .val (.long q1), .second, .val (.long q2), .second, .val (.int i3), .val (.long (own_min q0 q1)), .second, .val (.long (own_max q0 q1)), .second, .val (.int (i3 &&& (7 : Int32))), .val (.long ((own_min q0 q1) + (((i3 &&& (7 : Int32)) - (1 : Int32)).toInt64))), .second, .unset, .unset, .unset]) rfl (XS.goto X2.here hx rfl (pc0 := 37) (pc' := 63) rfl (hb hby at_37) (by decide) (by decide) k))))))))) ?_
    exact J63 _ _
set_option maxRecDepth 65536 in
set_option maxHeartbeats 40000000 in
theorem comes_1 {Post : Tables → Env → Array Value → State → Outcome → State → Prop} (hpost : ∀ tb e args s v u, (limb_1_1.after args s (.returned v) u = true ∧ limb_1_2.after args s (.returned v) u = true ∧ True) → FrameEnd s (.returned v) u (Jvm.fieldLocs frame_1_writes args s ++ Jvm.arrayLocs frame_1_arrays args s ++ Jvm.staticLocs frame_1_statics s) 16 128 → Post tb e args s (.returned v) u) :
    ArmFor flags0 classFile x code maxLocals ret World_1 tables_1 room_1 Calls_1 rest_1 Pre_1 Post := by
  intro l hfl _ _ p e ha hc hk s m args below hf hA hF happ hP
  obtain ⟨hcalls, hrest, hpre⟩ := hP
  obtain ⟨-, -, -, hnamed, -, -, -, hat⟩ := (Spec.applies_iff hf).mp happ
  obtain ⟨hg, hn⟩ := and_e (Cond.before_iff.mp (show (Jvm.Cond.and given_1 narrow_1).before args s = true from hpre))
  obtain ⟨q1, q2⟩ := and_e hg
  obtain ⟨q3, q4⟩ := and_e q2
  obtain ⟨q5, q6⟩ := and_e q4
  obtain ⟨q7, q8⟩ := and_e q6
  obtain ⟨w0, w1, w2, w3, rfl⟩ : ∃ w0 w1 w2 w3 : Value, args = #[w0, w1, w2, w3] := by
    have hs : args.size = 4 := by simpa [Cond.value, given_1] using q1
    obtain ⟨L⟩ := args
    match L, hs with
    | [w0, w1, w2, w3], _ => exact ⟨w0, w1, w2, w3, rfl⟩
  have hw := fun d (hd : d ∈ tables_1) => atoms_spec (ws := Jvm.Cond.code x code maxLocals ret :: tables_1) hat d (List.mem_cons_of_mem _ hd)
  have hfit : Fit s := fun {y c} hc i hi => by
    obtain ⟨ha, rfl⟩ := Array.getElem?_eq_some_iff.mp hc
    have q := List.all_eq_true.mp ((Array.all_eq_true_iff_forall_mem.mp hF) _ (Array.getElem_mem ha)) i (List.mem_range.mpr hi)
    simpa [Array.getElem?_eq_getElem hi] using q
  obtain ⟨i0, ei0⟩ := isL_v q3
  obtain rfl : w0 = (.long i0) := Option.some.inj ei0
  obtain ⟨i1, ei1⟩ := isL_v q5
  obtain rfl : w1 = (.long i1) := Option.some.inj ei1
  obtain ⟨i2, ei2⟩ := isL_v q7
  obtain rfl : w2 = (.long i2) := Option.some.inj ei2
  obtain ⟨i3, ei3⟩ := is_v q8
  obtain rfl : w3 = (.int i3) := Option.some.inj ei3
  obtain ⟨n, o, h1, h2, h3, _, L, rfl, ⟨rfl, N⟩, hq⟩ := rm0 l s _ hw tables_1 i0 i1 i2 i3 s.heap s.heap.size (Nat.le_refl _)  p e ha hc hk s m _ below hf ((Spec.applies_iff_loose hf).mp happ).1 ⟨rfl, State.Warmed39.refl s, rfl⟩ trivial
  refine ⟨n, _, h1, h2, h3, hpost _ _ _ _ _ _ ⟨Cond.after_iff.mpr rfl, Cond.after_iff.mpr (eq_i res_at (Term.int_eval (1)) rfl), trivial⟩ ⟨hq.1, hq.2.1, (hq.2.2.sift fun y hy => Or.inr (N y hy)).mono (by decide) (by decide)⟩⟩
theorem main_1_1 : Claimed_1_1 := comes_1 fun _ _ _ _ _ _ h hF => ⟨h.1, hF⟩
theorem main_1_2 : Claimed_1_2 := comes_1 fun _ _ _ _ _ _ h hF => ⟨h.2.1, hF⟩
end Jvm.Pilot.@@N@@
namespace Jvm.Pilot.@@N@@
open Jvm Jvm.ClassFile Sem Op Lib Jvm.Free Jvm.Stand Jvm.Pilot.@@N@@.Jvm.D
/-! MADE BY PROGRAM (witnessworld.py) out of the Statement's table words and the real class files: 10 classes; the members and pool entries that the words name. The judged class is class 1, her method 2. -/
namespace start1
open Jvm.ClassFile
def u (s : String) : CpInfo := .utf8 (stringToUtf16 s)
/-- a pool by its gaps: so many unusable entries, then the entry; so many at the end -/
def gap : Nat → List CpInfo → List CpInfo
  | 0, r => r
  | n + 1, r => .unusable :: gap n r
def poolList (es : List (Nat × CpInfo)) (last : Nat) : List CpInfo := es.foldr (fun e r => gap e.1 (e.2 :: r)) (gap last [])
def pool (es : List (Nat × CpInfo)) (last : Nat) : Array CpInfo := ⟨poolList es last⟩
def fileOf (pool : Array CpInfo) (this : Nat) (attrs : Array Attribute := #[]) (ms : Array MethodInfo := #[]) (fl : Nat := 33) (sup : Nat := 0) (ifs : Array Nat := #[]) (fds : Array FieldInfo := #[]) : ClassFile where
  minorVersion := 0
  majorVersion := 65
  constantPool := pool
  accessFlags := fl
  thisClass := this
  superClass := sup
  interfaces := ifs
  fields := fds
  methods := ms
  attributes := attrs
def plain (name : String) (sup : Option ClassId) : Class where
  name := name
  kind := .ordinary
  loader := none
  accessFlags := 33
  super := sup
  interfaces := #[]
  cf := none
  fields := #[]
  methods := #[]
  instanceTypes := #[]
  staticTypes := #[]
  resolved := #[]
  callSites := []
  init := .initialized
  statics := none
  mirror := none

def pool0 : Array CpInfo := pool [(5, u "<init>"), (0, u "()V"), (1, .class_ 10), (1, u "java/lang/Object")] 113

def k0c0 : Code := { maxStack := 0, maxLocals := 1, code := object_method_1_code, exceptionTable := #[], attributes := #[] }
def k0m0 : Method := { name := "<init>", desc := "()V", sig := { parameters := [], returnType := none }, accessFlags := 1, code := some k0c0 }
/-- java/lang/Object -/
def k0 : Class := { plain "java/lang/Object" none with
  accessFlags := 33
  interfaces := #[]
  cf := some (fileOf pool0 8 #[] #[{ accessFlags := 1, nameIndex := 5, descriptorIndex := 6, attributes := #[] }] 33 0 #[] #[])
  fields := #[]
  methods := #[k0m0]
  instanceTypes := #[]
  staticTypes := #[]
  resolved := Array.replicate 124 none
  statics := none }

def pool1 : Array CpInfo := pool [(2, .class_ 4), (1, u "java/lang/Object"), (0, u "<init>"), (0, u "()V"), (2, .long 9223372036854775808), (1, .methodref 12 13), (0, .class_ 14), (0, .nameAndType 15 16), (0, u "java/lang/Math"), (0, u "min"), (0, u "(JJ)J"), (0, .methodref 12 18), (0, .nameAndType 19 16), (0, u "max"), (0, .class_ 21), (0, u "com/example/tidemark/tidemark/model/WholeRange"), (0, .methodref 20 23), (0, .nameAndType 5 24), (0, u "(JJ)V"), (0, .methodref 20 26), (0, .nameAndType 27 28), (0, u "contains"), (0, u "(J)Z"), (0, .methodref 30 31), (0, .class_ 32), (0, .nameAndType 33 34), (0, u "com/example/tidemark/tidemark/model/WholeRangeContainsPinLaw"), (0, u "unsignedLe"), (0, u "(JJ)Z"), (3, u "law"), (0, u "(JJJI)Z")] 2

def k1m0 : Method := { name := "<init>", desc := "()V", sig := { parameters := [], returnType := none }, accessFlags := 1, code := none }
def k1c1 : Code := { maxStack := 6, maxLocals := 4, code := method_2_code, exceptionTable := #[], attributes := #[] }
def k1m1 : Method := { name := "unsignedLe", desc := "(JJ)Z", sig := { parameters := [.long, .long], returnType := some .boolean }, accessFlags := 10, code := some k1c1 }
def k1c2 : Code := { maxStack := 6, maxLocals := 17, code := code, exceptionTable := #[], attributes := #[] }
def k1m2 : Method := { name := "law", desc := "(JJJI)Z", sig := { parameters := [.long, .long, .long, .int], returnType := some .boolean }, accessFlags := 9, code := some k1c2 }
/-- com/example/tidemark/tidemark/model/WholeRangeContainsPinLaw -/
def k1 : Class := { plain "com/example/tidemark/tidemark/model/WholeRangeContainsPinLaw" (some 0) with
  accessFlags := 49
  interfaces := #[]
  cf := some (fileOf pool1 30 #[] #[{ accessFlags := 1, nameIndex := 5, descriptorIndex := 6, attributes := #[] }, { accessFlags := 10, nameIndex := 33, descriptorIndex := 34, attributes := #[] }, { accessFlags := 9, nameIndex := 38, descriptorIndex := 39, attributes := #[] }] 49 2 #[] #[])
  fields := #[]
  methods := #[k1m0, k1m1, k1m2]
  instanceTypes := #[]
  staticTypes := #[]
  resolved := Array.replicate 42 none
  statics := none }

def pool2 : Array CpInfo := pool [(1, .class_ 2), (0, u "java/lang/Math"), (1, .class_ 6), (1, u "java/lang/Object"), (0, u "<init>"), (0, u "()V"), (89, .class_ 100), (1, u "java/lang/Math$RandomNumberGeneratorHolder"), (20, u "(JJ)J"), (50, u "negativeZeroFloatBits"), (0, u "J"), (2, u "negativeZeroDoubleBits"), (21, u "max"), (2, u "min"), (43, u "$assertionsDisabled"), (0, u "Z"), (91, u "twoToTheDoubleScaleDown"), (0, u "D"), (4, u "twoToTheDoubleScaleUp"), (9, u "E"), (3, u "PI"), (2, u "TAU"), (2, u "DEGREES_TO_RADIANS"), (0, u "RADIANS_TO_DEGREES")] 94

def k2m0 : Method := { name := "<init>", desc := "()V", sig := { parameters := [], returnType := none }, accessFlags := 2, code := none }
def k2c1 : Code := { maxStack := 4, maxLocals := 4, code := jdk_29_method_66_code, exceptionTable := #[], attributes := #[] }
def k2m1 : Method := { name := "max", desc := "(JJ)J", sig := { parameters := [.long, .long], returnType := some .long }, accessFlags := 9, code := some k2c1 }
def k2c2 : Code := { maxStack := 4, maxLocals := 4, code := jdk_29_method_70_code, exceptionTable := #[], attributes := #[] }
def k2m2 : Method := { name := "min", desc := "(JJ)J", sig := { parameters := [.long, .long], returnType := some .long }, accessFlags := 9, code := some k2c2 }
/-- java/lang/Math -/
def k2 : Class := { plain "java/lang/Math" (some 0) with
  accessFlags := 49
  interfaces := #[]
  cf := some (fileOf pool2 1 #[.nestMembers #[98]] #[{ accessFlags := 2, nameIndex := 7, descriptorIndex := 8, attributes := #[] }, { accessFlags := 9, nameIndex := 198, descriptorIndex := 121, attributes := #[] }, { accessFlags := 9, nameIndex := 201, descriptorIndex := 121, attributes := #[] }] 49 4 #[] #[{ accessFlags := 25, nameIndex := 354, descriptorIndex := 339, attributes := #[] }, { accessFlags := 25, nameIndex := 358, descriptorIndex := 339, attributes := #[] }, { accessFlags := 25, nameIndex := 361, descriptorIndex := 339, attributes := #[] }, { accessFlags := 26, nameIndex := 364, descriptorIndex := 339, attributes := #[] }, { accessFlags := 26, nameIndex := 365, descriptorIndex := 339, attributes := #[] }, { accessFlags := 26, nameIndex := 172, descriptorIndex := 173, attributes := #[] }, { accessFlags := 26, nameIndex := 176, descriptorIndex := 173, attributes := #[] }, { accessFlags := 8, nameIndex := 344, descriptorIndex := 339, attributes := #[] }, { accessFlags := 8, nameIndex := 338, descriptorIndex := 339, attributes := #[] }, { accessFlags := 4120, nameIndex := 245, descriptorIndex := 246, attributes := #[] }])
  fields := #[{ name := "E", type := .double, accessFlags := 25, slot := 0, constantValue := 0 }, { name := "PI", type := .double, accessFlags := 25, slot := 1, constantValue := 0 }, { name := "TAU", type := .double, accessFlags := 25, slot := 2, constantValue := 0 }, { name := "DEGREES_TO_RADIANS", type := .double, accessFlags := 26, slot := 3, constantValue := 0 }, { name := "RADIANS_TO_DEGREES", type := .double, accessFlags := 26, slot := 4, constantValue := 0 }, { name := "negativeZeroFloatBits", type := .long, accessFlags := 26, slot := 5, constantValue := 0 }, { name := "negativeZeroDoubleBits", type := .long, accessFlags := 26, slot := 6, constantValue := 0 }, { name := "twoToTheDoubleScaleUp", type := .double, accessFlags := 8, slot := 7, constantValue := 0 }, { name := "twoToTheDoubleScaleDown", type := .double, accessFlags := 8, slot := 8, constantValue := 0 }, { name := "$assertionsDisabled", type := .boolean, accessFlags := 4120, slot := 9, constantValue := 0 }]
  methods := #[k2m0, k2m1, k2m2]
  instanceTypes := #[]
  staticTypes := #[.double, .double, .double, .double, .double, .long, .long, .double, .double, .boolean]
  resolved := Array.replicate 460 none
  statics := none }

def pool3 : Array CpInfo := pool [(1, .methodref 2 3), (0, .class_ 4), (0, .nameAndType 5 6), (0, u "java/lang/Object"), (0, u "<init>"), (0, u "()V"), (0, .fieldref 8 9), (0, .class_ 10), (0, .nameAndType 11 12), (0, u "com/example/tidemark/tidemark/model/WholeRange"), (0, u "min"), (0, u "J"), (0, .fieldref 8 14), (0, .nameAndType 15 12), (0, u "max"), (2, u "DIGITS"), (0, u "Ljava/util/regex/Pattern;"), (33, u "contains"), (0, u "(J)Z"), (9, u "(JJ)V")] 25

def k3c0 : Code := { maxStack := 3, maxLocals := 5, code := prog_29_method_1_code, exceptionTable := #[], attributes := #[] }
def k3m0 : Method := { name := "<init>", desc := "(JJ)V", sig := { parameters := [.long, .long], returnType := none }, accessFlags := 1, code := some k3c0 }
def k3c1 : Code := { maxStack := 4, maxLocals := 3, code := prog_29_method_4_code, exceptionTable := #[], attributes := #[] }
def k3m1 : Method := { name := "contains", desc := "(J)Z", sig := { parameters := [.long], returnType := some .boolean }, accessFlags := 1, code := some k3c1 }
/-- com/example/tidemark/tidemark/model/WholeRange -/
def k3 : Class := { plain "com/example/tidemark/tidemark/model/WholeRange" (some 0) with
  accessFlags := 49
  interfaces := #[]
  cf := some (fileOf pool3 8 #[] #[{ accessFlags := 1, nameIndex := 5, descriptorIndex := 64, attributes := #[] }, { accessFlags := 1, nameIndex := 53, descriptorIndex := 54, attributes := #[] }] 49 2 #[] #[{ accessFlags := 26, nameIndex := 18, descriptorIndex := 19, attributes := #[] }, { accessFlags := 18, nameIndex := 11, descriptorIndex := 12, attributes := #[] }, { accessFlags := 18, nameIndex := 15, descriptorIndex := 12, attributes := #[] }])
  fields := #[{ name := "DIGITS", type := (.object "java/util/regex/Pattern"), accessFlags := 26, slot := 0, constantValue := 0 }, { name := "min", type := .long, accessFlags := 18, slot := 0, constantValue := 0 }, { name := "max", type := .long, accessFlags := 18, slot := 1, constantValue := 0 }]
  methods := #[k3m0, k3m1]
  instanceTypes := #[.long, .long]
  staticTypes := #[(.object "java/util/regex/Pattern")]
  resolved := Array.replicate 90 none
  statics := none }

def pool4 : Array CpInfo := pool [(1, u "java/lang/Cloneable"), (0, .class_ 1), (0, u "java/lang/Object"), (0, .class_ 3)] 3

/-- java/lang/Cloneable -/
def k4 : Class := { plain "java/lang/Cloneable" (some 0) with
  accessFlags := 1537
  interfaces := #[]
  cf := some (fileOf pool4 2 #[] #[] 1537 4 #[] #[])
  fields := #[]
  methods := #[]
  instanceTypes := #[]
  staticTypes := #[]
  resolved := Array.replicate 8 none
  statics := none }

def pool5 : Array CpInfo := pool [(1, u "java/io/Serializable"), (0, .class_ 1), (0, u "java/lang/Object"), (0, .class_ 3)] 3

/-- java/io/Serializable -/
def k5 : Class := { plain "java/io/Serializable" (some 0) with
  accessFlags := 1537
  interfaces := #[]
  cf := some (fileOf pool5 2 #[] #[] 1537 4 #[] #[])
  fields := #[]
  methods := #[]
  instanceTypes := #[]
  staticTypes := #[]
  resolved := Array.replicate 8 none
  statics := none }

/-- the primitive byte -/
def k6 : Class := { plain "byte" none with kind := .primitive 'B', accessFlags := 0x411 }
/-- [B -/
def k7 : Class := { plain "[B" (some 0) with kind := .array 6 .byte, interfaces := #[4, 5], accessFlags := 1041 }

/-- the primitive int -/
def k8 : Class := { plain "int" none with kind := .primitive 'I', accessFlags := 0x411 }
/-- [I -/
def k9 : Class := { plain "[I" (some 0) with kind := .array 8 .int, interfaces := #[4, 5], accessFlags := 1041 }

def heap : Heap := #[]
def classes : Array Class := #[k0, k1, k2, k3, k4, k5, k6, k7, k8, k9]
def interned : List (Array UInt16 × Addr) := []
def slotsUsed : Nat := 0
def theMethod : MethodId := ⟨1, 2⟩
def args0 : Array Value := #[.long 5, .long 9, .long 7, .int 6]
def aboutOver (below : List Frame) : State where
  vm := { classes := classes, interned := interned.toArray }
  heap := heap
  slotsUsed := slotsUsed
  threads := #[{ frames := .invoking theMethod args0 :: below }]
def below0 : List Frame := [.native { method := ⟨0, 0⟩, args := #[] }]
def about1 : State := aboutOver below0
def p0 : Program := .bare "" "" ""
def e0 : Env := launch0.env 0 0 0
theorem w_frames : about1.frames = Frame.invoking theMethod args0 :: below0 := rfl
set_option maxRecDepth 65536 in
theorem w_args : argsFit about1.vm theMethod args0 = true := by decide +kernel
set_option maxRecDepth 65536 in
theorem w_heap : heapFits about1 = true := by decide +kernel
set_option maxRecDepth 65536 in
theorem w_runnable : about1.curStatus? = some .runnable := by decide +kernel
set_option maxRecDepth 65536 in
theorem w_alone : about1.alone = true := by decide +kernel
set_option maxRecDepth 65536 in
theorem w_named : about1.methodNamed? x = some theMethod := by decide +kernel
set_option maxRecDepth 65536 in
theorem w_hears : about1.hears theMethod below0 = true := by decide +kernel
set_option maxRecDepth 65536 in
theorem w_ripe : about1.ripe theMethod args0 below0 = true := by decide +kernel
theorem w_running : about1.status = .running := rfl
set_option maxRecDepth 65536 in
theorem w_room : about1.hasRoom e0.platform room_1 = true :=
  launch0.hasRoom_least _ room_1 (by decide +kernel) (by decide +kernel) (by decide +kernel) (by decide +kernel) (by decide +kernel) (by decide +kernel)
theorem allAtoms_all (ts : List Jvm.Cond) (a : Array Jvm.Value) (st : Jvm.State) : (allAtoms ts).before a st = ts.all (fun c => c.before a st) := by
  induction ts with
  | nil => rfl
  | cons c t ih =>
    show (Jvm.Cond.and c (allAtoms t)).before a st = _
    rw [Jvm.Cond.before_and, ih, List.all_cons]
def words1 : List Jvm.Cond := Jvm.Cond.code x code maxLocals ret :: tables_1
/-- a 'code' word, met by the world's own term for the bytes: nothing is compared byte by byte -/
theorem code_word {y : MethodName} {bytes : ByteArray} {mx : Nat} {rt : Option FieldType} {a : Array Value} {s : State} {m : MethodId} {meth : Method} {c : Code} (h1 : s.methodNamed? y = some m) (h2 : s.vm.method? m = some meth) (h3 : meth.code = some c) (h4 : c.code = bytes)
    (h5 : (c.maxLocals == mx && c.exceptionTable.isEmpty && decide (c.maxStack ≤ mostOperands) && decide (meth.sig.returnType = rt) && !meth.locks && decide (parseMethodDescriptor y.desc = some meth.sig)) = true) : (Jvm.Cond.code y bytes mx rt).before a s = true := by
  simp only [Bool.and_eq_true, beq_iff_eq, Bool.not_eq_true', decide_eq_true_eq] at h5
  obtain ⟨⟨⟨⟨⟨g1, g2⟩, g3⟩, g4⟩, g5⟩, g6⟩ := h5
  simp [Cond.before, Cond.holds, Cond.value, h1, h2, h3, h4, g1, g2, g3, g4, g5, g6]
def isCode : Jvm.Cond → Bool
  | .code _ _ _ _ => true
  | _ => false
theorem all_split {L : List Jvm.Cond} {P : Jvm.Cond → Bool} (h1 : L.all (fun c => isCode c || P c) = true) (h2 : ∀ c ∈ L.filter isCode, P c = true) : L.all P = true := by
  refine List.all_eq_true.mpr fun c hc => ?_
  have h := List.all_eq_true.mp h1 c hc
  rcases Bool.eq_false_or_eq_true (isCode c) with hi | hi
  · exact h2 c (List.mem_filter.mpr ⟨hc, hi⟩)
  · simpa [hi] using h
set_option maxRecDepth 65536 in
theorem w_c0 : (Jvm.Cond.code x code maxLocals ret).before args0 about1 = true := code_word (m := ⟨1, 2⟩) (meth := k1m2) (c := k1c2) (by decide +kernel) rfl rfl rfl (by decide +kernel)
set_option maxRecDepth 65536 in
theorem w_c1 : (Jvm.Cond.code ({ cls := "java/lang/Math", name := "min", desc := "(JJ)J" } : Jvm.MethodName) jdk_29_method_70_code (4 : Nat) (Option.some Jvm.ClassFile.FieldType.long)).before args0 about1 = true := code_word (m := ⟨2, 2⟩) (meth := k2m2) (c := k2c2) (by decide +kernel) rfl rfl rfl (by decide +kernel)
set_option maxRecDepth 65536 in
theorem w_c2 : (Jvm.Cond.code ({ cls := "java/lang/Math", name := "max", desc := "(JJ)J" } : Jvm.MethodName) jdk_29_method_66_code (4 : Nat) (Option.some Jvm.ClassFile.FieldType.long)).before args0 about1 = true := code_word (m := ⟨2, 1⟩) (meth := k2m1) (c := k2c1) (by decide +kernel) rfl rfl rfl (by decide +kernel)
set_option maxRecDepth 65536 in
theorem w_c3 : (Jvm.Cond.code ({ cls := "com/example/tidemark/tidemark/model/WholeRange", name := "<init>", desc := "(JJ)V" } : Jvm.MethodName) prog_29_method_1_code (5 : Nat) (Option.none : Option Jvm.ClassFile.FieldType)).before args0 about1 = true := code_word (m := ⟨3, 0⟩) (meth := k3m0) (c := k3c0) (by decide +kernel) rfl rfl rfl (by decide +kernel)
set_option maxRecDepth 65536 in
theorem w_c4 : (Jvm.Cond.code ({ cls := "java/lang/Object", name := "<init>", desc := "()V" } : Jvm.MethodName) object_method_1_code (1 : Nat) (Option.none : Option Jvm.ClassFile.FieldType)).before args0 about1 = true := code_word (m := ⟨0, 0⟩) (meth := k0m0) (c := k0c0) (by decide +kernel) rfl rfl rfl (by decide +kernel)
set_option maxRecDepth 65536 in
theorem w_c5 : (Jvm.Cond.code ({ cls := "com/example/tidemark/tidemark/model/WholeRange", name := "contains", desc := "(J)Z" } : Jvm.MethodName) prog_29_method_4_code (3 : Nat) (Option.some Jvm.ClassFile.FieldType.boolean)).before args0 about1 = true := code_word (m := ⟨3, 1⟩) (meth := k3m1) (c := k3c1) (by decide +kernel) rfl rfl rfl (by decide +kernel)
set_option maxRecDepth 65536 in
theorem w_c6 : (Jvm.Cond.code ({ cls := "com/example/tidemark/tidemark/model/WholeRangeContainsPinLaw", name := "unsignedLe", desc := "(JJ)Z" } : Jvm.MethodName) method_2_code (4 : Nat) (Option.some Jvm.ClassFile.FieldType.boolean)).before args0 about1 = true := code_word (m := ⟨1, 1⟩) (meth := k1m1) (c := k1c1) (by decide +kernel) rfl rfl rfl (by decide +kernel)
def codes1 : List Jvm.Cond := [Jvm.Cond.code x code maxLocals ret, Jvm.Cond.code ({ cls := "java/lang/Math", name := "min", desc := "(JJ)J" } : Jvm.MethodName) jdk_29_method_70_code (4 : Nat) (Option.some Jvm.ClassFile.FieldType.long), Jvm.Cond.code ({ cls := "java/lang/Math", name := "max", desc := "(JJ)J" } : Jvm.MethodName) jdk_29_method_66_code (4 : Nat) (Option.some Jvm.ClassFile.FieldType.long), Jvm.Cond.code ({ cls := "com/example/tidemark/tidemark/model/WholeRange", name := "<init>", desc := "(JJ)V" } : Jvm.MethodName) prog_29_method_1_code (5 : Nat) (Option.none : Option Jvm.ClassFile.FieldType), Jvm.Cond.code ({ cls := "java/lang/Object", name := "<init>", desc := "()V" } : Jvm.MethodName) object_method_1_code (1 : Nat) (Option.none : Option Jvm.ClassFile.FieldType), Jvm.Cond.code ({ cls := "com/example/tidemark/tidemark/model/WholeRange", name := "contains", desc := "(J)Z" } : Jvm.MethodName) prog_29_method_4_code (3 : Nat) (Option.some Jvm.ClassFile.FieldType.boolean), Jvm.Cond.code ({ cls := "com/example/tidemark/tidemark/model/WholeRangeContainsPinLaw", name := "unsignedLe", desc := "(JJ)Z" } : Jvm.MethodName) method_2_code (4 : Nat) (Option.some Jvm.ClassFile.FieldType.boolean)]
set_option maxRecDepth 65536 in
theorem codes_eq : words1.filter isCode = codes1 := rfl
theorem w_codes : ∀ c ∈ words1.filter isCode, c.before args0 about1 = true := by
  rw [codes_eq]
  intro c hc
  simp only [codes1, List.mem_cons, List.not_mem_nil, or_false] at hc
  rcases hc with rfl | rfl | rfl | rfl | rfl | rfl | rfl
  · exact w_c0
  · exact w_c1
  · exact w_c2
  · exact w_c3
  · exact w_c4
  · exact w_c5
  · exact w_c6
set_option maxRecDepth 65536 in
theorem w_t1 : (words1.take 24).all (fun c => isCode c || c.before args0 about1) = true := by decide +kernel
set_option maxRecDepth 65536 in
theorem w_t2 : (words1.drop 24).all (fun c => isCode c || c.before args0 about1) = true := by decide +kernel
theorem w_tables : (allAtoms (Jvm.Cond.code x code maxLocals ret :: tables_1)).before args0 about1 = true := by
  rw [allAtoms_all]
  show words1.all (fun c => c.before args0 about1) = true
  refine all_split ?_ w_codes
  rw [← List.take_append_drop 24 words1, List.all_append, w_t1, w_t2]
  rfl
set_option maxRecDepth 65536 in
theorem w_case : (Jvm.Cond.and given_1 narrow_1).before args0 about1 = true := by decide +kernel
theorem w_applies : (headSpec (Jvm.Cond.code x code maxLocals ret :: tables_1) room_1).applies x e0.platform about1 = true :=
  (Spec.applies_iff w_frames).mpr ⟨w_running, w_runnable, w_alone, w_named, w_hears, w_ripe, w_room, w_tables⟩
theorem atStart : AtStart classFile x code maxLocals ret World_1 tables_1 room_1 Calls_1 rest_1 Pre_1 launch0 p0 e0 about1 theMethod args0 below0 :=
  ⟨lists_1, trivial, launch0.admits_env _ _ _, launch0.least_env, fairChoices_fair.cas, fairChoices_fair.clock, w_frames, w_args, w_heap, w_applies, trivial, trivial, w_case⟩
end start1
theorem witness_1 : WitnessClaimed_1 := ⟨start1.p0, start1.e0, start1.about1, start1.theMethod, start1.args0, start1.below0, start1.atStart⟩
end Jvm.Pilot.@@N@@
