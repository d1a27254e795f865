import JvmDerived
import JvmDerived.Pilot.@@N@@Statement
import JvmDerived.Pilot.@@N@@Code
set_option linter.unusedVariables false
set_option linter.unusedSimpArgs false
namespace Jvm.Pilot.@@N@@
open Jvm Jvm.ClassFile Sem Op Lib Jvm.Free Jvm.Stand Jvm.LawKit Jvm.RoadKit Bundle Jvm.Pilot.@@N@@.Jvm.D
/-! own kit: a walk as a chain of "from here the run ends well" -/
section OwnKit
/-- from T with the frame g on top the run goes on and ends as Q says -/
def Own (p : Program) (e : Env) (below : List Frame) (s : State) (kc ks : Nat) (Q : Option Value → Heap → List Loc → Prop) (T : State) (g : JFrame) : Prop :=
  ∃ s₂ o, Steps p.tables e below (T.setTop g) s₂ ∧ s₂.status = .running ∧ Ended s₂ below o ∧ ∃ v L, o = .returned v ∧ Q v s₂.heap L ∧ FrameEnd s o s₂ L kc ks
variable {p : Program} {l : Launch} {e : Env} {R : Room} {s : State} {m : MethodId} {args : Array Value} {below : List Frame} {meth : Method} {c : Code} {T T' : State} {locs : List Loc} {cells slots kc ks : Nat} {Q : Option Value → Heap → List Loc → Prop}
theorem own_go {g g' : JFrame} (h : ∀ t, Steps p.tables e below (T'.setTop g') t → Steps p.tables e below (T.setTop g) t) (k : Own p e below s kc ks Q T' g') : Own p e below s kc ks Q T g := by
  obtain ⟨s₂, o, h1, r⟩ := k
  exact ⟨s₂, o, h _ h1, r⟩
theorem own_to (T' : State) (g' : JFrame) {g : JFrame} (h : ∀ t, Steps p.tables e below (T'.setTop g') t → Steps p.tables e below (T.setTop g) t) (k : Own p e below s kc ks Q T' g') : Own p e below s kc ks Q T g := own_go h k
theorem own_ret (X : Stand p l e R s m args below meth c T locs cells slots) (hx : p.tables.exec = Jvm.exec) {pc : Nat} {Ls : Array Slot} {w : Value} {t : FieldType} {i : Instr} {rest : List Value} (hret : meth.sig.returnType = some t) (hlk : meth.locks = false) (hn : narrow t w = w)
    (hi : (i = .ireturn ∧ (t = .int ∨ t = .boolean ∨ t = .byte ∨ t = .char ∨ t = .short) ∧ ∃ z, w = .int z) ∨ (i = .lreturn ∧ t = .long ∧ ∃ z, w = .long z) ∨ (i = .dreturn ∧ t = .double ∧ ∃ z, w = .double z) ∨ (i = .freturn ∧ t = .float ∧ ∃ z, w = .float z) ∨ (i = .areturn ∧ t.isReference = true ∧ w.isRef = true))
    (hd : decode c.code pc = .ok (i, 1)) (hc : cells ≤ kc) (hs : slots ≤ ks) (q : Q (some w) T.heap locs) : Own p e below s kc ks Q T (mkF m pc Ls (w :: rest)) := by
  obtain ⟨fs, hr, hrun, hended, hW, hsame⟩ := X.leave (v := some w) (fun h => by rw [hret] at h; cases h) hlk
  exact ⟨_, _, retOut X hx hret hn hi hd hr, hrun, hended, _, locs, rfl, q, ⟨_, rfl⟩, hW, hsame.mono hc hs⟩
theorem own_retI (X : Stand p l e R s m args below meth c T locs cells slots) (hx : p.tables.exec = Jvm.exec) {pc : Nat} {Ls : Array Slot} {z : Int32} {rest : List Value} (hret : meth.sig.returnType = some .int) (hlk : meth.locks = false)
    (hd : decode c.code pc = .ok (.ireturn, 1)) (hc : cells ≤ kc) (hs : slots ≤ ks) (q : Q (some (.int z)) T.heap locs) : Own p e below s kc ks Q T (mkF m pc Ls (.int z :: rest)) :=
  own_ret X hx hret hlk rfl (Or.inl ⟨rfl, Or.inl rfl, _, rfl⟩) hd hc hs q
theorem own_retZ (X : Stand p l e R s m args below meth c T locs cells slots) (hx : p.tables.exec = Jvm.exec) {pc : Nat} {Ls : Array Slot} {z : Int32} {rest : List Value} (hret : meth.sig.returnType = some .boolean) (hlk : meth.locks = false)
    (hd : decode c.code pc = .ok (.ireturn, 1)) (hc : cells ≤ kc) (hs : slots ≤ ks) (hz : z = 0 ∨ z = 1) (q : Q (some (.int z)) T.heap locs) : Own p e below s kc ks Q T (mkF m pc Ls (.int z :: rest)) :=
  own_ret X hx hret hlk (by rcases hz with rfl | rfl <;> rfl) (Or.inl ⟨rfl, Or.inr (Or.inl rfl), _, rfl⟩) hd hc hs q
theorem own_retC (X : Stand p l e R s m args below meth c T locs cells slots) (hx : p.tables.exec = Jvm.exec) {pc : Nat} {Ls : Array Slot} {z : Int32} {rest : List Value} (hret : meth.sig.returnType = some .char) (hlk : meth.locks = false)
    (hd : decode c.code pc = .ok (.ireturn, 1)) (hc : cells ≤ kc) (hs : slots ≤ ks) (hz : z.toUInt32.toUInt16.toUInt32.toInt32 = z) (q : Q (some (.int z)) T.heap locs) : Own p e below s kc ks Q T (mkF m pc Ls (.int z :: rest)) :=
  own_ret X hx hret hlk (congrArg Value.int hz) (Or.inl ⟨rfl, Or.inr (Or.inr (Or.inr (Or.inl rfl))), _, rfl⟩) hd hc hs q
theorem own_retJ (X : Stand p l e R s m args below meth c T locs cells slots) (hx : p.tables.exec = Jvm.exec) {pc : Nat} {Ls : Array Slot} {z : Int64} {rest : List Value} (hret : meth.sig.returnType = some .long) (hlk : meth.locks = false)
    (hd : decode c.code pc = .ok (.lreturn, 1)) (hc : cells ≤ kc) (hs : slots ≤ ks) (q : Q (some (.long z)) T.heap locs) : Own p e below s kc ks Q T (mkF m pc Ls (.long z :: rest)) :=
  own_ret X hx hret hlk rfl (Or.inr (Or.inl ⟨rfl, rfl, _, rfl⟩)) hd hc hs q
theorem own_retD (X : Stand p l e R s m args below meth c T locs cells slots) (hx : p.tables.exec = Jvm.exec) {pc : Nat} {Ls : Array Slot} {z : UInt64} {rest : List Value} (hret : meth.sig.returnType = some .double) (hlk : meth.locks = false)
    (hd : decode c.code pc = .ok (.dreturn, 1)) (hc : cells ≤ kc) (hs : slots ≤ ks) (q : Q (some (.double z)) T.heap locs) : Own p e below s kc ks Q T (mkF m pc Ls (.double z :: rest)) :=
  own_ret X hx hret hlk rfl (Or.inr (Or.inr (Or.inl ⟨rfl, rfl, _, rfl⟩))) hd hc hs q
theorem own_retA (X : Stand p l e R s m args below meth c T locs cells slots) (hx : p.tables.exec = Jvm.exec) {pc : Nat} {Ls : Array Slot} {w : Value} {t : FieldType} {rest : List Value} (hret : meth.sig.returnType = some t) (hlk : meth.locks = false)
    (ht : t.isReference = true) (hw : w.isRef = true) (hd : decode c.code pc = .ok (.areturn, 1)) (hc : cells ≤ kc) (hs : slots ≤ ks) (q : Q (some w) T.heap locs) : Own p e below s kc ks Q T (mkF m pc Ls (w :: rest)) :=
  own_ret X hx hret hlk (by cases t <;> cases w <;> first | rfl | (cases ht; done) | (cases hw; done)) (Or.inr (Or.inr (Or.inr (Or.inr ⟨rfl, ht, hw⟩)))) hd hc hs q
theorem own_retV (X : Stand p l e R s m args below meth c T locs cells slots) (hx : p.tables.exec = Jvm.exec) {pc : Nat} {Ls : Array Slot} (hret : meth.sig.returnType = none) (hlk : meth.locks = false)
    (hd : decode c.code pc = .ok (.return_, 1)) (hc : cells ≤ kc) (hs : slots ≤ ks) (q : Q none T.heap locs) : Own p e below s kc ks Q T (mkF m pc Ls []) := by
  obtain ⟨fs, hr, hrun, hended, hW, hsame⟩ := X.leave (v := none) (fun _ => rfl) hlk
  exact ⟨_, _, X.returnOut hx hret hd hr, hrun, hended, _, locs, rfl, q, ⟨_, rfl⟩, hW, hsame.mono hc hs⟩
/-- a body's contract out of its walk -/
theorem own_met {Z : State} {h0 : Heap} {y : MethodName} {bytes : ByteArray} {ml : Nat} {ret : Option FieldType} {ws : List Jvm.Cond} {rm : Room} {as' : Array Value} (hp : plainFor y = true)
    (body : ∀ (p : Program) (e : Env) (s : State) (m : MethodId) (below : List Frame) (meth : Method) (c : Code) (s₁ : State), Stand p l e rm s m as' below meth c s₁ [] 0 0 → p.tables.exec = Jvm.exec → c.code = bytes → c.maxLocals = ml → meth.sig.returnType = ret → meth.locks = false →
      s.vm.findClass y.cls = some m.cls → meth.name = y.name → Z.Warmed39 s.vm → s₁.heap = h0 → Own p e below s rm.cells rm.slots Q s₁ (entryFrame m as' ml)) :
    MetFree l y (head1 (Jvm.Cond.code y bytes ml ret :: ws) rm) (fun a U => a = as' ∧ Z.Warmed39 U.vm ∧ U.heap = h0) (fun _ _ _ _ _ => True) (fun _ U o U' => ∃ v L, o = .returned v ∧ Q v U'.heap L ∧ FrameEnd U o U' L rm.cells rm.slots) := by
  refine MetFree.of_bodySF hp hisR ?_
  intro p e s m args below meth c s₁ Bd hml0 hP hK
  obtain ⟨rfl, hZ, hh⟩ := hP
  exact body p e s m below meth c s₁ (Stand.of_body Bd) Bd.exec Bd.bytes hml0 Bd.returns Bd.notSynchronized (findClass_of_methodNamed Bd.named) (name_of_methodNamed Bd.named Bd.method).1 hZ (by rw [← hh, Bd.state]; rfl)
theorem own_entry {g g' : JFrame} (q : g = g') (k : Own p e below s kc ks Q T g') : Own p e below s kc ks Q T g := q ▸ k
theorem own_mvMN {Z s : State} {a0 args : Array Value} {own host : String} {index : Nat} {y : MethodName} (hZ : Z.Warmed39 s.vm) (w : (Jvm.Cond.methodLinkNest own index y host).before a0 Z = true) : (Jvm.Cond.methodLinkNest own index y host).before args s = true := (Jvm.Cond.methodLinkNest_wide hZ w :)
theorem own_w {Z : State} {a0 : Array Value} (hw : ∀ d ∈ tables_1, d.before a0 Z = true) (i : Nat) {d : Jvm.Cond} (h : tables_1[i]? = some d) : d.before a0 Z = true := hw _ (List.mem_of_getElem? h)
end OwnKit
theorem own_nz {l : Int64} (b : 0 ≤ l.toInt ∧ l.toInt < 4611686018427387904) : l + (1 : Int64) ≠ 0 := fun h => by
  have q := c_ladd l 1
  rw [h] at q
  have z0 : (0 : Int64).toInt = 0 := by decide
  have z1 : (1 : Int64).toInt = 1 := by decide
  rw [z0, z1] at q
  omega
theorem own_rem {u l : Int64} (hu : 0 ≤ u.toInt) (b : 0 ≤ l.toInt ∧ l.toInt < 4611686018427387904) : 0 ≤ (u - (u / (l + (1 : Int64))) * (l + (1 : Int64))).toInt ∧ (u - (u / (l + (1 : Int64))) * (l + (1 : Int64))).toInt ≤ l.toInt := by
  have q := c_ladd l 1
  have z1 : (1 : Int64).toInt = 1 := by decide
  rw [z1] at q
  have r := rng64 (l + 1)
  have e : (l + (1 : Int64)).toInt = l.toInt + 1 := by omega
  rw [(c_lrem u (l + 1) _ rfl).1 hu, e]
  have h1 := Int.emod_nonneg u.toInt (show l.toInt + 1 ≠ 0 by omega)
  have h2 := Int.emod_lt_of_pos u.toInt (show 0 < l.toInt + 1 by omega)
  omega
theorem own_m30 (x : Int32) : 0 ≤ (x &&& (1073741823 : Int32)).toInt ∧ (x &&& (1073741823 : Int32)).toInt < 1073741824 := by
  rw [c_mask x (1073741823 : Int32) 30 (by decide) (by decide)]; omega
theorem own_m62 (x : Int64) : 0 ≤ (x &&& (4611686018427387903 : Int64)).toInt ∧ (x &&& (4611686018427387903 : Int64)).toInt < 4611686018427387904 := by
  rw [c_maskL x (4611686018427387903 : Int64) 62 (by decide) (by decide)]; omega
theorem own_sumI {x y : Int32} (h1 : 0 ≤ x.toInt ∧ x.toInt < 1073741824) (h2 : 0 ≤ y.toInt ∧ y.toInt < 1073741824) : ¬ (x + y) < (0 : Int32) := by
  have q := c_iadd x y
  have r := rng32 (x + y)
  have z : (0 : Int32).toInt = 0 := by decide
  rw [Int32.lt_iff_toInt_lt, z]; omega
theorem own_sumJ {x y : Int64} (h1 : 0 ≤ x.toInt ∧ x.toInt < 4611686018427387904) (h2 : 0 ≤ y.toInt ∧ y.toInt < 4611686018427387904) : (x + y).toInt = x.toInt + y.toInt := by
  have q := c_ladd x y
  have r := rng64 (x + y)
  omega
theorem own_nonI {x : Int32} (h1 : 0 ≤ x.toInt) : ¬ x < (0 : Int32) := by
  have z : (0 : Int32).toInt = 0 := by decide
  rw [Int32.lt_iff_toInt_lt, z]; omega
theorem own_nonJ {x : Int64} (h1 : 0 ≤ x.toInt) : ¬ x < (0 : Int64) := by
  have z : (0 : Int64).toInt = 0 := by decide
  rw [Int64.lt_iff_toInt_lt, z]; omega
theorem own_leJ {x y : Int64} (h1 : x.toInt ≤ y.toInt) : ¬ y < x := by rw [Int64.lt_iff_toInt_lt]; omega
theorem d2_0 : decode jdk_30_method_1_code 0 = .ok (.aload_n 0, 1) := by decide +kernel
theorem d2_1 : decode jdk_30_method_1_code 1 = .ok (.invokespecial 1, 3) := by decide +kernel
theorem d2_4 : decode jdk_30_method_1_code 4 = .ok (.return_, 1) := by decide +kernel
theorem pn_2 : plainName "java/lang/Record" = true := by first | (simp [plainName, overriddenIn]; done) | decide +kernel
theorem ef_2_R (m : MethodId) (x0 : Addr) : entryFrame m #[(.ref x0)] 1 = mkF m 0 #[.val (.ref x0)] [] := by first | (simp [entryFrame, mkF, argsToLocals, Value.category]; done) | rfl
def Q_rmR (Z : State) (a1 : Addr) (h0 : Heap) (n0 : Nat) (v : Option Value) (h : Heap) (L : List Loc) : Prop := v = none ∧ Fr n0 L ∧ h = h0
set_option maxRecDepth 65536 in
set_option maxHeartbeats 40000000 in
theorem rmR (l : Launch) (Z : State) (a0 : Array Value) (hw : ∀ d ∈ tables_1, d.before a0 Z = true) (ws : List Jvm.Cond) (a1 : Addr) (h0 : Heap) (n0 : Nat) (Z0 : n0 ≤ h0.size)  :
    MetFree l (⟨"java/lang/Record", "<init>", "()V"⟩ : MethodName) (head1 (Jvm.Cond.code (⟨"java/lang/Record", "<init>", "()V"⟩ : MethodName) jdk_30_method_1_code 1 none :: ws) ({ frames := 1, cells := 0, slots := 0, locals := 12 } : Room)) (fun a U => a = #[(.ref a1)] ∧ Z.Warmed39 U.vm ∧ U.heap = h0) (fun _ _ _ _ _ => True) (fun _ U o U' => ∃ v L, o = .returned v ∧ Q_rmR Z a1 h0 n0 v U'.heap L ∧ FrameEnd U o U' L ({ frames := 1, cells := 0, slots := 0, locals := 12 } : Room).cells ({ frames := 1, cells := 0, slots := 0, locals := 12 } : Room).slots) := by
  refine own_met (y := (⟨"java/lang/Record", "<init>", "()V"⟩ : MethodName)) (Q := (Q_rmR Z a1 h0 n0)) (plainFor_of_name pn_2) fun p e s m below meth c s₁ X0 hx hby hml hret hlk hown hnm hZ e0 => ?_
  refine own_entry (ef_2_R m a1) ?_
  refine own_to s₁ (mkF m 1 #[.val (.ref a1)] [(.ref a1)]) (fun t k => XS.aloadN X0.here hx rfl (hb hby d2_0) rfl rfl k) ?_
  obtain ⟨T1, X1, e1, st1⟩ := initO X0 hx hZ hown (own_w hw 15 rfl) (own_w hw 16 rfl) (own_w hw 17 rfl) e0 (g := (mkF m 1 #[.val (.ref a1)] [(.ref a1)])) rfl (by rw [hml]; rfl) rfl (hb hby d2_1) (by decide) (W := 0) (by show 2 * 0 + _ ≤ _; exact Nat.le_of_eq rfl) (by decide)
  refine own_to T1 (mkF m 4 #[.val (.ref a1)] []) (fun t k => st1 _ k) ?_
  exact own_retV X1 hx hret hlk (hb hby d2_4) (by decide) (by decide) ⟨rfl, (Fr.nil n0), e1⟩
theorem d1_0 : decode prog_15_method_1_code 0 = .ok (.aload_n 0, 1) := by decide +kernel
theorem d1_1 : decode prog_15_method_1_code 1 = .ok (.invokespecial 1, 3) := by decide +kernel
theorem d1_4 : decode prog_15_method_1_code 4 = .ok (.iload_n 1, 1) := by decide +kernel
theorem d1_5 : decode prog_15_method_1_code 5 = .ok (.ifCond .lt 31, 3) := by decide +kernel
theorem d1_8 : decode prog_15_method_1_code 8 = .ok (.lload 4, 2) := by decide +kernel
theorem d1_10 : decode prog_15_method_1_code 10 = .ok (.lconst 0, 1) := by decide +kernel
theorem d1_11 : decode prog_15_method_1_code 11 = .ok (.lcmp, 1) := by decide +kernel
theorem d1_12 : decode prog_15_method_1_code 12 = .ok (.ifCond .lt 24, 3) := by decide +kernel
theorem d1_15 : decode prog_15_method_1_code 15 = .ok (.lload 6, 2) := by decide +kernel
theorem d1_17 : decode prog_15_method_1_code 17 = .ok (.lconst 0, 1) := by decide +kernel
theorem d1_18 : decode prog_15_method_1_code 18 = .ok (.lcmp, 1) := by decide +kernel
theorem d1_19 : decode prog_15_method_1_code 19 = .ok (.ifCond .lt 17, 3) := by decide +kernel
theorem d1_22 : decode prog_15_method_1_code 22 = .ok (.lload 4, 2) := by decide +kernel
theorem d1_24 : decode prog_15_method_1_code 24 = .ok (.lload_n 2, 1) := by decide +kernel
theorem d1_25 : decode prog_15_method_1_code 25 = .ok (.lcmp, 1) := by decide +kernel
theorem d1_26 : decode prog_15_method_1_code 26 = .ok (.ifCond .gt 10, 3) := by decide +kernel
theorem d1_29 : decode prog_15_method_1_code 29 = .ok (.lload 6, 2) := by decide +kernel
theorem d1_31 : decode prog_15_method_1_code 31 = .ok (.lload_n 2, 1) := by decide +kernel
theorem d1_32 : decode prog_15_method_1_code 32 = .ok (.lcmp, 1) := by decide +kernel
theorem d1_33 : decode prog_15_method_1_code 33 = .ok (.ifCond .le 22, 3) := by decide +kernel
theorem d1_36 : decode prog_15_method_1_code 36 = .ok (.new 7, 3) := by decide +kernel
theorem d1_39 : decode prog_15_method_1_code 39 = .ok (.dup, 1) := by decide +kernel
theorem d1_40 : decode prog_15_method_1_code 40 = .ok (.iload_n 1, 1) := by decide +kernel
theorem d1_41 : decode prog_15_method_1_code 41 = .ok (.lload_n 2, 1) := by decide +kernel
theorem d1_42 : decode prog_15_method_1_code 42 = .ok (.lload 4, 2) := by decide +kernel
theorem d1_44 : decode prog_15_method_1_code 44 = .ok (.lload 6, 2) := by decide +kernel
theorem d1_46 : decode prog_15_method_1_code 46 = .ok (.invokedynamic 9, 5) := by decide +kernel
theorem d1_51 : decode prog_15_method_1_code 51 = .ok (.invokespecial 13, 3) := by decide +kernel
theorem d1_54 : decode prog_15_method_1_code 54 = .ok (.athrow, 1) := by decide +kernel
theorem d1_55 : decode prog_15_method_1_code 55 = .ok (.aload_n 0, 1) := by decide +kernel
theorem d1_56 : decode prog_15_method_1_code 56 = .ok (.iload_n 1, 1) := by decide +kernel
theorem d1_57 : decode prog_15_method_1_code 57 = .ok (.putfield 16, 3) := by decide +kernel
theorem d1_60 : decode prog_15_method_1_code 60 = .ok (.aload_n 0, 1) := by decide +kernel
theorem d1_61 : decode prog_15_method_1_code 61 = .ok (.lload_n 2, 1) := by decide +kernel
theorem d1_62 : decode prog_15_method_1_code 62 = .ok (.putfield 22, 3) := by decide +kernel
theorem d1_65 : decode prog_15_method_1_code 65 = .ok (.aload_n 0, 1) := by decide +kernel
theorem d1_66 : decode prog_15_method_1_code 66 = .ok (.lload 4, 2) := by decide +kernel
theorem d1_68 : decode prog_15_method_1_code 68 = .ok (.putfield 26, 3) := by decide +kernel
theorem d1_71 : decode prog_15_method_1_code 71 = .ok (.aload_n 0, 1) := by decide +kernel
theorem d1_72 : decode prog_15_method_1_code 72 = .ok (.lload 6, 2) := by decide +kernel
theorem d1_74 : decode prog_15_method_1_code 74 = .ok (.putfield 29, 3) := by decide +kernel
theorem d1_77 : decode prog_15_method_1_code 77 = .ok (.return_, 1) := by decide +kernel
theorem pn_1 : plainName "com/example/interest_ranker/interestranker/model/Precision" = true := by first | (simp [plainName, overriddenIn]; done) | decide +kernel
theorem ef_1_RIJJJ (m : MethodId) (x0 : Addr) (x1 : Int32) (x2 : Int64) (x3 : Int64) (x4 : Int64) : entryFrame m #[(.ref x0), (.int x1), (.long x2), (.long x3), (.long x4)] 8 = mkF m 0 #[.val (.ref x0), .val (.int x1), .val (.long x2), .second, .val (.long x3), .second, .val (.long x4), .second] [] := by first | (simp [entryFrame, mkF, argsToLocals, Value.category]; done) | rfl
def Q_rm1 (Z : State) (a1 : Addr) (x0 : Int32) (q1 q2 q3 : Int64) (h0 : Heap) (n0 : Nat) (v : Option Value) (h : Heap) (L : List Loc) : Prop := v = none ∧ Fr n0 L ∧ Keep h0 h [a1] ∧ Exa Z h a1 "com/example/interest_ranker/interestranker/model/Precision" ∧ Fld Z h a1 "com/example/interest_ranker/interestranker/model/Precision" "pairs" "I" (.int x0) ∧ Fld Z h a1 "com/example/interest_ranker/interestranker/model/Precision" "places" "J" (.long q1) ∧ Fld Z h a1 "com/example/interest_ranker/interestranker/model/Precision" "plainUseful" "J" (.long q2) ∧ Fld Z h a1 "com/example/interest_ranker/interestranker/model/Precision" "personalisedUseful" "J" (.long q3)
theorem pd_1 : parseMethodDescriptor "()V" = some ⟨[], none⟩ := by decide +kernel
theorem sn_places_pairs {Z : State} {a0 : Array Value} (hw : ∀ d ∈ tables_1, d.before a0 Z = true) : Jvm.RoadKit.slotOf Z "com/example/interest_ranker/interestranker/model/Precision" "places" "J" ≠ Jvm.RoadKit.slotOf Z "com/example/interest_ranker/interestranker/model/Precision" "pairs" "I" := Jvm.RoadKit.slot_ne (a0 := a0) (Or.inr (own_w hw 21 rfl)) (Or.inr (own_w hw 19 rfl)) (by decide) (t := .long) (t' := .int) (by decide) (by decide)
theorem sn_plainUseful_pairs {Z : State} {a0 : Array Value} (hw : ∀ d ∈ tables_1, d.before a0 Z = true) : Jvm.RoadKit.slotOf Z "com/example/interest_ranker/interestranker/model/Precision" "plainUseful" "J" ≠ Jvm.RoadKit.slotOf Z "com/example/interest_ranker/interestranker/model/Precision" "pairs" "I" := Jvm.RoadKit.slot_ne (a0 := a0) (Or.inr (own_w hw 23 rfl)) (Or.inr (own_w hw 19 rfl)) (by decide) (t := .long) (t' := .int) (by decide) (by decide)
theorem sn_personalisedUseful_pairs {Z : State} {a0 : Array Value} (hw : ∀ d ∈ tables_1, d.before a0 Z = true) : Jvm.RoadKit.slotOf Z "com/example/interest_ranker/interestranker/model/Precision" "personalisedUseful" "J" ≠ Jvm.RoadKit.slotOf Z "com/example/interest_ranker/interestranker/model/Precision" "pairs" "I" := Jvm.RoadKit.slot_ne (a0 := a0) (Or.inr (own_w hw 25 rfl)) (Or.inr (own_w hw 19 rfl)) (by decide) (t := .long) (t' := .int) (by decide) (by decide)
theorem sn_pairs_places {Z : State} {a0 : Array Value} (hw : ∀ d ∈ tables_1, d.before a0 Z = true) : Jvm.RoadKit.slotOf Z "com/example/interest_ranker/interestranker/model/Precision" "pairs" "I" ≠ Jvm.RoadKit.slotOf Z "com/example/interest_ranker/interestranker/model/Precision" "places" "J" := Jvm.RoadKit.slot_ne (a0 := a0) (Or.inr (own_w hw 19 rfl)) (Or.inr (own_w hw 21 rfl)) (by decide) (t := .int) (t' := .long) (by decide) (by decide)
theorem sn_plainUseful_places {Z : State} {a0 : Array Value} (hw : ∀ d ∈ tables_1, d.before a0 Z = true) : Jvm.RoadKit.slotOf Z "com/example/interest_ranker/interestranker/model/Precision" "plainUseful" "J" ≠ Jvm.RoadKit.slotOf Z "com/example/interest_ranker/interestranker/model/Precision" "places" "J" := Jvm.RoadKit.slot_ne (a0 := a0) (Or.inr (own_w hw 23 rfl)) (Or.inr (own_w hw 21 rfl)) (by decide) (t := .long) (t' := .long) (by decide) (by decide)
theorem sn_personalisedUseful_places {Z : State} {a0 : Array Value} (hw : ∀ d ∈ tables_1, d.before a0 Z = true) : Jvm.RoadKit.slotOf Z "com/example/interest_ranker/interestranker/model/Precision" "personalisedUseful" "J" ≠ Jvm.RoadKit.slotOf Z "com/example/interest_ranker/interestranker/model/Precision" "places" "J" := Jvm.RoadKit.slot_ne (a0 := a0) (Or.inr (own_w hw 25 rfl)) (Or.inr (own_w hw 21 rfl)) (by decide) (t := .long) (t' := .long) (by decide) (by decide)
theorem sn_pairs_plainUseful {Z : State} {a0 : Array Value} (hw : ∀ d ∈ tables_1, d.before a0 Z = true) : Jvm.RoadKit.slotOf Z "com/example/interest_ranker/interestranker/model/Precision" "pairs" "I" ≠ Jvm.RoadKit.slotOf Z "com/example/interest_ranker/interestranker/model/Precision" "plainUseful" "J" := Jvm.RoadKit.slot_ne (a0 := a0) (Or.inr (own_w hw 19 rfl)) (Or.inr (own_w hw 23 rfl)) (by decide) (t := .int) (t' := .long) (by decide) (by decide)
theorem sn_places_plainUseful {Z : State} {a0 : Array Value} (hw : ∀ d ∈ tables_1, d.before a0 Z = true) : Jvm.RoadKit.slotOf Z "com/example/interest_ranker/interestranker/model/Precision" "places" "J" ≠ Jvm.RoadKit.slotOf Z "com/example/interest_ranker/interestranker/model/Precision" "plainUseful" "J" := Jvm.RoadKit.slot_ne (a0 := a0) (Or.inr (own_w hw 21 rfl)) (Or.inr (own_w hw 23 rfl)) (by decide) (t := .long) (t' := .long) (by decide) (by decide)
theorem sn_personalisedUseful_plainUseful {Z : State} {a0 : Array Value} (hw : ∀ d ∈ tables_1, d.before a0 Z = true) : Jvm.RoadKit.slotOf Z "com/example/interest_ranker/interestranker/model/Precision" "personalisedUseful" "J" ≠ Jvm.RoadKit.slotOf Z "com/example/interest_ranker/interestranker/model/Precision" "plainUseful" "J" := Jvm.RoadKit.slot_ne (a0 := a0) (Or.inr (own_w hw 25 rfl)) (Or.inr (own_w hw 23 rfl)) (by decide) (t := .long) (t' := .long) (by decide) (by decide)
theorem sn_pairs_personalisedUseful {Z : State} {a0 : Array Value} (hw : ∀ d ∈ tables_1, d.before a0 Z = true) : Jvm.RoadKit.slotOf Z "com/example/interest_ranker/interestranker/model/Precision" "pairs" "I" ≠ Jvm.RoadKit.slotOf Z "com/example/interest_ranker/interestranker/model/Precision" "personalisedUseful" "J" := Jvm.RoadKit.slot_ne (a0 := a0) (Or.inr (own_w hw 19 rfl)) (Or.inr (own_w hw 25 rfl)) (by decide) (t := .int) (t' := .long) (by decide) (by decide)
theorem sn_places_personalisedUseful {Z : State} {a0 : Array Value} (hw : ∀ d ∈ tables_1, d.before a0 Z = true) : Jvm.RoadKit.slotOf Z "com/example/interest_ranker/interestranker/model/Precision" "places" "J" ≠ Jvm.RoadKit.slotOf Z "com/example/interest_ranker/interestranker/model/Precision" "personalisedUseful" "J" := Jvm.RoadKit.slot_ne (a0 := a0) (Or.inr (own_w hw 21 rfl)) (Or.inr (own_w hw 25 rfl)) (by decide) (t := .long) (t' := .long) (by decide) (by decide)
theorem sn_plainUseful_personalisedUseful {Z : State} {a0 : Array Value} (hw : ∀ d ∈ tables_1, d.before a0 Z = true) : Jvm.RoadKit.slotOf Z "com/example/interest_ranker/interestranker/model/Precision" "plainUseful" "J" ≠ Jvm.RoadKit.slotOf Z "com/example/interest_ranker/interestranker/model/Precision" "personalisedUseful" "J" := Jvm.RoadKit.slot_ne (a0 := a0) (Or.inr (own_w hw 23 rfl)) (Or.inr (own_w hw 25 rfl)) (by decide) (t := .long) (t' := .long) (by decide) (by decide)
set_option maxRecDepth 65536 in
set_option maxHeartbeats 40000000 in
theorem rm1 (l : Launch) (Z : State) (a0 : Array Value) (hw : ∀ d ∈ tables_1, d.before a0 Z = true) (ws : List Jvm.Cond) (a1 : Addr) (x0 : Int32) (q1 q2 q3 : Int64) (h0 : Heap) (n0 : Nat) (Z0 : n0 ≤ h0.size) (E1 : Exa Z h0 a1 "com/example/interest_ranker/interestranker/model/Precision") (F1 : Fld Z h0 a1 "com/example/interest_ranker/interestranker/model/Precision" "pairs" "I" (.int (0 : Int32))) (F2 : Fld Z h0 a1 "com/example/interest_ranker/interestranker/model/Precision" "places" "J" (.long (0 : Int64))) (F3 : Fld Z h0 a1 "com/example/interest_ranker/interestranker/model/Precision" "plainUseful" "J" (.long (0 : Int64))) (F4 : Fld Z h0 a1 "com/example/interest_ranker/interestranker/model/Precision" "personalisedUseful" "J" (.long (0 : Int64))) (g_a1 : n0 ≤ a1) (c1 : ¬ x0 < (0 : Int32)) (c2 : ¬ q2 < (0 : Int64)) (c3 : ¬ q3 < (0 : Int64)) (c4 : ¬ q1 < q2) (c5 : ¬ q1 < q3) :
    MetFree l (⟨"com/example/interest_ranker/interestranker/model/Precision", "<init>", "(IJJJ)V"⟩ : MethodName) (head1 (Jvm.Cond.code (⟨"com/example/interest_ranker/interestranker/model/Precision", "<init>", "(IJJJ)V"⟩ : MethodName) prog_15_method_1_code 8 none :: ws) ({ frames := 2, cells := 0, slots := 0, locals := 24 } : Room)) (fun a U => a = #[(.ref a1), (.int x0), (.long q1), (.long q2), (.long q3)] ∧ Z.Warmed39 U.vm ∧ U.heap = h0) (fun _ _ _ _ _ => True) (fun _ U o U' => ∃ v L, o = .returned v ∧ Q_rm1 Z a1 x0 q1 q2 q3 h0 n0 v U'.heap L ∧ FrameEnd U o U' L ({ frames := 2, cells := 0, slots := 0, locals := 24 } : Room).cells ({ frames := 2, cells := 0, slots := 0, locals := 24 } : Room).slots) := by
  refine own_met (y := (⟨"com/example/interest_ranker/interestranker/model/Precision", "<init>", "(IJJJ)V"⟩ : MethodName)) (Q := (Q_rm1 Z a1 x0 q1 q2 q3 h0 n0)) (plainFor_of_name pn_1) fun p e s m below meth c s₁ X0 hx hby hml hret hlk hown hnm hZ e0 => ?_
  refine own_entry (ef_1_RIJJJ m a1 x0 q1 q2 q3) ?_
  have K0 := Keep.refl h0 [a1]
  refine own_to s₁ (mkF m 1 #[.val (.ref a1), .val (.int x0), .val (.long q1), .second, .val (.long q2), .second, .val (.long q3), .second] [(.ref a1)]) (fun t k => XS.aloadN X0.here hx rfl (hb hby d1_0) rfl rfl k) ?_
  obtain ⟨_, _, ⟨T1, L1, k1, n1⟩, -, X1, ⟨Lc1, hQ1, l1, y1, z1⟩, st1⟩ := X0.specialBack hx (y := (⟨"java/lang/Record", "<init>", "()V"⟩ : MethodName)) rfl hown (mvT hZ (own_w hw 10 rfl)) (mvT hZ (own_w hw 11 rfl)) (mvT hZ (own_w hw 14 rfl)) (by decide) (backOf (W := 0) (rmR l Z a0 hw [] a1 h0 n0 Z0) hZ (own_w hw 14 rfl) (own_w hw 13 rfl) (by decide) (by decide)) (g := (mkF m 1 #[.val (.ref a1), .val (.int x0), .val (.long q1), .second, .val (.long q2), .second, .val (.long q3), .second] [(.ref a1)])) rfl (by rw [hml]; rfl) (Steps.refl _) (a := a1) (argsL := []) (rest := []) (lenOf pd_1 rfl) rfl (by show 2 * 0 + _ ≤ _; exact Nat.le_of_eq rfl) (hb hby d1_1) (fun _ _ => ⟨rfl, e0, (by decide : 0 + 0 ≤ _), (by decide : 0 + 0 ≤ _)⟩)
  dsimp only [Pt.U, Pt.locs, Pt.cells, Pt.slots] at X1 l1 y1 z1 st1 hQ1
  subst l1 y1 z1
  obtain ⟨rfl, N1q, e1⟩ := hQ1
  have N1 := Fr.app (Fr.nil n0) N1q
  refine own_to T1 (mkF m 19 #[.val (.ref a1), .val (.int x0), .val (.long q1), .second, .val (.long q2), .second, .val (.long q3), .second] [(.int (lcmpW q3 (0 : Int64)))]) (fun t k => st1.trans (XS.iloadN X1.here hx rfl (hb hby d1_4) rfl (XS.ifNo X1.here hx rfl (hb hby d1_5) rfl ((if0 _ _).trans (flt c1).1) (XS.lload X1.here hx rfl (hb hby d1_8) rfl (XS.lconst X1.here hx rfl (hb hby d1_10) (XS.lcmp X1.here hx rfl (hb hby d1_11) rfl (XS.ifNo X1.here hx rfl (hb hby d1_12) rfl ((if0 _ _).trans (flt (mt (lw_lt q2 (0 : Int64)).mp c2)).1) (XS.lload X1.here hx rfl (hb hby d1_15) rfl (XS.lconst X1.here hx rfl (hb hby d1_17) (XS.lcmp X1.here hx rfl (hb hby d1_18) rfl k)))))))))) ?_
  refine own_to T1 (mkF m 56 #[.val (.ref a1), .val (.int x0), .val (.long q1), .second, .val (.long q2), .second, .val (.long q3), .second] [(.ref a1)]) (fun t k => XS.ifNo X1.here hx rfl (hb hby d1_19) rfl ((if0 _ _).trans (flt (mt (lw_lt q3 (0 : Int64)).mp c3)).1) (XS.lload X1.here hx rfl (hb hby d1_22) rfl (XS.lloadN X1.here hx rfl (hb hby d1_24) rfl (XS.lcmp X1.here hx rfl (hb hby d1_25) rfl (XS.ifNo X1.here hx rfl (hb hby d1_26) rfl ((if0 _ _).trans (flt (mt (lw_gt q2 q1).mp c4)).2.2.1) (XS.lload X1.here hx rfl (hb hby d1_29) rfl (XS.lloadN X1.here hx rfl (hb hby d1_31) rfl (XS.lcmp X1.here hx rfl (hb hby d1_32) rfl (XS.ifYes X1.here hx rfl (pc0 := 33) (pc' := 55) rfl (hb hby d1_33) rfl ((if0 _ _).trans (flt (mt (lw_gt q3 q1).mp c5)).2.2.2) (by decide) (by decide) (XS.aloadN X1.here hx rfl (hb hby d1_55) rfl rfl k)))))))))) ?_
  refine own_to T1 (mkF m 57 #[.val (.ref a1), .val (.int x0), .val (.long q1), .second, .val (.long q2), .second, .val (.long q3), .second] [(.int x0), (.ref a1)]) (fun t k => XS.iloadN X1.here hx rfl (hb hby d1_56) rfl k) ?_
  obtain ⟨T2, h2, X2, e2, W2, st2⟩ := putF X1 hx hZ hown (host := "") (Or.inl (own_w hw 18 rfl)) Via.refl e1 F1 E1 (Or.inr ⟨(own_w hw 19 rfl), rfl, hnm⟩) (own_w hw 5 rfl) (ty := .int) (by decide) rfl rfl (g := (mkF m 57 #[.val (.ref a1), .val (.int x0), .val (.long q1), .second, .val (.long q2), .second, .val (.long q3), .second] [(.int x0), (.ref a1)])) rfl rfl (hb hby d1_57)
  have f3 := E1.wr W2
  have f4 := F2.other W2 (Or.inr (sn_places_pairs hw))
  have f5 := F3.other W2 (Or.inr (sn_plainUseful_pairs hw))
  have f6 := F4.other W2 (Or.inr (sn_personalisedUseful_pairs hw))
  have f7 := F1.same W2
  have N2 := Fr.snoc X2 N1 g_a1
  have Zs2 : n0 ≤ h2.size := by rw [W2.size]; exact Z0
  have K2 := K0.wr W2 (Or.inl (List.mem_of_getElem? (i := 0) rfl))
  refine own_to T2 (mkF m 62 #[.val (.ref a1), .val (.int x0), .val (.long q1), .second, .val (.long q2), .second, .val (.long q3), .second] [(.long q1), (.ref a1)]) (fun t k => st2 _ (XS.aloadN X2.here hx rfl (hb hby d1_60) rfl rfl (XS.lloadN X2.here hx rfl (hb hby d1_61) rfl k))) ?_
  obtain ⟨T8, h8, X8, e8, W8, st8⟩ := putF X2 hx hZ hown (host := "") (Or.inl (own_w hw 20 rfl)) Via.refl e2 f4 f3 (Or.inr ⟨(own_w hw 21 rfl), rfl, hnm⟩) (own_w hw 5 rfl) (ty := .long) (by decide) rfl rfl (g := (mkF m 62 #[.val (.ref a1), .val (.int x0), .val (.long q1), .second, .val (.long q2), .second, .val (.long q3), .second] [(.long q1), (.ref a1)])) rfl rfl (hb hby d1_62)
  have f9 := f3.wr W8
  have f10 := f7.other W8 (Or.inr (sn_pairs_places hw))
  have f11 := f5.other W8 (Or.inr (sn_plainUseful_places hw))
  have f12 := f6.other W8 (Or.inr (sn_personalisedUseful_places hw))
  have f13 := f4.same W8
  have N8 := Fr.snoc X8 N2 g_a1
  have Zs8 : n0 ≤ h8.size := by rw [W8.size]; exact Zs2
  have K8 := K2.wr W8 (Or.inl (List.mem_of_getElem? (i := 0) rfl))
  refine own_to T8 (mkF m 68 #[.val (.ref a1), .val (.int x0), .val (.long q1), .second, .val (.long q2), .second, .val (.long q3), .second] [(.long q2), (.ref a1)]) (fun t k => st8 _ (XS.aloadN X8.here hx rfl (hb hby d1_65) rfl rfl (XS.lload X8.here hx rfl (hb hby d1_66) rfl k))) ?_
  obtain ⟨T14, h14, X14, e14, W14, st14⟩ := putF X8 hx hZ hown (host := "") (Or.inl (own_w hw 22 rfl)) Via.refl e8 f11 f9 (Or.inr ⟨(own_w hw 23 rfl), rfl, hnm⟩) (own_w hw 5 rfl) (ty := .long) (by decide) rfl rfl (g := (mkF m 68 #[.val (.ref a1), .val (.int x0), .val (.long q1), .second, .val (.long q2), .second, .val (.long q3), .second] [(.long q2), (.ref a1)])) rfl rfl (hb hby d1_68)
  have f15 := f9.wr W14
  have f16 := f10.other W14 (Or.inr (sn_pairs_plainUseful hw))
  have f17 := f13.other W14 (Or.inr (sn_places_plainUseful hw))
  have f18 := f12.other W14 (Or.inr (sn_personalisedUseful_plainUseful hw))
  have f19 := f11.same W14
  have N14 := Fr.snoc X14 N8 g_a1
  have Zs14 : n0 ≤ h14.size := by rw [W14.size]; exact Zs8
  have K14 := K8.wr W14 (Or.inl (List.mem_of_getElem? (i := 0) rfl))
  refine own_to T14 (mkF m 74 #[.val (.ref a1), .val (.int x0), .val (.long q1), .second, .val (.long q2), .second, .val (.long q3), .second] [(.long q3), (.ref a1)]) (fun t k => st14 _ (XS.aloadN X14.here hx rfl (hb hby d1_71) rfl rfl (XS.lload X14.here hx rfl (hb hby d1_72) rfl k))) ?_
  obtain ⟨T20, h20, X20, e20, W20, st20⟩ := putF X14 hx hZ hown (host := "") (Or.inl (own_w hw 24 rfl)) Via.refl e14 f18 f15 (Or.inr ⟨(own_w hw 25 rfl), rfl, hnm⟩) (own_w hw 5 rfl) (ty := .long) (by decide) rfl rfl (g := (mkF m 74 #[.val (.ref a1), .val (.int x0), .val (.long q1), .second, .val (.long q2), .second, .val (.long q3), .second] [(.long q3), (.ref a1)])) rfl rfl (hb hby d1_74)
  have f21 := f15.wr W20
  have f22 := f16.other W20 (Or.inr (sn_pairs_personalisedUseful hw))
  have f23 := f17.other W20 (Or.inr (sn_places_personalisedUseful hw))
  have f24 := f19.other W20 (Or.inr (sn_plainUseful_personalisedUseful hw))
  have f25 := f18.same W20
  have N20 := Fr.snoc X20 N14 g_a1
  have Zs20 : n0 ≤ h20.size := by rw [W20.size]; exact Zs14
  have K20 := K14.wr W20 (Or.inl (List.mem_of_getElem? (i := 0) rfl))
  refine own_to T20 (mkF m 77 #[.val (.ref a1), .val (.int x0), .val (.long q1), .second, .val (.long q2), .second, .val (.long q3), .second] []) (fun t k => st20 _ k) ?_
  exact own_retV X20 hx hret hlk (hb hby d1_77) (by decide) (by decide) (by rw [e20]; exact ⟨rfl, N20, K20, f21, f22, f23, f24, f25⟩)
theorem d4_0 : decode prog_15_method_2_code 0 = .ok (.new 17, 3) := by decide +kernel
theorem d4_3 : decode prog_15_method_2_code 3 = .ok (.dup, 1) := by decide +kernel
theorem d4_4 : decode prog_15_method_2_code 4 = .ok (.aload_n 0, 1) := by decide +kernel
theorem d4_5 : decode prog_15_method_2_code 5 = .ok (.getfield 16, 3) := by decide +kernel
theorem d4_8 : decode prog_15_method_2_code 8 = .ok (.aload_n 1, 1) := by decide +kernel
theorem d4_9 : decode prog_15_method_2_code 9 = .ok (.getfield 16, 3) := by decide +kernel
theorem d4_12 : decode prog_15_method_2_code 12 = .ok (.iadd, 1) := by decide +kernel
theorem d4_13 : decode prog_15_method_2_code 13 = .ok (.aload_n 0, 1) := by decide +kernel
theorem d4_14 : decode prog_15_method_2_code 14 = .ok (.getfield 22, 3) := by decide +kernel
theorem d4_17 : decode prog_15_method_2_code 17 = .ok (.aload_n 1, 1) := by decide +kernel
theorem d4_18 : decode prog_15_method_2_code 18 = .ok (.getfield 22, 3) := by decide +kernel
theorem d4_21 : decode prog_15_method_2_code 21 = .ok (.ladd, 1) := by decide +kernel
theorem d4_22 : decode prog_15_method_2_code 22 = .ok (.aload_n 0, 1) := by decide +kernel
theorem d4_23 : decode prog_15_method_2_code 23 = .ok (.getfield 26, 3) := by decide +kernel
theorem d4_26 : decode prog_15_method_2_code 26 = .ok (.aload_n 1, 1) := by decide +kernel
theorem d4_27 : decode prog_15_method_2_code 27 = .ok (.getfield 26, 3) := by decide +kernel
theorem d4_30 : decode prog_15_method_2_code 30 = .ok (.ladd, 1) := by decide +kernel
theorem d4_31 : decode prog_15_method_2_code 31 = .ok (.aload_n 0, 1) := by decide +kernel
theorem d4_32 : decode prog_15_method_2_code 32 = .ok (.getfield 29, 3) := by decide +kernel
theorem d4_35 : decode prog_15_method_2_code 35 = .ok (.aload_n 1, 1) := by decide +kernel
theorem d4_36 : decode prog_15_method_2_code 36 = .ok (.getfield 29, 3) := by decide +kernel
theorem d4_39 : decode prog_15_method_2_code 39 = .ok (.ladd, 1) := by decide +kernel
theorem d4_40 : decode prog_15_method_2_code 40 = .ok (.invokespecial 32, 3) := by decide +kernel
theorem d4_43 : decode prog_15_method_2_code 43 = .ok (.areturn, 1) := by decide +kernel
theorem ef_4_RR (m : MethodId) (x0 : Addr) (x1 : Addr) : entryFrame m #[(.ref x0), (.ref x1)] 2 = mkF m 0 #[.val (.ref x0), .val (.ref x1)] [] := by first | (simp [entryFrame, mkF, argsToLocals, Value.category]; done) | rfl
def Q_rm4 (Z : State) (a1 a2 : Addr) (x0 : Int32) (q1 q2 q3 : Int64) (x0' : Int32) (q1' q2' q3' : Int64) (h0 : Heap) (n0 : Nat) (v : Option Value) (h : Heap) (L : List Loc) : Prop := ∃ b, v = some (.ref b) ∧ Fr n0 L ∧ Keep h0 h [] ∧ n0 ≤ b ∧ Exa Z h b "com/example/interest_ranker/interestranker/model/Precision" ∧ Fld Z h b "com/example/interest_ranker/interestranker/model/Precision" "pairs" "I" (.int (x0 + x0')) ∧ Fld Z h b "com/example/interest_ranker/interestranker/model/Precision" "places" "J" (.long (q1 + q1')) ∧ Fld Z h b "com/example/interest_ranker/interestranker/model/Precision" "plainUseful" "J" (.long (q2 + q2')) ∧ Fld Z h b "com/example/interest_ranker/interestranker/model/Precision" "personalisedUseful" "J" (.long (q3 + q3'))
theorem pd_0 : parseMethodDescriptor "(IJJJ)V" = some ⟨[.int, .long, .long, .long], none⟩ := by decide +kernel
set_option maxRecDepth 65536 in
set_option maxHeartbeats 40000000 in
theorem rm4 (l : Launch) (Z : State) (a0 : Array Value) (hw : ∀ d ∈ tables_1, d.before a0 Z = true) (ws : List Jvm.Cond) (a1 a2 : Addr) (x0 : Int32) (q1 q2 q3 : Int64) (x0' : Int32) (q1' q2' q3' : Int64) (h0 : Heap) (n0 : Nat) (Z0 : n0 ≤ h0.size) (F1 : Fld Z h0 a1 "com/example/interest_ranker/interestranker/model/Precision" "pairs" "I" (.int x0)) (F2 : Fld Z h0 a1 "com/example/interest_ranker/interestranker/model/Precision" "places" "J" (.long q1)) (F3 : Fld Z h0 a1 "com/example/interest_ranker/interestranker/model/Precision" "plainUseful" "J" (.long q2)) (F4 : Fld Z h0 a1 "com/example/interest_ranker/interestranker/model/Precision" "personalisedUseful" "J" (.long q3)) (G1 : Fld Z h0 a2 "com/example/interest_ranker/interestranker/model/Precision" "pairs" "I" (.int x0')) (G2 : Fld Z h0 a2 "com/example/interest_ranker/interestranker/model/Precision" "places" "J" (.long q1')) (G3 : Fld Z h0 a2 "com/example/interest_ranker/interestranker/model/Precision" "plainUseful" "J" (.long q2')) (G4 : Fld Z h0 a2 "com/example/interest_ranker/interestranker/model/Precision" "personalisedUseful" "J" (.long q3')) (c1 : ¬ (x0 + x0') < (0 : Int32)) (c2 : ¬ (q2 + q2') < (0 : Int64)) (c3 : ¬ (q3 + q3') < (0 : Int64)) (c4 : ¬ (q1 + q1') < (q2 + q2')) (c5 : ¬ (q1 + q1') < (q3 + q3')) :
    MetFree l (⟨"com/example/interest_ranker/interestranker/model/Precision", "plus", "(Lcom/example/interest_ranker/interestranker/model/Precision;)Lcom/example/interest_ranker/interestranker/model/Precision;"⟩ : MethodName) (head1 (Jvm.Cond.code (⟨"com/example/interest_ranker/interestranker/model/Precision", "plus", "(Lcom/example/interest_ranker/interestranker/model/Precision;)Lcom/example/interest_ranker/interestranker/model/Precision;"⟩ : MethodName) prog_15_method_2_code 2 (some (.object "com/example/interest_ranker/interestranker/model/Precision")) :: ws) ({ frames := 3, cells := 1, slots := 4, locals := 44 } : Room)) (fun a U => a = #[(.ref a1), (.ref a2)] ∧ Z.Warmed39 U.vm ∧ U.heap = h0) (fun _ _ _ _ _ => True) (fun _ U o U' => ∃ v L, o = .returned v ∧ Q_rm4 Z a1 a2 x0 q1 q2 q3 x0' q1' q2' q3' h0 n0 v U'.heap L ∧ FrameEnd U o U' L ({ frames := 3, cells := 1, slots := 4, locals := 44 } : Room).cells ({ frames := 3, cells := 1, slots := 4, locals := 44 } : Room).slots) := by
  refine own_met (y := (⟨"com/example/interest_ranker/interestranker/model/Precision", "plus", "(Lcom/example/interest_ranker/interestranker/model/Precision;)Lcom/example/interest_ranker/interestranker/model/Precision;"⟩ : MethodName)) (Q := (Q_rm4 Z a1 a2 x0 q1 q2 q3 x0' q1' q2' q3' h0 n0)) (plainFor_of_name pn_1) fun p e s m below meth c s₁ X0 hx hby hml hret hlk hown hnm hZ e0 => ?_
  refine own_entry (ef_4_RR m a1 a2) ?_
  have K0 := Keep.refl h0 []
  obtain ⟨T1, h1, X1, e1, E1, A1, D1, -, st1⟩ := newO X0 hx hZ hown (own_w hw 31 rfl) (own_w hw 5 rfl) (own_w hw 6 rfl) e0 (g := (mkF m 0 #[.val (.ref a1), .val (.ref a2)] [])) rfl (hb hby d4_0) (by decide) (by decide)
  obtain ⟨b1, g1⟩ : ∃ z, z = h0.size := ⟨_, rfl⟩
  rw [← g1] at A1 D1 st1
  have ne_a1_b1 : a1 ≠ b1 := Nat.ne_of_lt (Nat.lt_of_lt_of_le F1.lt (Nat.le_of_eq g1.symm))
  have ne_a2_b1 : a2 ≠ b1 := Nat.ne_of_lt (Nat.lt_of_lt_of_le G1.lt (Nat.le_of_eq g1.symm))
  have f2 := F1.ext E1
  have f3 := F2.ext E1
  have f4 := F3.ext E1
  have f5 := F4.ext E1
  have f6 := G1.ext E1
  have f7 := G2.ext E1
  have f8 := G3.ext E1
  have f9 := G4.ext E1
  have sz1 : n0 ≤ b1 := Nat.le_trans Z0 (Nat.le_of_eq g1.symm)
  have hs1 : h0.size ≤ b1 := Nat.le_trans K0.1 (Nat.le_of_eq g1.symm)
  have Zs1 : n0 ≤ h1.size := Nat.le_trans Z0 E1.1
  have K1 := K0.ext E1
  have F1_pairs : Fld Z h1 b1 "com/example/interest_ranker/interestranker/model/Precision" "pairs" "I" (.int (0 : Int32)) := D1 (Or.inr (own_w hw 19 rfl)) (ty := .int) (by decide)
  have F1_places : Fld Z h1 b1 "com/example/interest_ranker/interestranker/model/Precision" "places" "J" (.long (0 : Int64)) := D1 (Or.inr (own_w hw 21 rfl)) (ty := .long) (by decide)
  have F1_plainUseful : Fld Z h1 b1 "com/example/interest_ranker/interestranker/model/Precision" "plainUseful" "J" (.long (0 : Int64)) := D1 (Or.inr (own_w hw 23 rfl)) (ty := .long) (by decide)
  have F1_personalisedUseful : Fld Z h1 b1 "com/example/interest_ranker/interestranker/model/Precision" "personalisedUseful" "J" (.long (0 : Int64)) := D1 (Or.inr (own_w hw 25 rfl)) (ty := .long) (by decide)
  refine own_to T1 (mkF m 5 #[.val (.ref a1), .val (.ref a2)] [(.ref a1), (.ref b1), (.ref b1)]) (fun t k => st1 _ (XS.dup X1.here hx rfl (hb hby d4_3) rfl rfl (XS.aloadN X1.here hx rfl (hb hby d4_4) rfl rfl k))) ?_
  obtain ⟨T10, X10, e10, st10⟩ := getF X1 hx hZ hown (host := "") (Or.inl (own_w hw 18 rfl)) Via.refl e1 f2 (g := (mkF m 5 #[.val (.ref a1), .val (.ref a2)] [(.ref a1), (.ref b1), (.ref b1)])) rfl rfl (hb hby d4_5)
  refine own_to T10 (mkF m 9 #[.val (.ref a1), .val (.ref a2)] [(.ref a2), (.int x0), (.ref b1), (.ref b1)]) (fun t k => st10 _ (XS.aloadN X10.here hx rfl (hb hby d4_8) rfl rfl k)) ?_
  obtain ⟨T11, X11, e11, st11⟩ := getF X10 hx hZ hown (host := "") (Or.inl (own_w hw 18 rfl)) Via.refl e10 f6 (g := (mkF m 9 #[.val (.ref a1), .val (.ref a2)] [(.ref a2), (.int x0), (.ref b1), (.ref b1)])) rfl rfl (hb hby d4_9)
  refine own_to T11 (mkF m 14 #[.val (.ref a1), .val (.ref a2)] [(.ref a1), (.int (x0 + x0')), (.ref b1), (.ref b1)]) (fun t k => st11 _ (XS.iadd X11.here hx rfl (hb hby d4_12) rfl (XS.aloadN X11.here hx rfl (hb hby d4_13) rfl rfl k))) ?_
  obtain ⟨T12, X12, e12, st12⟩ := getF X11 hx hZ hown (host := "") (Or.inl (own_w hw 20 rfl)) Via.refl e11 f3 (g := (mkF m 14 #[.val (.ref a1), .val (.ref a2)] [(.ref a1), (.int (x0 + x0')), (.ref b1), (.ref b1)])) rfl rfl (hb hby d4_14)
  refine own_to T12 (mkF m 18 #[.val (.ref a1), .val (.ref a2)] [(.ref a2), (.long q1), (.int (x0 + x0')), (.ref b1), (.ref b1)]) (fun t k => st12 _ (XS.aloadN X12.here hx rfl (hb hby d4_17) rfl rfl k)) ?_
  obtain ⟨T13, X13, e13, st13⟩ := getF X12 hx hZ hown (host := "") (Or.inl (own_w hw 20 rfl)) Via.refl e12 f7 (g := (mkF m 18 #[.val (.ref a1), .val (.ref a2)] [(.ref a2), (.long q1), (.int (x0 + x0')), (.ref b1), (.ref b1)])) rfl rfl (hb hby d4_18)
  refine own_to T13 (mkF m 23 #[.val (.ref a1), .val (.ref a2)] [(.ref a1), (.long (q1 + q1')), (.int (x0 + x0')), (.ref b1), (.ref b1)]) (fun t k => st13 _ (XS.ladd X13.here hx rfl (hb hby d4_21) rfl (XS.aloadN X13.here hx rfl (hb hby d4_22) rfl rfl k))) ?_
  obtain ⟨T14, X14, e14, st14⟩ := getF X13 hx hZ hown (host := "") (Or.inl (own_w hw 22 rfl)) Via.refl e13 f4 (g := (mkF m 23 #[.val (.ref a1), .val (.ref a2)] [(.ref a1), (.long (q1 + q1')), (.int (x0 + x0')), (.ref b1), (.ref b1)])) rfl rfl (hb hby d4_23)
  refine own_to T14 (mkF m 27 #[.val (.ref a1), .val (.ref a2)] [(.ref a2), (.long q2), (.long (q1 + q1')), (.int (x0 + x0')), (.ref b1), (.ref b1)]) (fun t k => st14 _ (XS.aloadN X14.here hx rfl (hb hby d4_26) rfl rfl k)) ?_
  obtain ⟨T15, X15, e15, st15⟩ := getF X14 hx hZ hown (host := "") (Or.inl (own_w hw 22 rfl)) Via.refl e14 f8 (g := (mkF m 27 #[.val (.ref a1), .val (.ref a2)] [(.ref a2), (.long q2), (.long (q1 + q1')), (.int (x0 + x0')), (.ref b1), (.ref b1)])) rfl rfl (hb hby d4_27)
  refine own_to T15 (mkF m 32 #[.val (.ref a1), .val (.ref a2)] [(.ref a1), (.long (q2 + q2')), (.long (q1 + q1')), (.int (x0 + x0')), (.ref b1), (.ref b1)]) (fun t k => st15 _ (XS.ladd X15.here hx rfl (hb hby d4_30) rfl (XS.aloadN X15.here hx rfl (hb hby d4_31) rfl rfl k))) ?_
  obtain ⟨T16, X16, e16, st16⟩ := getF X15 hx hZ hown (host := "") (Or.inl (own_w hw 24 rfl)) Via.refl e15 f5 (g := (mkF m 32 #[.val (.ref a1), .val (.ref a2)] [(.ref a1), (.long (q2 + q2')), (.long (q1 + q1')), (.int (x0 + x0')), (.ref b1), (.ref b1)])) rfl rfl (hb hby d4_32)
  refine own_to T16 (mkF m 36 #[.val (.ref a1), .val (.ref a2)] [(.ref a2), (.long q3), (.long (q2 + q2')), (.long (q1 + q1')), (.int (x0 + x0')), (.ref b1), (.ref b1)]) (fun t k => st16 _ (XS.aloadN X16.here hx rfl (hb hby d4_35) rfl rfl k)) ?_
  obtain ⟨T17, X17, e17, st17⟩ := getF X16 hx hZ hown (host := "") (Or.inl (own_w hw 24 rfl)) Via.refl e16 f9 (g := (mkF m 36 #[.val (.ref a1), .val (.ref a2)] [(.ref a2), (.long q3), (.long (q2 + q2')), (.long (q1 + q1')), (.int (x0 + x0')), (.ref b1), (.ref b1)])) rfl rfl (hb hby d4_36)
  refine own_to T17 (mkF m 40 #[.val (.ref a1), .val (.ref a2)] [(.long (q3 + q3')), (.long (q2 + q2')), (.long (q1 + q1')), (.int (x0 + x0')), (.ref b1), (.ref b1)]) (fun t k => st17 _ (XS.ladd X17.here hx rfl (hb hby d4_39) rfl k)) ?_
  obtain ⟨_, _, ⟨T18, L18, k18, n18⟩, -, X18, ⟨Lc18, hQ18, l18, y18, z18⟩, st18⟩ := X17.specialBack hx (y := (⟨"com/example/interest_ranker/interestranker/model/Precision", "<init>", "(IJJJ)V"⟩ : MethodName)) rfl hown (mvT hZ (own_w hw 32 rfl)) (mvT hZ (own_w hw 8 rfl)) (mvT hZ (own_w hw 9 rfl)) (by decide) (backOf (W := 1) (rm1 l Z a0 hw [] b1 (x0 + x0') (q1 + q1') (q2 + q2') (q3 + q3') h1 n0 Zs1 A1 F1_pairs F1_places F1_plainUseful F1_personalisedUseful sz1 c1 c2 c3 c4 c5) hZ (own_w hw 9 rfl) (own_w hw 6 rfl) (by decide) (by decide)) (g := (mkF m 40 #[.val (.ref a1), .val (.ref a2)] [(.long (q3 + q3')), (.long (q2 + q2')), (.long (q1 + q1')), (.int (x0 + x0')), (.ref b1), (.ref b1)])) rfl (by rw [hml]; rfl) (Steps.refl _) (a := b1) (argsL := [(.int (x0 + x0')), (.long (q1 + q1')), (.long (q2 + q2')), (.long (q3 + q3'))]) (rest := [(.ref b1)]) (lenOf pd_0 rfl) rfl (by show 2 * 0 + _ ≤ _; exact Nat.le_of_eq rfl) (hb hby d4_40) (fun _ _ => ⟨rfl, e17, (by decide : 1 + 0 ≤ _), (by decide : 4 + 0 ≤ _)⟩)
  dsimp only [Pt.U, Pt.locs, Pt.cells, Pt.slots] at X18 l18 y18 z18 st18 hQ18
  subst l18 y18 z18
  obtain ⟨rfl, N18q, K18q, E18q, F18a, F18b, F18c, F18d⟩ := hQ18
  have N18 := Fr.app (Fr.nil n0) N18q
  have f19 := f2.keep K18q (ninS ne_a1_b1 nin0)
  have f20 := f3.keep K18q (ninS ne_a1_b1 nin0)
  have f21 := f4.keep K18q (ninS ne_a1_b1 nin0)
  have f22 := f5.keep K18q (ninS ne_a1_b1 nin0)
  have f23 := f6.keep K18q (ninS ne_a2_b1 nin0)
  have f24 := f7.keep K18q (ninS ne_a2_b1 nin0)
  have f25 := f8.keep K18q (ninS ne_a2_b1 nin0)
  have f26 := f9.keep K18q (ninS ne_a2_b1 nin0)
  have f27 := A1.keep K18q
  have Zs18 : n0 ≤ T18.heap.size := Nat.le_trans Zs1 K18q.1
  have KK18 := K1.trans K18q (allS (Or.inr hs1) all0)
  refine own_to T18 (mkF m 43 #[.val (.ref a1), .val (.ref a2)] [(.ref b1)]) (fun t k => st18.trans k) ?_
  exact own_retA X18 hx hret hlk rfl rfl (hb hby d4_43) (by decide) (by decide) ⟨b1, rfl, N18, KK18, sz1, f27, F18a, F18b, F18c, F18d⟩
theorem d5_0 : decode prog_15_method_6_code 0 = .ok (.aload_n 0, 1) := by decide +kernel
theorem d5_1 : decode prog_15_method_6_code 1 = .ok (.getfield 16, 3) := by decide +kernel
theorem d5_4 : decode prog_15_method_6_code 4 = .ok (.ireturn, 1) := by decide +kernel
theorem ef_5_R (m : MethodId) (x0 : Addr) : entryFrame m #[(.ref x0)] 1 = mkF m 0 #[.val (.ref x0)] [] := by first | (simp [entryFrame, mkF, argsToLocals, Value.category]; done) | rfl
def Q_rm_pairs (Z : State) (a1 : Addr) (x : Int32) (h0 : Heap) (n0 : Nat) (v : Option Value) (h : Heap) (L : List Loc) : Prop := v = some (.int x) ∧ Fr n0 L ∧ h = h0
set_option maxRecDepth 65536 in
set_option maxHeartbeats 40000000 in
theorem rm_pairs (l : Launch) (Z : State) (a0 : Array Value) (hw : ∀ d ∈ tables_1, d.before a0 Z = true) (ws : List Jvm.Cond) (a1 : Addr) (x : Int32) (h0 : Heap) (n0 : Nat) (Z0 : n0 ≤ h0.size) (F1 : Fld Z h0 a1 "com/example/interest_ranker/interestranker/model/Precision" "pairs" "I" (.int x)) :
    MetFree l (⟨"com/example/interest_ranker/interestranker/model/Precision", "pairs", "()I"⟩ : MethodName) (head1 (Jvm.Cond.code (⟨"com/example/interest_ranker/interestranker/model/Precision", "pairs", "()I"⟩ : MethodName) prog_15_method_6_code 1 (some .int) :: ws) ({ frames := 0, cells := 0, slots := 0, locals := 0 } : Room)) (fun a U => a = #[(.ref a1)] ∧ Z.Warmed39 U.vm ∧ U.heap = h0) (fun _ _ _ _ _ => True) (fun _ U o U' => ∃ v L, o = .returned v ∧ Q_rm_pairs Z a1 x h0 n0 v U'.heap L ∧ FrameEnd U o U' L ({ frames := 0, cells := 0, slots := 0, locals := 0 } : Room).cells ({ frames := 0, cells := 0, slots := 0, locals := 0 } : Room).slots) := by
  refine own_met (y := (⟨"com/example/interest_ranker/interestranker/model/Precision", "pairs", "()I"⟩ : MethodName)) (Q := (Q_rm_pairs Z a1 x h0 n0)) (plainFor_of_name pn_1) fun p e s m below meth c s₁ X0 hx hby hml hret hlk hown hnm hZ e0 => ?_
  refine own_entry (ef_5_R m a1) ?_
  refine own_to s₁ (mkF m 1 #[.val (.ref a1)] [(.ref a1)]) (fun t k => XS.aloadN X0.here hx rfl (hb hby d5_0) rfl rfl k) ?_
  obtain ⟨T1, X1, e1, st1⟩ := getF X0 hx hZ hown (host := "") (Or.inl (own_w hw 18 rfl)) Via.refl e0 F1 (g := (mkF m 1 #[.val (.ref a1)] [(.ref a1)])) rfl rfl (hb hby d5_1)
  refine own_to T1 (mkF m 4 #[.val (.ref a1)] [(.int x)]) (fun t k => st1 _ k) ?_
  exact own_retI X1 hx hret hlk (hb hby d5_4) (by decide) (by decide) ⟨rfl, (Fr.nil n0), e1⟩
theorem d6_0 : decode prog_15_method_7_code 0 = .ok (.aload_n 0, 1) := by decide +kernel
theorem d6_1 : decode prog_15_method_7_code 1 = .ok (.getfield 22, 3) := by decide +kernel
theorem d6_4 : decode prog_15_method_7_code 4 = .ok (.lreturn, 1) := by decide +kernel
theorem ef_6_R (m : MethodId) (x0 : Addr) : entryFrame m #[(.ref x0)] 1 = mkF m 0 #[.val (.ref x0)] [] := by first | (simp [entryFrame, mkF, argsToLocals, Value.category]; done) | rfl
def Q_rm_places (Z : State) (a1 : Addr) (x : Int64) (h0 : Heap) (n0 : Nat) (v : Option Value) (h : Heap) (L : List Loc) : Prop := v = some (.long x) ∧ Fr n0 L ∧ h = h0
set_option maxRecDepth 65536 in
set_option maxHeartbeats 40000000 in
theorem rm_places (l : Launch) (Z : State) (a0 : Array Value) (hw : ∀ d ∈ tables_1, d.before a0 Z = true) (ws : List Jvm.Cond) (a1 : Addr) (x : Int64) (h0 : Heap) (n0 : Nat) (Z0 : n0 ≤ h0.size) (F1 : Fld Z h0 a1 "com/example/interest_ranker/interestranker/model/Precision" "places" "J" (.long x)) :
    MetFree l (⟨"com/example/interest_ranker/interestranker/model/Precision", "places", "()J"⟩ : MethodName) (head1 (Jvm.Cond.code (⟨"com/example/interest_ranker/interestranker/model/Precision", "places", "()J"⟩ : MethodName) prog_15_method_7_code 1 (some .long) :: ws) ({ frames := 0, cells := 0, slots := 0, locals := 0 } : Room)) (fun a U => a = #[(.ref a1)] ∧ Z.Warmed39 U.vm ∧ U.heap = h0) (fun _ _ _ _ _ => True) (fun _ U o U' => ∃ v L, o = .returned v ∧ Q_rm_places Z a1 x h0 n0 v U'.heap L ∧ FrameEnd U o U' L ({ frames := 0, cells := 0, slots := 0, locals := 0 } : Room).cells ({ frames := 0, cells := 0, slots := 0, locals := 0 } : Room).slots) := by
  refine own_met (y := (⟨"com/example/interest_ranker/interestranker/model/Precision", "places", "()J"⟩ : MethodName)) (Q := (Q_rm_places Z a1 x h0 n0)) (plainFor_of_name pn_1) fun p e s m below meth c s₁ X0 hx hby hml hret hlk hown hnm hZ e0 => ?_
  refine own_entry (ef_6_R m a1) ?_
  refine own_to s₁ (mkF m 1 #[.val (.ref a1)] [(.ref a1)]) (fun t k => XS.aloadN X0.here hx rfl (hb hby d6_0) rfl rfl k) ?_
  obtain ⟨T1, X1, e1, st1⟩ := getF X0 hx hZ hown (host := "") (Or.inl (own_w hw 20 rfl)) Via.refl e0 F1 (g := (mkF m 1 #[.val (.ref a1)] [(.ref a1)])) rfl rfl (hb hby d6_1)
  refine own_to T1 (mkF m 4 #[.val (.ref a1)] [(.long x)]) (fun t k => st1 _ k) ?_
  exact own_retJ X1 hx hret hlk (hb hby d6_4) (by decide) (by decide) ⟨rfl, (Fr.nil n0), e1⟩
theorem d7_0 : decode prog_15_method_8_code 0 = .ok (.aload_n 0, 1) := by decide +kernel
theorem d7_1 : decode prog_15_method_8_code 1 = .ok (.getfield 26, 3) := by decide +kernel
theorem d7_4 : decode prog_15_method_8_code 4 = .ok (.lreturn, 1) := by decide +kernel
theorem ef_7_R (m : MethodId) (x0 : Addr) : entryFrame m #[(.ref x0)] 1 = mkF m 0 #[.val (.ref x0)] [] := by first | (simp [entryFrame, mkF, argsToLocals, Value.category]; done) | rfl
def Q_rm_plainUseful (Z : State) (a1 : Addr) (x : Int64) (h0 : Heap) (n0 : Nat) (v : Option Value) (h : Heap) (L : List Loc) : Prop := v = some (.long x) ∧ Fr n0 L ∧ h = h0
set_option maxRecDepth 65536 in
set_option maxHeartbeats 40000000 in
theorem rm_plainUseful (l : Launch) (Z : State) (a0 : Array Value) (hw : ∀ d ∈ tables_1, d.before a0 Z = true) (ws : List Jvm.Cond) (a1 : Addr) (x : Int64) (h0 : Heap) (n0 : Nat) (Z0 : n0 ≤ h0.size) (F1 : Fld Z h0 a1 "com/example/interest_ranker/interestranker/model/Precision" "plainUseful" "J" (.long x)) :
    MetFree l (⟨"com/example/interest_ranker/interestranker/model/Precision", "plainUseful", "()J"⟩ : MethodName) (head1 (Jvm.Cond.code (⟨"com/example/interest_ranker/interestranker/model/Precision", "plainUseful", "()J"⟩ : MethodName) prog_15_method_8_code 1 (some .long) :: ws) ({ frames := 0, cells := 0, slots := 0, locals := 0 } : Room)) (fun a U => a = #[(.ref a1)] ∧ Z.Warmed39 U.vm ∧ U.heap = h0) (fun _ _ _ _ _ => True) (fun _ U o U' => ∃ v L, o = .returned v ∧ Q_rm_plainUseful Z a1 x h0 n0 v U'.heap L ∧ FrameEnd U o U' L ({ frames := 0, cells := 0, slots := 0, locals := 0 } : Room).cells ({ frames := 0, cells := 0, slots := 0, locals := 0 } : Room).slots) := by
  refine own_met (y := (⟨"com/example/interest_ranker/interestranker/model/Precision", "plainUseful", "()J"⟩ : MethodName)) (Q := (Q_rm_plainUseful Z a1 x h0 n0)) (plainFor_of_name pn_1) fun p e s m below meth c s₁ X0 hx hby hml hret hlk hown hnm hZ e0 => ?_
  refine own_entry (ef_7_R m a1) ?_
  refine own_to s₁ (mkF m 1 #[.val (.ref a1)] [(.ref a1)]) (fun t k => XS.aloadN X0.here hx rfl (hb hby d7_0) rfl rfl k) ?_
  obtain ⟨T1, X1, e1, st1⟩ := getF X0 hx hZ hown (host := "") (Or.inl (own_w hw 22 rfl)) Via.refl e0 F1 (g := (mkF m 1 #[.val (.ref a1)] [(.ref a1)])) rfl rfl (hb hby d7_1)
  refine own_to T1 (mkF m 4 #[.val (.ref a1)] [(.long x)]) (fun t k => st1 _ k) ?_
  exact own_retJ X1 hx hret hlk (hb hby d7_4) (by decide) (by decide) ⟨rfl, (Fr.nil n0), e1⟩
theorem d8_0 : decode prog_15_method_9_code 0 = .ok (.aload_n 0, 1) := by decide +kernel
theorem d8_1 : decode prog_15_method_9_code 1 = .ok (.getfield 29, 3) := by decide +kernel
theorem d8_4 : decode prog_15_method_9_code 4 = .ok (.lreturn, 1) := by decide +kernel
theorem ef_8_R (m : MethodId) (x0 : Addr) : entryFrame m #[(.ref x0)] 1 = mkF m 0 #[.val (.ref x0)] [] := by first | (simp [entryFrame, mkF, argsToLocals, Value.category]; done) | rfl
def Q_rm_personalisedUseful (Z : State) (a1 : Addr) (x : Int64) (h0 : Heap) (n0 : Nat) (v : Option Value) (h : Heap) (L : List Loc) : Prop := v = some (.long x) ∧ Fr n0 L ∧ h = h0
set_option maxRecDepth 65536 in
set_option maxHeartbeats 40000000 in
theorem rm_personalisedUseful (l : Launch) (Z : State) (a0 : Array Value) (hw : ∀ d ∈ tables_1, d.before a0 Z = true) (ws : List Jvm.Cond) (a1 : Addr) (x : Int64) (h0 : Heap) (n0 : Nat) (Z0 : n0 ≤ h0.size) (F1 : Fld Z h0 a1 "com/example/interest_ranker/interestranker/model/Precision" "personalisedUseful" "J" (.long x)) :
    MetFree l (⟨"com/example/interest_ranker/interestranker/model/Precision", "personalisedUseful", "()J"⟩ : MethodName) (head1 (Jvm.Cond.code (⟨"com/example/interest_ranker/interestranker/model/Precision", "personalisedUseful", "()J"⟩ : MethodName) prog_15_method_9_code 1 (some .long) :: ws) ({ frames := 0, cells := 0, slots := 0, locals := 0 } : Room)) (fun a U => a = #[(.ref a1)] ∧ Z.Warmed39 U.vm ∧ U.heap = h0) (fun _ _ _ _ _ => True) (fun _ U o U' => ∃ v L, o = .returned v ∧ Q_rm_personalisedUseful Z a1 x h0 n0 v U'.heap L ∧ FrameEnd U o U' L ({ frames := 0, cells := 0, slots := 0, locals := 0 } : Room).cells ({ frames := 0, cells := 0, slots := 0, locals := 0 } : Room).slots) := by
  refine own_met (y := (⟨"com/example/interest_ranker/interestranker/model/Precision", "personalisedUseful", "()J"⟩ : MethodName)) (Q := (Q_rm_personalisedUseful Z a1 x h0 n0)) (plainFor_of_name pn_1) fun p e s m below meth c s₁ X0 hx hby hml hret hlk hown hnm hZ e0 => ?_
  refine own_entry (ef_8_R m a1) ?_
  refine own_to s₁ (mkF m 1 #[.val (.ref a1)] [(.ref a1)]) (fun t k => XS.aloadN X0.here hx rfl (hb hby d8_0) rfl rfl k) ?_
  obtain ⟨T1, X1, e1, st1⟩ := getF X0 hx hZ hown (host := "") (Or.inl (own_w hw 24 rfl)) Via.refl e0 F1 (g := (mkF m 1 #[.val (.ref a1)] [(.ref a1)])) rfl rfl (hb hby d8_1)
  refine own_to T1 (mkF m 4 #[.val (.ref a1)] [(.long x)]) (fun t k => st1 _ k) ?_
  exact own_retJ X1 hx hret hlk (hb hby d8_4) (by decide) (by decide) ⟨rfl, (Fr.nil n0), e1⟩
theorem pn_0 : plainName "com/example/interest_ranker/interestranker/model/PrecisionPlusPinLaw" = true := by first | (simp [plainName, overriddenIn]; done) | decide +kernel
theorem ef_0_IJJIJJ (m : MethodId) (x0 : Int32) (x1 : Int64) (x2 : Int64) (x3 : Int32) (x4 : Int64) (x5 : Int64) : entryFrame m #[(.int x0), (.long x1), (.long x2), (.int x3), (.long x4), (.long x5)] maxLocals = mkF m 0 #[.val (.int x0), .val (.long x1), .second, .val (.long x2), .second, .val (.int x3), .val (.long x4), .second, .val (.long x5), .second, .unset, .unset, .unset, .unset, .unset, .unset, .unset, .unset, .unset, .unset, .unset, .unset, .unset, .unset, .unset, .unset, .unset] [] := by first | (simp [entryFrame, mkF, argsToLocals, Value.category, maxLocals]; done) | rfl
def Q_rm0 (Z : State) (i0 : Int32) (i1 i2 : Int64) (i3 : Int32) (i4 i5 : Int64) (h0 : Heap) (n0 : Nat) (v : Option Value) (h : Heap) (L : List Loc) : Prop := v = some (.int 1) ∧ Fr n0 L
theorem pd_2 : parseMethodDescriptor "(Lcom/example/interest_ranker/interestranker/model/Precision;)Lcom/example/interest_ranker/interestranker/model/Precision;" = some ⟨[(.object "com/example/interest_ranker/interestranker/model/Precision")], some (.object "com/example/interest_ranker/interestranker/model/Precision")⟩ := by decide +kernel
theorem pd_3 : parseMethodDescriptor "()I" = some ⟨[], some .int⟩ := by decide +kernel
theorem pd_4 : parseMethodDescriptor "()J" = some ⟨[], some .long⟩ := by decide +kernel
set_option maxRecDepth 65536 in
set_option maxHeartbeats 40000000 in
theorem rm0 (l : Launch) (Z : State) (a0 : Array Value) (hw : ∀ d ∈ tables_1, d.before a0 Z = true) (ws : List Jvm.Cond) (i0 : Int32) (i1 i2 : Int64) (i3 : Int32) (i4 i5 : Int64) (h0 : Heap) (n0 : Nat) (Z0 : n0 ≤ h0.size)  :
    MetFree l x (head1 (Jvm.Cond.code x code maxLocals ret :: ws) room_1) (fun a U => a = #[(.int i0), (.long i1), (.long i2), (.int i3), (.long i4), (.long i5)] ∧ Z.Warmed39 U.vm ∧ U.heap = h0) (fun _ _ _ _ _ => True) (fun _ U o U' => ∃ v L, o = .returned v ∧ Q_rm0 Z i0 i1 i2 i3 i4 i5 h0 n0 v U'.heap L ∧ FrameEnd U o U' L room_1.cells room_1.slots) := by
  refine own_met (y := x) (Q := (Q_rm0 Z i0 i1 i2 i3 i4 i5 h0 n0)) (plainFor_of_name pn_0) fun p e s m below meth c s₁ X0 hx hby hml hret hlk hown hnm hZ e0 => ?_
  refine own_entry (ef_0_IJJIJJ m i0 i1 i2 i3 i4 i5) ?_
  refine own_to s₁ (mkF m 4 #[.val (.int i0), .val (.long i1), .second, .val (.long i2), .second, .val (.int i3), .val (.long i4), .second, .val (.long i5), .second, .unset, .unset, .unset, .unset, .unset, .unset, .unset, .unset, .unset, .unset, .unset, .unset, .unset, .unset, .unset, .unset, .unset] [(.int (i0 &&& (1073741823 : Int32)))]) (fun t k => XS.iloadN X0.here hx rfl (hb hby at_0) rfl (X0.ldcInt hx hown (mvT hZ (own_w hw 0 rfl)) (g := (mkF m 1 #[.val (.int i0), .val (.long i1), .second, .val (.long i2), .second, .val (.int i3), .val (.long i4), .second, .val (.long i5), .second, .unset, .unset, .unset, .unset, .unset, .unset, .unset, .unset, .unset, .unset, .unset, .unset, .unset, .unset, .unset, .unset, .unset] [(.int i0)])) rfl (hb hby at_1) _ (XS.iand X0.here hx rfl (hb hby at_3) rfl k))) ?_
  obtain ⟨x0, hx0⟩ : ∃ v, v = (i0 &&& (1073741823 : Int32)) := ⟨_, rfl⟩
  rw [← hx0]
  have bp := own_m30 i0
  rw [← hx0] at bp
  clear hx0
  refine own_to s₁ (mkF m 11 #[.val (.int i0), .val (.long i1), .second, .val (.long i2), .second, .val (.int i3), .val (.long i4), .second, .val (.long i5), .second, .val (.int x0), .unset, .unset, .unset, .unset, .unset, .unset, .unset, .unset, .unset, .unset, .unset, .unset, .unset, .unset, .unset, .unset] [(.long (i1 &&& (4611686018427387903 : Int64)))]) (fun t k => XS.istore X0.here hx rfl (hb hby at_4) rfl (l' := #[.val (.int i0), .val (.long i1), .second, .val (.long i2), .second, .val (.int i3), .val (.long i4), .second, .val (.long i5), .second, .val (.int x0), .unset, .unset, .unset, .unset, .unset, .unset, .unset, .unset, .unset, .unset, .unset, .unset, .unset, .unset, .unset, .unset]) rfl (XS.lloadN X0.here hx rfl (hb hby at_6) rfl (X0.ldc2Long hx hown (mvT hZ (own_w hw 1 rfl)) (g := (mkF m 7 #[.val (.int i0), .val (.long i1), .second, .val (.long i2), .second, .val (.int i3), .val (.long i4), .second, .val (.long i5), .second, .val (.int x0), .unset, .unset, .unset, .unset, .unset, .unset, .unset, .unset, .unset, .unset, .unset, .unset, .unset, .unset, .unset, .unset] [(.long i1)])) rfl (hb hby at_7) _ (XS.land X0.here hx rfl (hb hby at_10) rfl k)))) ?_
  obtain ⟨q1, hq1⟩ : ∃ v, v = (i1 &&& (4611686018427387903 : Int64)) := ⟨_, rfl⟩
  rw [← hq1]
  have b1 := own_m62 i1
  rw [← hq1] at b1
  clear hq1
  refine own_to s₁ (mkF m 23 #[.val (.int i0), .val (.long i1), .second, .val (.long i2), .second, .val (.int i3), .val (.long i4), .second, .val (.long i5), .second, .val (.int x0), .val (.long q1), .second, .unset, .unset, .unset, .unset, .unset, .unset, .unset, .unset, .unset, .unset, .unset, .unset, .unset, .unset] [(.long ((i2 &&& (4611686018427387903 : Int64)) - ((i2 &&& (4611686018427387903 : Int64)) / (q1 + (1 : Int64))) * (q1 + (1 : Int64))))]) (fun t k => XS.lstore X0.here hx rfl (hb hby at_11) rfl (l' := #[.val (.int i0), .val (.long i1), .second, .val (.long i2), .second, .val (.int i3), .val (.long i4), .second, .val (.long i5), .second, .val (.int x0), .val (.long q1), .second, .unset, .unset, .unset, .unset, .unset, .unset, .unset, .unset, .unset, .unset, .unset, .unset, .unset, .unset]) rfl (XS.lloadN X0.here hx rfl (hb hby at_13) rfl (X0.ldc2Long hx hown (mvT hZ (own_w hw 1 rfl)) (g := (mkF m 14 #[.val (.int i0), .val (.long i1), .second, .val (.long i2), .second, .val (.int i3), .val (.long i4), .second, .val (.long i5), .second, .val (.int x0), .val (.long q1), .second, .unset, .unset, .unset, .unset, .unset, .unset, .unset, .unset, .unset, .unset, .unset, .unset, .unset, .unset] [(.long i2)])) rfl (hb hby at_14) _ (XS.land X0.here hx rfl (hb hby at_17) rfl (XS.lload X0.here hx rfl (hb hby at_18) rfl (XS.lconst X0.here hx rfl (hb hby at_20) (XS.ladd X0.here hx rfl (hb hby at_21) rfl (XS.lrem X0.here hx rfl (hb hby at_22) rfl (own_nz b1) k)))))))) ?_
  obtain ⟨q2, hq2⟩ : ∃ v, v = ((i2 &&& (4611686018427387903 : Int64)) - ((i2 &&& (4611686018427387903 : Int64)) / (q1 + (1 : Int64))) * (q1 + (1 : Int64))) := ⟨_, rfl⟩
  rw [← hq2]
  have b2 := own_rem (own_m62 i2).1 b1
  rw [← hq2] at b2
  clear hq2
  refine own_to s₁ (mkF m 41 #[.val (.int i0), .val (.long i1), .second, .val (.long i2), .second, .val (.int i3), .val (.long i4), .second, .val (.long i5), .second, .val (.int x0), .val (.long q1), .second, .val (.long q2), .second, .unset, .unset, .unset, .unset, .unset, .unset, .unset, .unset, .unset, .unset, .unset, .unset] [(.long (1 : Int64)), (.long q1), (.long (((i2 * (31 : Int64)) + (7 : Int64)) &&& (4611686018427387903 : Int64)))]) (fun t k => XS.lstore X0.here hx rfl (hb hby at_23) rfl (l' := #[.val (.int i0), .val (.long i1), .second, .val (.long i2), .second, .val (.int i3), .val (.long i4), .second, .val (.long i5), .second, .val (.int x0), .val (.long q1), .second, .val (.long q2), .second, .unset, .unset, .unset, .unset, .unset, .unset, .unset, .unset, .unset, .unset, .unset, .unset]) rfl (XS.lloadN X0.here hx rfl (hb hby at_25) rfl (X0.ldc2Long hx hown (mvT hZ (own_w hw 2 rfl)) (g := (mkF m 26 #[.val (.int i0), .val (.long i1), .second, .val (.long i2), .second, .val (.int i3), .val (.long i4), .second, .val (.long i5), .second, .val (.int x0), .val (.long q1), .second, .val (.long q2), .second, .unset, .unset, .unset, .unset, .unset, .unset, .unset, .unset, .unset, .unset, .unset, .unset] [(.long i2)])) rfl (hb hby at_26) _ (XS.lmul X0.here hx rfl (hb hby at_29) rfl (X0.ldc2Long hx hown (mvT hZ (own_w hw 3 rfl)) (g := (mkF m 30 #[.val (.int i0), .val (.long i1), .second, .val (.long i2), .second, .val (.int i3), .val (.long i4), .second, .val (.long i5), .second, .val (.int x0), .val (.long q1), .second, .val (.long q2), .second, .unset, .unset, .unset, .unset, .unset, .unset, .unset, .unset, .unset, .unset, .unset, .unset] [(.long (i2 * (31 : Int64)))])) rfl (hb hby at_30) _ (XS.ladd X0.here hx rfl (hb hby at_33) rfl (X0.ldc2Long hx hown (mvT hZ (own_w hw 1 rfl)) (g := (mkF m 34 #[.val (.int i0), .val (.long i1), .second, .val (.long i2), .second, .val (.int i3), .val (.long i4), .second, .val (.long i5), .second, .val (.int x0), .val (.long q1), .second, .val (.long q2), .second, .unset, .unset, .unset, .unset, .unset, .unset, .unset, .unset, .unset, .unset, .unset, .unset] [(.long ((i2 * (31 : Int64)) + (7 : Int64)))])) rfl (hb hby at_34) _ (XS.land X0.here hx rfl (hb hby at_37) rfl (XS.lload X0.here hx rfl (hb hby at_38) rfl (XS.lconst X0.here hx rfl (hb hby at_40) k)))))))))) ?_
  refine own_to s₁ (mkF m 43 #[.val (.int i0), .val (.long i1), .second, .val (.long i2), .second, .val (.int i3), .val (.long i4), .second, .val (.long i5), .second, .val (.int x0), .val (.long q1), .second, .val (.long q2), .second, .unset, .unset, .unset, .unset, .unset, .unset, .unset, .unset, .unset, .unset, .unset, .unset] [(.long ((((i2 * (31 : Int64)) + (7 : Int64)) &&& (4611686018427387903 : Int64)) - ((((i2 * (31 : Int64)) + (7 : Int64)) &&& (4611686018427387903 : Int64)) / (q1 + (1 : Int64))) * (q1 + (1 : Int64))))]) (fun t k => XS.ladd X0.here hx rfl (hb hby at_41) rfl (XS.lrem X0.here hx rfl (hb hby at_42) rfl (own_nz b1) k)) ?_
  obtain ⟨q3, hq3⟩ : ∃ v, v = ((((i2 * (31 : Int64)) + (7 : Int64)) &&& (4611686018427387903 : Int64)) - ((((i2 * (31 : Int64)) + (7 : Int64)) &&& (4611686018427387903 : Int64)) / (q1 + (1 : Int64))) * (q1 + (1 : Int64))) := ⟨_, rfl⟩
  rw [← hq3]
  have b3 := own_rem (own_m62 (i2 * (31 : Int64) + (7 : Int64))).1 b1
  rw [← hq3] at b3
  clear hq3
  refine own_to s₁ (mkF m 50 #[.val (.int i0), .val (.long i1), .second, .val (.long i2), .second, .val (.int i3), .val (.long i4), .second, .val (.long i5), .second, .val (.int x0), .val (.long q1), .second, .val (.long q2), .second, .val (.long q3), .second, .unset, .unset, .unset, .unset, .unset, .unset, .unset, .unset, .unset, .unset] [(.int (i3 &&& (1073741823 : Int32)))]) (fun t k => XS.lstore X0.here hx rfl (hb hby at_43) rfl (l' := #[.val (.int i0), .val (.long i1), .second, .val (.long i2), .second, .val (.int i3), .val (.long i4), .second, .val (.long i5), .second, .val (.int x0), .val (.long q1), .second, .val (.long q2), .second, .val (.long q3), .second, .unset, .unset, .unset, .unset, .unset, .unset, .unset, .unset, .unset, .unset]) rfl (XS.iload X0.here hx rfl (hb hby at_45) rfl (X0.ldcInt hx hown (mvT hZ (own_w hw 0 rfl)) (g := (mkF m 47 #[.val (.int i0), .val (.long i1), .second, .val (.long i2), .second, .val (.int i3), .val (.long i4), .second, .val (.long i5), .second, .val (.int x0), .val (.long q1), .second, .val (.long q2), .second, .val (.long q3), .second, .unset, .unset, .unset, .unset, .unset, .unset, .unset, .unset, .unset, .unset] [(.int i3)])) rfl (hb hby at_47) _ (XS.iand X0.here hx rfl (hb hby at_49) rfl k)))) ?_
  obtain ⟨x0', hx0'⟩ : ∃ v, v = (i3 &&& (1073741823 : Int32)) := ⟨_, rfl⟩
  rw [← hx0']
  have bp' := own_m30 i3
  rw [← hx0'] at bp'
  clear hx0'
  refine own_to s₁ (mkF m 58 #[.val (.int i0), .val (.long i1), .second, .val (.long i2), .second, .val (.int i3), .val (.long i4), .second, .val (.long i5), .second, .val (.int x0), .val (.long q1), .second, .val (.long q2), .second, .val (.long q3), .second, .val (.int x0'), .unset, .unset, .unset, .unset, .unset, .unset, .unset, .unset, .unset] [(.long (i4 &&& (4611686018427387903 : Int64)))]) (fun t k => XS.istore X0.here hx rfl (hb hby at_50) rfl (l' := #[.val (.int i0), .val (.long i1), .second, .val (.long i2), .second, .val (.int i3), .val (.long i4), .second, .val (.long i5), .second, .val (.int x0), .val (.long q1), .second, .val (.long q2), .second, .val (.long q3), .second, .val (.int x0'), .unset, .unset, .unset, .unset, .unset, .unset, .unset, .unset, .unset]) rfl (XS.lload X0.here hx rfl (hb hby at_52) rfl (X0.ldc2Long hx hown (mvT hZ (own_w hw 1 rfl)) (g := (mkF m 54 #[.val (.int i0), .val (.long i1), .second, .val (.long i2), .second, .val (.int i3), .val (.long i4), .second, .val (.long i5), .second, .val (.int x0), .val (.long q1), .second, .val (.long q2), .second, .val (.long q3), .second, .val (.int x0'), .unset, .unset, .unset, .unset, .unset, .unset, .unset, .unset, .unset] [(.long i4)])) rfl (hb hby at_54) _ (XS.land X0.here hx rfl (hb hby at_57) rfl k)))) ?_
  obtain ⟨q1', hq1'⟩ : ∃ v, v = (i4 &&& (4611686018427387903 : Int64)) := ⟨_, rfl⟩
  rw [← hq1']
  have b1' := own_m62 i4
  rw [← hq1'] at b1'
  clear hq1'
  refine own_to s₁ (mkF m 71 #[.val (.int i0), .val (.long i1), .second, .val (.long i2), .second, .val (.int i3), .val (.long i4), .second, .val (.long i5), .second, .val (.int x0), .val (.long q1), .second, .val (.long q2), .second, .val (.long q3), .second, .val (.int x0'), .val (.long q1'), .second, .unset, .unset, .unset, .unset, .unset, .unset, .unset] [(.long ((i5 &&& (4611686018427387903 : Int64)) - ((i5 &&& (4611686018427387903 : Int64)) / (q1' + (1 : Int64))) * (q1' + (1 : Int64))))]) (fun t k => XS.lstore X0.here hx rfl (hb hby at_58) rfl (l' := #[.val (.int i0), .val (.long i1), .second, .val (.long i2), .second, .val (.int i3), .val (.long i4), .second, .val (.long i5), .second, .val (.int x0), .val (.long q1), .second, .val (.long q2), .second, .val (.long q3), .second, .val (.int x0'), .val (.long q1'), .second, .unset, .unset, .unset, .unset, .unset, .unset, .unset]) rfl (XS.lload X0.here hx rfl (hb hby at_60) rfl (X0.ldc2Long hx hown (mvT hZ (own_w hw 1 rfl)) (g := (mkF m 62 #[.val (.int i0), .val (.long i1), .second, .val (.long i2), .second, .val (.int i3), .val (.long i4), .second, .val (.long i5), .second, .val (.int x0), .val (.long q1), .second, .val (.long q2), .second, .val (.long q3), .second, .val (.int x0'), .val (.long q1'), .second, .unset, .unset, .unset, .unset, .unset, .unset, .unset] [(.long i5)])) rfl (hb hby at_62) _ (XS.land X0.here hx rfl (hb hby at_65) rfl (XS.lload X0.here hx rfl (hb hby at_66) rfl (XS.lconst X0.here hx rfl (hb hby at_68) (XS.ladd X0.here hx rfl (hb hby at_69) rfl (XS.lrem X0.here hx rfl (hb hby at_70) rfl (own_nz b1') k)))))))) ?_
  obtain ⟨q2', hq2'⟩ : ∃ v, v = ((i5 &&& (4611686018427387903 : Int64)) - ((i5 &&& (4611686018427387903 : Int64)) / (q1' + (1 : Int64))) * (q1' + (1 : Int64))) := ⟨_, rfl⟩
  rw [← hq2']
  have b2' := own_rem (own_m62 i5).1 b1'
  rw [← hq2'] at b2'
  clear hq2'
  refine own_to s₁ (mkF m 90 #[.val (.int i0), .val (.long i1), .second, .val (.long i2), .second, .val (.int i3), .val (.long i4), .second, .val (.long i5), .second, .val (.int x0), .val (.long q1), .second, .val (.long q2), .second, .val (.long q3), .second, .val (.int x0'), .val (.long q1'), .second, .val (.long q2'), .second, .unset, .unset, .unset, .unset, .unset] [(.long (1 : Int64)), (.long q1'), (.long (((i5 * (31 : Int64)) + (7 : Int64)) &&& (4611686018427387903 : Int64)))]) (fun t k => XS.lstore X0.here hx rfl (hb hby at_71) rfl (l' := #[.val (.int i0), .val (.long i1), .second, .val (.long i2), .second, .val (.int i3), .val (.long i4), .second, .val (.long i5), .second, .val (.int x0), .val (.long q1), .second, .val (.long q2), .second, .val (.long q3), .second, .val (.int x0'), .val (.long q1'), .second, .val (.long q2'), .second, .unset, .unset, .unset, .unset, .unset]) rfl (XS.lload X0.here hx rfl (hb hby at_73) rfl (X0.ldc2Long hx hown (mvT hZ (own_w hw 2 rfl)) (g := (mkF m 75 #[.val (.int i0), .val (.long i1), .second, .val (.long i2), .second, .val (.int i3), .val (.long i4), .second, .val (.long i5), .second, .val (.int x0), .val (.long q1), .second, .val (.long q2), .second, .val (.long q3), .second, .val (.int x0'), .val (.long q1'), .second, .val (.long q2'), .second, .unset, .unset, .unset, .unset, .unset] [(.long i5)])) rfl (hb hby at_75) _ (XS.lmul X0.here hx rfl (hb hby at_78) rfl (X0.ldc2Long hx hown (mvT hZ (own_w hw 3 rfl)) (g := (mkF m 79 #[.val (.int i0), .val (.long i1), .second, .val (.long i2), .second, .val (.int i3), .val (.long i4), .second, .val (.long i5), .second, .val (.int x0), .val (.long q1), .second, .val (.long q2), .second, .val (.long q3), .second, .val (.int x0'), .val (.long q1'), .second, .val (.long q2'), .second, .unset, .unset, .unset, .unset, .unset] [(.long (i5 * (31 : Int64)))])) rfl (hb hby at_79) _ (XS.ladd X0.here hx rfl (hb hby at_82) rfl (X0.ldc2Long hx hown (mvT hZ (own_w hw 1 rfl)) (g := (mkF m 83 #[.val (.int i0), .val (.long i1), .second, .val (.long i2), .second, .val (.int i3), .val (.long i4), .second, .val (.long i5), .second, .val (.int x0), .val (.long q1), .second, .val (.long q2), .second, .val (.long q3), .second, .val (.int x0'), .val (.long q1'), .second, .val (.long q2'), .second, .unset, .unset, .unset, .unset, .unset] [(.long ((i5 * (31 : Int64)) + (7 : Int64)))])) rfl (hb hby at_83) _ (XS.land X0.here hx rfl (hb hby at_86) rfl (XS.lload X0.here hx rfl (hb hby at_87) rfl (XS.lconst X0.here hx rfl (hb hby at_89) k)))))))))) ?_
  refine own_to s₁ (mkF m 92 #[.val (.int i0), .val (.long i1), .second, .val (.long i2), .second, .val (.int i3), .val (.long i4), .second, .val (.long i5), .second, .val (.int x0), .val (.long q1), .second, .val (.long q2), .second, .val (.long q3), .second, .val (.int x0'), .val (.long q1'), .second, .val (.long q2'), .second, .unset, .unset, .unset, .unset, .unset] [(.long ((((i5 * (31 : Int64)) + (7 : Int64)) &&& (4611686018427387903 : Int64)) - ((((i5 * (31 : Int64)) + (7 : Int64)) &&& (4611686018427387903 : Int64)) / (q1' + (1 : Int64))) * (q1' + (1 : Int64))))]) (fun t k => XS.ladd X0.here hx rfl (hb hby at_90) rfl (XS.lrem X0.here hx rfl (hb hby at_91) rfl (own_nz b1') k)) ?_
  obtain ⟨q3', hq3'⟩ : ∃ v, v = ((((i5 * (31 : Int64)) + (7 : Int64)) &&& (4611686018427387903 : Int64)) - ((((i5 * (31 : Int64)) + (7 : Int64)) &&& (4611686018427387903 : Int64)) / (q1' + (1 : Int64))) * (q1' + (1 : Int64))) := ⟨_, rfl⟩
  rw [← hq3']
  have b3' := own_rem (own_m62 (i5 * (31 : Int64) + (7 : Int64))).1 b1'
  rw [← hq3'] at b3'
  clear hq3'
  refine own_to s₁ (mkF m 94 #[.val (.int i0), .val (.long i1), .second, .val (.long i2), .second, .val (.int i3), .val (.long i4), .second, .val (.long i5), .second, .val (.int x0), .val (.long q1), .second, .val (.long q2), .second, .val (.long q3), .second, .val (.int x0'), .val (.long q1'), .second, .val (.long q2'), .second, .val (.long q3'), .second, .unset, .unset, .unset] []) (fun t k => XS.lstore X0.here hx rfl (hb hby at_92) rfl (l' := #[.val (.int i0), .val (.long i1), .second, .val (.long i2), .second, .val (.int i3), .val (.long i4), .second, .val (.long i5), .second, .val (.int x0), .val (.long q1), .second, .val (.long q2), .second, .val (.long q3), .second, .val (.int x0'), .val (.long q1'), .second, .val (.long q2'), .second, .val (.long q3'), .second, .unset, .unset, .unset]) rfl k) ?_
  obtain ⟨T1, h1, X1, e1, E1, A1, D1, -, st1⟩ := newO X0 hx hZ hown (own_w hw 4 rfl) (own_w hw 5 rfl) (own_w hw 6 rfl) e0 (g := (mkF m 94 #[.val (.int i0), .val (.long i1), .second, .val (.long i2), .second, .val (.int i3), .val (.long i4), .second, .val (.long i5), .second, .val (.int x0), .val (.long q1), .second, .val (.long q2), .second, .val (.long q3), .second, .val (.int x0'), .val (.long q1'), .second, .val (.long q2'), .second, .val (.long q3'), .second, .unset, .unset, .unset] [])) rfl (hb hby at_94) (by decide) (by decide)
  obtain ⟨b1, g1⟩ : ∃ z, z = h0.size := ⟨_, rfl⟩
  rw [← g1] at A1 D1 st1
  have sz1 : n0 ≤ b1 := Nat.le_trans Z0 (Nat.le_of_eq g1.symm)
  have Zs1 : n0 ≤ h1.size := Nat.le_trans Z0 E1.1
  have F1_pairs : Fld Z h1 b1 "com/example/interest_ranker/interestranker/model/Precision" "pairs" "I" (.int (0 : Int32)) := D1 (Or.inr (own_w hw 19 rfl)) (ty := .int) (by decide)
  have F1_places : Fld Z h1 b1 "com/example/interest_ranker/interestranker/model/Precision" "places" "J" (.long (0 : Int64)) := D1 (Or.inr (own_w hw 21 rfl)) (ty := .long) (by decide)
  have F1_plainUseful : Fld Z h1 b1 "com/example/interest_ranker/interestranker/model/Precision" "plainUseful" "J" (.long (0 : Int64)) := D1 (Or.inr (own_w hw 23 rfl)) (ty := .long) (by decide)
  have F1_personalisedUseful : Fld Z h1 b1 "com/example/interest_ranker/interestranker/model/Precision" "personalisedUseful" "J" (.long (0 : Int64)) := D1 (Or.inr (own_w hw 25 rfl)) (ty := .long) (by decide)
  refine own_to T1 (mkF m 106 #[.val (.int i0), .val (.long i1), .second, .val (.long i2), .second, .val (.int i3), .val (.long i4), .second, .val (.long i5), .second, .val (.int x0), .val (.long q1), .second, .val (.long q2), .second, .val (.long q3), .second, .val (.int x0'), .val (.long q1'), .second, .val (.long q2'), .second, .val (.long q3'), .second, .unset, .unset, .unset] [(.long q3), (.long q2), (.long q1), (.int x0), (.ref b1), (.ref b1)]) (fun t k => st1 _ (XS.dup X1.here hx rfl (hb hby at_97) rfl rfl (XS.iload X1.here hx rfl (hb hby at_98) rfl (XS.lload X1.here hx rfl (hb hby at_100) rfl (XS.lload X1.here hx rfl (hb hby at_102) rfl (XS.lload X1.here hx rfl (hb hby at_104) rfl k)))))) ?_
  obtain ⟨_, _, ⟨T2, L2, k2, n2⟩, -, X2, ⟨Lc2, hQ2, l2, y2, z2⟩, st2⟩ := X1.specialBack hx (y := (⟨"com/example/interest_ranker/interestranker/model/Precision", "<init>", "(IJJJ)V"⟩ : MethodName)) rfl hown (mvT hZ (own_w hw 7 rfl)) (mvT hZ (own_w hw 8 rfl)) (mvT hZ (own_w hw 9 rfl)) (by decide) (backOf (W := 1) (rm1 l Z a0 hw [] b1 x0 q1 q2 q3 h1 n0 Zs1 A1 F1_pairs F1_places F1_plainUseful F1_personalisedUseful sz1 (own_nonI bp.1) (own_nonJ b2.1) (own_nonJ b3.1) (own_leJ b2.2) (own_leJ b3.2)) hZ (own_w hw 9 rfl) (own_w hw 6 rfl) (by decide) (by decide)) (g := (mkF m 106 #[.val (.int i0), .val (.long i1), .second, .val (.long i2), .second, .val (.int i3), .val (.long i4), .second, .val (.long i5), .second, .val (.int x0), .val (.long q1), .second, .val (.long q2), .second, .val (.long q3), .second, .val (.int x0'), .val (.long q1'), .second, .val (.long q2'), .second, .val (.long q3'), .second, .unset, .unset, .unset] [(.long q3), (.long q2), (.long q1), (.int x0), (.ref b1), (.ref b1)])) rfl (by rw [hml]; rfl) (Steps.refl _) (a := b1) (argsL := [(.int x0), (.long q1), (.long q2), (.long q3)]) (rest := [(.ref b1)]) (lenOf pd_0 rfl) rfl (by show 2 * 0 + _ ≤ _; exact Nat.le_of_eq rfl) (hb hby at_106) (fun _ _ => ⟨rfl, e1, (by decide : 1 + 0 ≤ _), (by decide : 4 + 0 ≤ _)⟩)
  dsimp only [Pt.U, Pt.locs, Pt.cells, Pt.slots] at X2 l2 y2 z2 st2 hQ2
  subst l2 y2 z2
  obtain ⟨rfl, N2q, K2q, E2q, F2a, F2b, F2c, F2d⟩ := hQ2
  have N2 := Fr.app (Fr.nil n0) N2q
  have f3 := A1.keep K2q
  have Zs2 : n0 ≤ T2.heap.size := Nat.le_trans Zs1 K2q.1
  refine own_to T2 (mkF m 111 #[.val (.int i0), .val (.long i1), .second, .val (.long i2), .second, .val (.int i3), .val (.long i4), .second, .val (.long i5), .second, .val (.int x0), .val (.long q1), .second, .val (.long q2), .second, .val (.long q3), .second, .val (.int x0'), .val (.long q1'), .second, .val (.long q2'), .second, .val (.long q3'), .second, .val (.ref b1), .unset, .unset] []) (fun t k => st2.trans (XS.astore X2.here hx rfl (hb hby at_109) rfl rfl (l' := #[.val (.int i0), .val (.long i1), .second, .val (.long i2), .second, .val (.int i3), .val (.long i4), .second, .val (.long i5), .second, .val (.int x0), .val (.long q1), .second, .val (.long q2), .second, .val (.long q3), .second, .val (.int x0'), .val (.long q1'), .second, .val (.long q2'), .second, .val (.long q3'), .second, .val (.ref b1), .unset, .unset]) rfl k)) ?_
  obtain ⟨T4, h4, X4, e4, E4, A4, D4, -, st4⟩ := newO X2 hx hZ hown (own_w hw 4 rfl) (own_w hw 5 rfl) (own_w hw 6 rfl) rfl (g := (mkF m 111 #[.val (.int i0), .val (.long i1), .second, .val (.long i2), .second, .val (.int i3), .val (.long i4), .second, .val (.long i5), .second, .val (.int x0), .val (.long q1), .second, .val (.long q2), .second, .val (.long q3), .second, .val (.int x0'), .val (.long q1'), .second, .val (.long q2'), .second, .val (.long q3'), .second, .val (.ref b1), .unset, .unset] [])) rfl (hb hby at_111) (by decide) (by decide)
  obtain ⟨b4, g4⟩ : ∃ z, z = T2.heap.size := ⟨_, rfl⟩
  rw [← g4] at A4 D4 st4
  have ne_b1_b4 : b1 ≠ b4 := Nat.ne_of_lt (Nat.lt_of_lt_of_le f3.lt (Nat.le_of_eq g4.symm))
  have f5 := f3.ext E4
  have f6 := F2a.ext E4
  have f7 := F2b.ext E4
  have f8 := F2c.ext E4
  have f9 := F2d.ext E4
  have sz4 : n0 ≤ b4 := Nat.le_trans Zs2 (Nat.le_of_eq g4.symm)
  have Zs4 : n0 ≤ h4.size := Nat.le_trans Zs2 E4.1
  have F4_pairs : Fld Z h4 b4 "com/example/interest_ranker/interestranker/model/Precision" "pairs" "I" (.int (0 : Int32)) := D4 (Or.inr (own_w hw 19 rfl)) (ty := .int) (by decide)
  have F4_places : Fld Z h4 b4 "com/example/interest_ranker/interestranker/model/Precision" "places" "J" (.long (0 : Int64)) := D4 (Or.inr (own_w hw 21 rfl)) (ty := .long) (by decide)
  have F4_plainUseful : Fld Z h4 b4 "com/example/interest_ranker/interestranker/model/Precision" "plainUseful" "J" (.long (0 : Int64)) := D4 (Or.inr (own_w hw 23 rfl)) (ty := .long) (by decide)
  have F4_personalisedUseful : Fld Z h4 b4 "com/example/interest_ranker/interestranker/model/Precision" "personalisedUseful" "J" (.long (0 : Int64)) := D4 (Or.inr (own_w hw 25 rfl)) (ty := .long) (by decide)
  refine own_to T4 (mkF m 123 #[.val (.int i0), .val (.long i1), .second, .val (.long i2), .second, .val (.int i3), .val (.long i4), .second, .val (.long i5), .second, .val (.int x0), .val (.long q1), .second, .val (.long q2), .second, .val (.long q3), .second, .val (.int x0'), .val (.long q1'), .second, .val (.long q2'), .second, .val (.long q3'), .second, .val (.ref b1), .unset, .unset] [(.long q3'), (.long q2'), (.long q1'), (.int x0'), (.ref b4), (.ref b4)]) (fun t k => st4 _ (XS.dup X4.here hx rfl (hb hby at_114) rfl rfl (XS.iload X4.here hx rfl (hb hby at_115) rfl (XS.lload X4.here hx rfl (hb hby at_117) rfl (XS.lload X4.here hx rfl (hb hby at_119) rfl (XS.lload X4.here hx rfl (hb hby at_121) rfl k)))))) ?_
  obtain ⟨_, _, ⟨T10, L10, k10, n10⟩, -, X10, ⟨Lc10, hQ10, l10, y10, z10⟩, st10⟩ := X4.specialBack hx (y := (⟨"com/example/interest_ranker/interestranker/model/Precision", "<init>", "(IJJJ)V"⟩ : MethodName)) rfl hown (mvT hZ (own_w hw 7 rfl)) (mvT hZ (own_w hw 8 rfl)) (mvT hZ (own_w hw 9 rfl)) (by decide) (backOf (W := 1) (rm1 l Z a0 hw [] b4 x0' q1' q2' q3' h4 n0 Zs4 A4 F4_pairs F4_places F4_plainUseful F4_personalisedUseful sz4 (own_nonI bp'.1) (own_nonJ b2'.1) (own_nonJ b3'.1) (own_leJ b2'.2) (own_leJ b3'.2)) hZ (own_w hw 9 rfl) (own_w hw 6 rfl) (by decide) (by decide)) (g := (mkF m 123 #[.val (.int i0), .val (.long i1), .second, .val (.long i2), .second, .val (.int i3), .val (.long i4), .second, .val (.long i5), .second, .val (.int x0), .val (.long q1), .second, .val (.long q2), .second, .val (.long q3), .second, .val (.int x0'), .val (.long q1'), .second, .val (.long q2'), .second, .val (.long q3'), .second, .val (.ref b1), .unset, .unset] [(.long q3'), (.long q2'), (.long q1'), (.int x0'), (.ref b4), (.ref b4)])) rfl (by rw [hml]; rfl) (Steps.refl _) (a := b4) (argsL := [(.int x0'), (.long q1'), (.long q2'), (.long q3')]) (rest := [(.ref b4)]) (lenOf pd_0 rfl) rfl (by show 2 * 0 + _ ≤ _; exact Nat.le_of_eq rfl) (hb hby at_123) (fun _ _ => ⟨rfl, e4, (by decide : 2 + 0 ≤ _), (by decide : 8 + 0 ≤ _)⟩)
  dsimp only [Pt.U, Pt.locs, Pt.cells, Pt.slots] at X10 l10 y10 z10 st10 hQ10
  subst l10 y10 z10
  obtain ⟨rfl, N10q, K10q, E10q, F10a, F10b, F10c, F10d⟩ := hQ10
  have N10 := Fr.app N2 N10q
  have f11 := f5.keep K10q
  have f12 := f6.keep K10q (ninS ne_b1_b4 nin0)
  have f13 := f7.keep K10q (ninS ne_b1_b4 nin0)
  have f14 := f8.keep K10q (ninS ne_b1_b4 nin0)
  have f15 := f9.keep K10q (ninS ne_b1_b4 nin0)
  have f16 := A4.keep K10q
  have Zs10 : n0 ≤ T10.heap.size := Nat.le_trans Zs4 K10q.1
  refine own_to T10 (mkF m 132 #[.val (.int i0), .val (.long i1), .second, .val (.long i2), .second, .val (.int i3), .val (.long i4), .second, .val (.long i5), .second, .val (.int x0), .val (.long q1), .second, .val (.long q2), .second, .val (.long q3), .second, .val (.int x0'), .val (.long q1'), .second, .val (.long q2'), .second, .val (.long q3'), .second, .val (.ref b1), .val (.ref b4), .unset] [(.ref b4), (.ref b1)]) (fun t k => st10.trans (XS.astore X10.here hx rfl (hb hby at_126) rfl rfl (l' := #[.val (.int i0), .val (.long i1), .second, .val (.long i2), .second, .val (.int i3), .val (.long i4), .second, .val (.long i5), .second, .val (.int x0), .val (.long q1), .second, .val (.long q2), .second, .val (.long q3), .second, .val (.int x0'), .val (.long q1'), .second, .val (.long q2'), .second, .val (.long q3'), .second, .val (.ref b1), .val (.ref b4), .unset]) rfl (XS.aload X10.here hx rfl (hb hby at_128) rfl rfl (XS.aload X10.here hx rfl (hb hby at_130) rfl rfl k)))) ?_
  obtain ⟨cq17, kq17, q17a, q17b, q17c⟩ := isOf hZ rfl f11
  obtain ⟨_, _, ⟨T17, L17, k17, n17⟩, -, X17, ⟨Lc17, hQ17, l17, y17, z17⟩, st17⟩ := X10.virtualBack hx (y := (⟨"com/example/interest_ranker/interestranker/model/Precision", "plus", "(Lcom/example/interest_ranker/interestranker/model/Precision;)Lcom/example/interest_ranker/interestranker/model/Precision;"⟩ : MethodName)) (z := (⟨"com/example/interest_ranker/interestranker/model/Precision", "plus", "(Lcom/example/interest_ranker/interestranker/model/Precision;)Lcom/example/interest_ranker/interestranker/model/Precision;"⟩ : MethodName)) hown (mvT hZ (own_w hw 26 rfl)) (mvT hZ (own_w hw 27 rfl)) (notFace_of_selects (args := #[]) (mvT hZ (own_w hw 29 rfl))) (mvT hZ (own_w hw 29 rfl)) (mvT hZ (own_w hw 28 rfl)) (by decide) (backOf (W := 0) (rm4 l Z a0 hw [] b1 b4 x0 q1 q2 q3 x0' q1' q2' q3' T10.heap n0 Zs10 f12 f13 f14 f15 F10a F10b F10c F10d (own_sumI bp bp') (own_nonJ (by rw [own_sumJ (by omega) (by omega)]; omega)) (own_nonJ (by rw [own_sumJ (by omega) (by omega)]; omega)) (own_leJ (by rw [own_sumJ (by omega) (by omega), own_sumJ (by omega) (by omega)]; omega)) (own_leJ (by rw [own_sumJ (by omega) (by omega), own_sumJ (by omega) (by omega)]; omega))) hZ (own_w hw 30 rfl) (own_w hw 6 rfl) (by decide) (by decide)) q17a q17c (g := (mkF m 132 #[.val (.int i0), .val (.long i1), .second, .val (.long i2), .second, .val (.int i3), .val (.long i4), .second, .val (.long i5), .second, .val (.int x0), .val (.long q1), .second, .val (.long q2), .second, .val (.long q3), .second, .val (.int x0'), .val (.long q1'), .second, .val (.long q2'), .second, .val (.long q3'), .second, .val (.ref b1), .val (.ref b4), .unset] [(.ref b4), (.ref b1)])) rfl (by rw [hml]; rfl) (Steps.refl _) (argsL := [(.ref b4)]) (rest := []) (lenOf pd_2 rfl) rfl (by show 2 * 0 + _ ≤ _; exact Nat.le_of_eq rfl) (hb hby at_132) (fun _ _ => ⟨rfl, rfl, (by decide : 2 + 1 ≤ _), (by decide : 8 + 4 ≤ _)⟩)
  dsimp only [Pt.U, Pt.locs, Pt.cells, Pt.slots] at X17 l17 y17 z17 st17 hQ17
  subst l17 y17 z17
  obtain ⟨b17, rfl, N17q, K17q, sz17, E17q, F17a, F17b, F17c, F17d⟩ := hQ17
  have N17 := Fr.app N10 N17q
  have f18 := f11.keep K17q
  have f19 := f12.keep K17q nin0
  have f20 := f13.keep K17q nin0
  have f21 := f14.keep K17q nin0
  have f22 := f15.keep K17q nin0
  have f23 := f16.keep K17q
  have f24 := F10a.keep K17q nin0
  have f25 := F10b.keep K17q nin0
  have f26 := F10c.keep K17q nin0
  have f27 := F10d.keep K17q nin0
  have Zs17 : n0 ≤ T17.heap.size := Nat.le_trans Zs10 K17q.1
  refine own_to T17 (mkF m 139 #[.val (.int i0), .val (.long i1), .second, .val (.long i2), .second, .val (.int i3), .val (.long i4), .second, .val (.long i5), .second, .val (.int x0), .val (.long q1), .second, .val (.long q2), .second, .val (.long q3), .second, .val (.int x0'), .val (.long q1'), .second, .val (.long q2'), .second, .val (.long q3'), .second, .val (.ref b1), .val (.ref b4), .val (.ref b17)] [(.ref b17)]) (fun t k => st17.trans (XS.astore X17.here hx rfl (hb hby at_135) rfl rfl (l' := #[.val (.int i0), .val (.long i1), .second, .val (.long i2), .second, .val (.int i3), .val (.long i4), .second, .val (.long i5), .second, .val (.int x0), .val (.long q1), .second, .val (.long q2), .second, .val (.long q3), .second, .val (.int x0'), .val (.long q1'), .second, .val (.long q2'), .second, .val (.long q3'), .second, .val (.ref b1), .val (.ref b4), .val (.ref b17)]) rfl (XS.aload X17.here hx rfl (hb hby at_137) rfl rfl k))) ?_
  obtain ⟨cq28, kq28, q28a, q28b, q28c⟩ := isOf hZ rfl E17q
  obtain ⟨_, _, ⟨T28, L28, k28, n28⟩, -, X28, ⟨Lc28, hQ28, l28, y28, z28⟩, st28⟩ := X17.virtualBack hx (y := (⟨"com/example/interest_ranker/interestranker/model/Precision", "pairs", "()I"⟩ : MethodName)) (z := (⟨"com/example/interest_ranker/interestranker/model/Precision", "pairs", "()I"⟩ : MethodName)) hown (mvT hZ (own_w hw 33 rfl)) (mvT hZ (own_w hw 34 rfl)) (notFace_of_selects (args := #[]) (mvT hZ (own_w hw 36 rfl))) (mvT hZ (own_w hw 36 rfl)) (mvT hZ (own_w hw 35 rfl)) (by decide) (backOf (W := 0) (rm_pairs l Z a0 hw [] b17 (x0 + x0') T17.heap n0 Zs17 F17a) hZ (own_w hw 37 rfl) (own_w hw 6 rfl) (by decide) (by decide)) q28a q28c (g := (mkF m 139 #[.val (.int i0), .val (.long i1), .second, .val (.long i2), .second, .val (.int i3), .val (.long i4), .second, .val (.long i5), .second, .val (.int x0), .val (.long q1), .second, .val (.long q2), .second, .val (.long q3), .second, .val (.int x0'), .val (.long q1'), .second, .val (.long q2'), .second, .val (.long q3'), .second, .val (.ref b1), .val (.ref b4), .val (.ref b17)] [(.ref b17)])) rfl (by rw [hml]; rfl) (Steps.refl _) (argsL := []) (rest := []) (lenOf pd_3 rfl) rfl (by show 2 * 0 + _ ≤ _; exact Nat.le_of_eq rfl) (hb hby at_139) (fun _ _ => ⟨rfl, rfl, (by decide : 3 + 0 ≤ _), (by decide : 12 + 0 ≤ _)⟩)
  dsimp only [Pt.U, Pt.locs, Pt.cells, Pt.slots] at X28 l28 y28 z28 st28 hQ28
  subst l28 y28 z28
  obtain ⟨rfl, N28q, e28⟩ := hQ28
  have N28 := Fr.app N17 N28q
  refine own_to T28 (mkF m 152 #[.val (.int i0), .val (.long i1), .second, .val (.long i2), .second, .val (.int i3), .val (.long i4), .second, .val (.long i5), .second, .val (.int x0), .val (.long q1), .second, .val (.long q2), .second, .val (.long q3), .second, .val (.int x0'), .val (.long q1'), .second, .val (.long q2'), .second, .val (.long q3'), .second, .val (.ref b1), .val (.ref b4), .val (.ref b17)] [(.ref b17)]) (fun t k => st28.trans (XS.iload X28.here hx rfl (hb hby at_142) rfl (XS.iload X28.here hx rfl (hb hby at_144) rfl (XS.iadd X28.here hx rfl (hb hby at_146) rfl (XS.icmpNo X28.here hx rfl (hb hby at_147) rfl (teq (rfl : (x0 + x0') = (x0 + x0'))).2 (XS.aload X28.here hx rfl (hb hby at_150) rfl rfl k)))))) ?_
  obtain ⟨cq29, kq29, q29a, q29b, q29c⟩ := isOf hZ e28 E17q
  obtain ⟨_, _, ⟨T29, L29, k29, n29⟩, -, X29, ⟨Lc29, hQ29, l29, y29, z29⟩, st29⟩ := X28.virtualBack hx (y := (⟨"com/example/interest_ranker/interestranker/model/Precision", "places", "()J"⟩ : MethodName)) (z := (⟨"com/example/interest_ranker/interestranker/model/Precision", "places", "()J"⟩ : MethodName)) hown (mvT hZ (own_w hw 38 rfl)) (mvT hZ (own_w hw 39 rfl)) (notFace_of_selects (args := #[]) (mvT hZ (own_w hw 41 rfl))) (mvT hZ (own_w hw 41 rfl)) (mvT hZ (own_w hw 40 rfl)) (by decide) (backOf (W := 0) (rm_places l Z a0 hw [] b17 (q1 + q1') T17.heap n0 Zs17 F17b) hZ (own_w hw 42 rfl) (own_w hw 6 rfl) (by decide) (by decide)) q29a q29c (g := (mkF m 152 #[.val (.int i0), .val (.long i1), .second, .val (.long i2), .second, .val (.int i3), .val (.long i4), .second, .val (.long i5), .second, .val (.int x0), .val (.long q1), .second, .val (.long q2), .second, .val (.long q3), .second, .val (.int x0'), .val (.long q1'), .second, .val (.long q2'), .second, .val (.long q3'), .second, .val (.ref b1), .val (.ref b4), .val (.ref b17)] [(.ref b17)])) rfl (by rw [hml]; rfl) (Steps.refl _) (argsL := []) (rest := []) (lenOf pd_4 rfl) rfl (by show 2 * 0 + _ ≤ _; exact Nat.le_of_eq rfl) (hb hby at_152) (fun _ _ => ⟨rfl, e28, (by decide : 3 + 0 ≤ _), (by decide : 12 + 0 ≤ _)⟩)
  dsimp only [Pt.U, Pt.locs, Pt.cells, Pt.slots] at X29 l29 y29 z29 st29 hQ29
  subst l29 y29 z29
  obtain ⟨rfl, N29q, e29⟩ := hQ29
  have N29 := Fr.app N28 N29q
  refine own_to T29 (mkF m 166 #[.val (.int i0), .val (.long i1), .second, .val (.long i2), .second, .val (.int i3), .val (.long i4), .second, .val (.long i5), .second, .val (.int x0), .val (.long q1), .second, .val (.long q2), .second, .val (.long q3), .second, .val (.int x0'), .val (.long q1'), .second, .val (.long q2'), .second, .val (.long q3'), .second, .val (.ref b1), .val (.ref b4), .val (.ref b17)] [(.ref b17)]) (fun t k => st29.trans (XS.lload X29.here hx rfl (hb hby at_155) rfl (XS.lload X29.here hx rfl (hb hby at_157) rfl (XS.ladd X29.here hx rfl (hb hby at_159) rfl (XS.lcmp X29.here hx rfl (hb hby at_160) rfl (XS.ifNo X29.here hx rfl (hb hby at_161) rfl ((if0 _ _).trans (teq ((lw_eq (q1 + q1') (q1 + q1')).mpr (rfl : (q1 + q1') = (q1 + q1')))).2) (XS.aload X29.here hx rfl (hb hby at_164) rfl rfl k))))))) ?_
  obtain ⟨cq30, kq30, q30a, q30b, q30c⟩ := isOf hZ e29 E17q
  obtain ⟨_, _, ⟨T30, L30, k30, n30⟩, -, X30, ⟨Lc30, hQ30, l30, y30, z30⟩, st30⟩ := X29.virtualBack hx (y := (⟨"com/example/interest_ranker/interestranker/model/Precision", "plainUseful", "()J"⟩ : MethodName)) (z := (⟨"com/example/interest_ranker/interestranker/model/Precision", "plainUseful", "()J"⟩ : MethodName)) hown (mvT hZ (own_w hw 43 rfl)) (mvT hZ (own_w hw 44 rfl)) (notFace_of_selects (args := #[]) (mvT hZ (own_w hw 46 rfl))) (mvT hZ (own_w hw 46 rfl)) (mvT hZ (own_w hw 45 rfl)) (by decide) (backOf (W := 0) (rm_plainUseful l Z a0 hw [] b17 (q2 + q2') T17.heap n0 Zs17 F17c) hZ (own_w hw 47 rfl) (own_w hw 6 rfl) (by decide) (by decide)) q30a q30c (g := (mkF m 166 #[.val (.int i0), .val (.long i1), .second, .val (.long i2), .second, .val (.int i3), .val (.long i4), .second, .val (.long i5), .second, .val (.int x0), .val (.long q1), .second, .val (.long q2), .second, .val (.long q3), .second, .val (.int x0'), .val (.long q1'), .second, .val (.long q2'), .second, .val (.long q3'), .second, .val (.ref b1), .val (.ref b4), .val (.ref b17)] [(.ref b17)])) rfl (by rw [hml]; rfl) (Steps.refl _) (argsL := []) (rest := []) (lenOf pd_4 rfl) rfl (by show 2 * 0 + _ ≤ _; exact Nat.le_of_eq rfl) (hb hby at_166) (fun _ _ => ⟨rfl, e29, (by decide : 3 + 0 ≤ _), (by decide : 12 + 0 ≤ _)⟩)
  dsimp only [Pt.U, Pt.locs, Pt.cells, Pt.slots] at X30 l30 y30 z30 st30 hQ30
  subst l30 y30 z30
  obtain ⟨rfl, N30q, e30⟩ := hQ30
  have N30 := Fr.app N29 N30q
  refine own_to T30 (mkF m 180 #[.val (.int i0), .val (.long i1), .second, .val (.long i2), .second, .val (.int i3), .val (.long i4), .second, .val (.long i5), .second, .val (.int x0), .val (.long q1), .second, .val (.long q2), .second, .val (.long q3), .second, .val (.int x0'), .val (.long q1'), .second, .val (.long q2'), .second, .val (.long q3'), .second, .val (.ref b1), .val (.ref b4), .val (.ref b17)] [(.ref b17)]) (fun t k => st30.trans (XS.lload X30.here hx rfl (hb hby at_169) rfl (XS.lload X30.here hx rfl (hb hby at_171) rfl (XS.ladd X30.here hx rfl (hb hby at_173) rfl (XS.lcmp X30.here hx rfl (hb hby at_174) rfl (XS.ifNo X30.here hx rfl (hb hby at_175) rfl ((if0 _ _).trans (teq ((lw_eq (q2 + q2') (q2 + q2')).mpr (rfl : (q2 + q2') = (q2 + q2')))).2) (XS.aload X30.here hx rfl (hb hby at_178) rfl rfl k))))))) ?_
  obtain ⟨cq31, kq31, q31a, q31b, q31c⟩ := isOf hZ e30 E17q
  obtain ⟨_, _, ⟨T31, L31, k31, n31⟩, -, X31, ⟨Lc31, hQ31, l31, y31, z31⟩, st31⟩ := X30.virtualBack hx (y := (⟨"com/example/interest_ranker/interestranker/model/Precision", "personalisedUseful", "()J"⟩ : MethodName)) (z := (⟨"com/example/interest_ranker/interestranker/model/Precision", "personalisedUseful", "()J"⟩ : MethodName)) hown (mvT hZ (own_w hw 48 rfl)) (mvT hZ (own_w hw 49 rfl)) (notFace_of_selects (args := #[]) (mvT hZ (own_w hw 51 rfl))) (mvT hZ (own_w hw 51 rfl)) (mvT hZ (own_w hw 50 rfl)) (by decide) (backOf (W := 0) (rm_personalisedUseful l Z a0 hw [] b17 (q3 + q3') T17.heap n0 Zs17 F17d) hZ (own_w hw 52 rfl) (own_w hw 6 rfl) (by decide) (by decide)) q31a q31c (g := (mkF m 180 #[.val (.int i0), .val (.long i1), .second, .val (.long i2), .second, .val (.int i3), .val (.long i4), .second, .val (.long i5), .second, .val (.int x0), .val (.long q1), .second, .val (.long q2), .second, .val (.long q3), .second, .val (.int x0'), .val (.long q1'), .second, .val (.long q2'), .second, .val (.long q3'), .second, .val (.ref b1), .val (.ref b4), .val (.ref b17)] [(.ref b17)])) rfl (by rw [hml]; rfl) (Steps.refl _) (argsL := []) (rest := []) (lenOf pd_4 rfl) rfl (by show 2 * 0 + _ ≤ _; exact Nat.le_of_eq rfl) (hb hby at_180) (fun _ _ => ⟨rfl, e30, (by decide : 3 + 0 ≤ _), (by decide : 12 + 0 ≤ _)⟩)
  dsimp only [Pt.U, Pt.locs, Pt.cells, Pt.slots] at X31 l31 y31 z31 st31 hQ31
  subst l31 y31 z31
  obtain ⟨rfl, N31q, e31⟩ := hQ31
  have N31 := Fr.app N30 N31q
  refine own_to T31 (mkF m 197 #[.val (.int i0), .val (.long i1), .second, .val (.long i2), .second, .val (.int i3), .val (.long i4), .second, .val (.long i5), .second, .val (.int x0), .val (.long q1), .second, .val (.long q2), .second, .val (.long q3), .second, .val (.int x0'), .val (.long q1'), .second, .val (.long q2'), .second, .val (.long q3'), .second, .val (.ref b1), .val (.ref b4), .val (.ref b17)] [(.int (1 : Int32))]) (fun t k => st31.trans (XS.lload X31.here hx rfl (hb hby at_183) rfl (XS.lload X31.here hx rfl (hb hby at_185) rfl (XS.ladd X31.here hx rfl (hb hby at_187) rfl (XS.lcmp X31.here hx rfl (hb hby at_188) rfl (XS.ifNo X31.here hx rfl (hb hby at_189) rfl ((if0 _ _).trans (teq ((lw_eq (q3 + q3') (q3 + q3')).mpr (rfl : (q3 + q3') = (q3 + q3')))).2) (XS.iconst X31.here hx rfl (hb hby at_192) (XS.goto X31.here hx rfl (pc0 := 193) (pc' := 197) rfl (hb hby at_193) (by decide) (by decide) k)))))))) ?_
  exact own_retZ X31 hx hret hlk (hb hby at_197) (by decide) (by decide) (Or.inr rfl) ⟨rfl, N31⟩
set_option maxRecDepth 65536 in
set_option maxHeartbeats 40000000 in
theorem comes_1 {Post : Tables → Env → Array Value → State → Outcome → State → Prop} (hpost : ∀ tb e args s v u, (limb_1_1.after args s (.returned v) u = true ∧ limb_1_2.after args s (.returned v) u = true ∧ True) → FrameEnd s (.returned v) u (Jvm.fieldLocs frame_1_writes args s ++ Jvm.arrayLocs frame_1_arrays args s ++ Jvm.staticLocs frame_1_statics s) 16 128 → Post tb e args s (.returned v) u) :
    ArmFor flags0 classFile x code maxLocals ret World_1 tables_1 room_1 Calls_1 rest_1 Pre_1 Post := by
  intro l hfl _ _ p e ha hc hk s m args below hf hA hF happ hP
  obtain ⟨hcalls, hrest, hpre⟩ := hP
  obtain ⟨-, -, -, hnamed, -, -, -, hat⟩ := (Spec.applies_iff hf).mp happ
  obtain ⟨hg, hn⟩ := and_e (Cond.before_iff.mp (show (Jvm.Cond.and given_1 narrow_1).before args s = true from hpre))
  obtain ⟨q1, q2⟩ := and_e hg
  obtain ⟨q3, q4⟩ := and_e q2
  obtain ⟨q5, q6⟩ := and_e q4
  obtain ⟨q7, q8⟩ := and_e q6
  obtain ⟨q9, q10⟩ := and_e q8
  obtain ⟨q11, q12⟩ := and_e q10
  obtain ⟨w0, w1, w2, w3, w4, w5, rfl⟩ : ∃ w0 w1 w2 w3 w4 w5 : Value, args = #[w0, w1, w2, w3, w4, w5] := by
    have hs : args.size = 6 := by simpa [Cond.value, given_1] using q1
    obtain ⟨L⟩ := args
    match L, hs with
    | [w0, w1, w2, w3, w4, w5], _ => exact ⟨w0, w1, w2, w3, w4, w5, rfl⟩
  have hw := fun d (hd : d ∈ tables_1) => atoms_spec (ws := Jvm.Cond.code x code maxLocals ret :: tables_1) hat d (List.mem_cons_of_mem _ hd)
  have hfit : Fit s := fun {y c} hc i hi => by
    obtain ⟨ha, rfl⟩ := Array.getElem?_eq_some_iff.mp hc
    have q := List.all_eq_true.mp ((Array.all_eq_true_iff_forall_mem.mp hF) _ (Array.getElem_mem ha)) i (List.mem_range.mpr hi)
    simpa [Array.getElem?_eq_getElem hi] using q
  obtain ⟨i0, ei0⟩ := is_v q3
  obtain rfl : w0 = (.int i0) := Option.some.inj ei0
  obtain ⟨i1, ei1⟩ := isL_v q5
  obtain rfl : w1 = (.long i1) := Option.some.inj ei1
  obtain ⟨i2, ei2⟩ := isL_v q7
  obtain rfl : w2 = (.long i2) := Option.some.inj ei2
  obtain ⟨i3, ei3⟩ := is_v q9
  obtain rfl : w3 = (.int i3) := Option.some.inj ei3
  obtain ⟨i4, ei4⟩ := isL_v q11
  obtain rfl : w4 = (.long i4) := Option.some.inj ei4
  obtain ⟨i5, ei5⟩ := isL_v q12
  obtain rfl : w5 = (.long i5) := Option.some.inj ei5
  obtain ⟨n, o, h1, h2, h3, _, L, rfl, ⟨rfl, N⟩, hq⟩ := rm0 l s _ hw tables_1 i0 i1 i2 i3 i4 i5 s.heap s.heap.size (Nat.le_refl _)  p e ha hc hk s m _ below hf ((Spec.applies_iff_loose hf).mp happ).1 ⟨rfl, State.Warmed39.refl s, rfl⟩ trivial
  refine ⟨n, _, h1, h2, h3, hpost _ _ _ _ _ _ ⟨Cond.after_iff.mpr rfl, Cond.after_iff.mpr (eq_i res_at (Term.int_eval (1)) rfl), trivial⟩ ⟨hq.1, hq.2.1, (hq.2.2.sift fun y hy => Or.inr (N y hy)).mono (by decide) (by decide)⟩⟩
theorem main_1_1 : Claimed_1_1 := comes_1 fun _ _ _ _ _ _ h hF => ⟨h.1, hF⟩
theorem main_1_2 : Claimed_1_2 := comes_1 fun _ _ _ _ _ _ h hF => ⟨h.2.1, hF⟩
end Jvm.Pilot.@@N@@
namespace Jvm.Pilot.@@N@@
open Jvm Jvm.ClassFile Sem Op Lib Jvm.Free Jvm.Stand Jvm.Pilot.@@N@@.Jvm.D
/-! MADE BY PROGRAM (witnessworld.py) out of the Statement's table words and the real class files: 10 classes; the members and pool entries that the words name. The judged class is class 1, her method 1. -/
namespace start1
open Jvm.ClassFile
def u (s : String) : CpInfo := .utf8 (stringToUtf16 s)
/-- a pool by its gaps: so many unusable entries, then the entry; so many at the end -/
def gap : Nat → List CpInfo → List CpInfo
  | 0, r => r
  | n + 1, r => .unusable :: gap n r
def poolList (es : List (Nat × CpInfo)) (last : Nat) : List CpInfo := es.foldr (fun e r => gap e.1 (e.2 :: r)) (gap last [])
def pool (es : List (Nat × CpInfo)) (last : Nat) : Array CpInfo := ⟨poolList es last⟩
def fileOf (pool : Array CpInfo) (this : Nat) (attrs : Array Attribute := #[]) (ms : Array MethodInfo := #[]) (fl : Nat := 33) (sup : Nat := 0) (ifs : Array Nat := #[]) (fds : Array FieldInfo := #[]) : ClassFile where
  minorVersion := 0
  majorVersion := 65
  constantPool := pool
  accessFlags := fl
  thisClass := this
  superClass := sup
  interfaces := ifs
  fields := fds
  methods := ms
  attributes := attrs
def plain (name : String) (sup : Option ClassId) : Class where
  name := name
  kind := .ordinary
  loader := none
  accessFlags := 33
  super := sup
  interfaces := #[]
  cf := none
  fields := #[]
  methods := #[]
  instanceTypes := #[]
  staticTypes := #[]
  resolved := #[]
  callSites := []
  init := .initialized
  statics := none
  mirror := none

def pool0 : Array CpInfo := pool [(5, u "<init>"), (0, u "()V"), (1, .class_ 10), (1, u "java/lang/Object")] 113

def k0c0 : Code := { maxStack := 0, maxLocals := 1, code := object_method_1_code, exceptionTable := #[], attributes := #[] }
def k0m0 : Method := { name := "<init>", desc := "()V", sig := { parameters := [], returnType := none }, accessFlags := 1, code := some k0c0 }
/-- java/lang/Object -/
def k0 : Class := { plain "java/lang/Object" none with
  accessFlags := 33
  interfaces := #[]
  cf := some (fileOf pool0 8 #[] #[{ accessFlags := 1, nameIndex := 5, descriptorIndex := 6, attributes := #[] }] 33 0 #[] #[])
  fields := #[]
  methods := #[k0m0]
  instanceTypes := #[]
  staticTypes := #[]
  resolved := Array.replicate 124 none
  statics := none }

def pool1 : Array CpInfo := pool [(2, .class_ 4), (1, u "java/lang/Object"), (0, u "<init>"), (0, u "()V"), (0, .integer 1073741823), (0, .long 4611686018427387903), (1, .long 31), (1, .long 7), (1, .class_ 15), (0, u "com/example/interest_ranker/interestranker/model/Precision"), (0, .methodref 14 17), (0, .nameAndType 5 18), (0, u "(IJJJ)V"), (0, .methodref 14 20), (0, .nameAndType 21 22), (0, u "plus"), (0, u "(Lcom/example/interest_ranker/interestranker/model/Precision;)Lcom/example/interest_ranker/interestranker/model/Precision;"), (0, .methodref 14 24), (0, .nameAndType 25 26), (0, u "pairs"), (0, u "()I"), (0, .methodref 14 28), (0, .nameAndType 29 30), (0, u "places"), (0, u "()J"), (0, .methodref 14 32), (0, .nameAndType 33 30), (0, u "plainUseful"), (0, .methodref 14 35), (0, .nameAndType 36 30), (0, u "personalisedUseful"), (0, .class_ 38), (0, u "com/example/interest_ranker/interestranker/model/PrecisionPlusPinLaw"), (2, u "law"), (0, u "(IJJIJJ)Z")] 3

def k1m0 : Method := { name := "<init>", desc := "()V", sig := { parameters := [], returnType := none }, accessFlags := 1, code := none }
def k1c1 : Code := { maxStack := 9, maxLocals := 27, code := code, exceptionTable := #[], attributes := #[] }
def k1m1 : Method := { name := "law", desc := "(IJJIJJ)Z", sig := { parameters := [.int, .long, .long, .int, .long, .long], returnType := some .boolean }, accessFlags := 9, code := some k1c1 }
/-- com/example/interest_ranker/interestranker/model/PrecisionPlusPinLaw -/
def k1 : Class := { plain "com/example/interest_ranker/interestranker/model/PrecisionPlusPinLaw" (some 0) with
  accessFlags := 49
  interfaces := #[]
  cf := some (fileOf pool1 37 #[] #[{ accessFlags := 1, nameIndex := 5, descriptorIndex := 6, attributes := #[] }, { accessFlags := 9, nameIndex := 41, descriptorIndex := 42, attributes := #[] }] 49 2 #[] #[])
  fields := #[]
  methods := #[k1m0, k1m1]
  instanceTypes := #[]
  staticTypes := #[]
  resolved := Array.replicate 46 none
  statics := none }

def pool2 : Array CpInfo := pool [(1, .methodref 2 3), (0, .class_ 4), (0, .nameAndType 5 6), (0, u "java/lang/Object"), (0, u "<init>"), (0, u "()V"), (0, .class_ 8), (0, u "java/lang/Record")] 13

def k2c0 : Code := { maxStack := 1, maxLocals := 1, code := jdk_30_method_1_code, exceptionTable := #[], attributes := #[] }
def k2m0 : Method := { name := "<init>", desc := "()V", sig := { parameters := [], returnType := none }, accessFlags := 4, code := some k2c0 }
/-- java/lang/Record -/
def k2 : Class := { plain "java/lang/Record" (some 0) with
  accessFlags := 1057
  interfaces := #[]
  cf := some (fileOf pool2 7 #[] #[{ accessFlags := 4, nameIndex := 5, descriptorIndex := 6, attributes := #[] }] 1057 2 #[] #[])
  fields := #[]
  methods := #[k2m0]
  instanceTypes := #[]
  staticTypes := #[]
  resolved := Array.replicate 22 none
  statics := none }

def pool3 : Array CpInfo := pool [(1, .methodref 2 3), (0, .class_ 4), (0, .nameAndType 5 6), (0, u "java/lang/Record"), (0, u "<init>"), (0, u "()V"), (9, .fieldref 17 18), (0, .class_ 19), (0, .nameAndType 20 21), (0, u "com/example/interest_ranker/interestranker/model/Precision"), (0, u "pairs"), (0, u "I"), (0, .fieldref 17 23), (0, .nameAndType 24 25), (0, u "places"), (0, u "J"), (0, .fieldref 17 27), (0, .nameAndType 28 25), (0, u "plainUseful"), (0, .fieldref 17 30), (0, .nameAndType 31 25), (0, u "personalisedUseful"), (0, .methodref 17 33), (0, .nameAndType 5 34), (0, u "(IJJJ)V"), (16, u "plus"), (0, u "(Lcom/example/interest_ranker/interestranker/model/Precision;)Lcom/example/interest_ranker/interestranker/model/Precision;"), (1, u "()I"), (1, u "()J")] 31

def k3c0 : Code := { maxStack := 9, maxLocals := 8, code := prog_15_method_1_code, exceptionTable := #[], attributes := #[] }
def k3m0 : Method := { name := "<init>", desc := "(IJJJ)V", sig := { parameters := [.int, .long, .long, .long], returnType := none }, accessFlags := 1, code := some k3c0 }
def k3c1 : Code := { maxStack := 11, maxLocals := 2, code := prog_15_method_2_code, exceptionTable := #[], attributes := #[] }
def k3m1 : Method := { name := "plus", desc := "(Lcom/example/interest_ranker/interestranker/model/Precision;)Lcom/example/interest_ranker/interestranker/model/Precision;", sig := { parameters := [(.object "com/example/interest_ranker/interestranker/model/Precision")], returnType := some (.object "com/example/interest_ranker/interestranker/model/Precision") }, accessFlags := 1, code := some k3c1 }
def k3c2 : Code := { maxStack := 1, maxLocals := 1, code := prog_15_method_6_code, exceptionTable := #[], attributes := #[] }
def k3m2 : Method := { name := "pairs", desc := "()I", sig := { parameters := [], returnType := some .int }, accessFlags := 1, code := some k3c2 }
def k3c3 : Code := { maxStack := 2, maxLocals := 1, code := prog_15_method_7_code, exceptionTable := #[], attributes := #[] }
def k3m3 : Method := { name := "places", desc := "()J", sig := { parameters := [], returnType := some .long }, accessFlags := 1, code := some k3c3 }
def k3c4 : Code := { maxStack := 2, maxLocals := 1, code := prog_15_method_8_code, exceptionTable := #[], attributes := #[] }
def k3m4 : Method := { name := "plainUseful", desc := "()J", sig := { parameters := [], returnType := some .long }, accessFlags := 1, code := some k3c4 }
def k3c5 : Code := { maxStack := 2, maxLocals := 1, code := prog_15_method_9_code, exceptionTable := #[], attributes := #[] }
def k3m5 : Method := { name := "personalisedUseful", desc := "()J", sig := { parameters := [], returnType := some .long }, accessFlags := 1, code := some k3c5 }
/-- com/example/interest_ranker/interestranker/model/Precision -/
def k3 : Class := { plain "com/example/interest_ranker/interestranker/model/Precision" (some 2) with
  accessFlags := 49
  interfaces := #[]
  cf := some (fileOf pool3 17 #[] #[{ accessFlags := 1, nameIndex := 5, descriptorIndex := 34, attributes := #[] }, { accessFlags := 1, nameIndex := 51, descriptorIndex := 52, attributes := #[] }, { accessFlags := 1, nameIndex := 20, descriptorIndex := 54, attributes := #[] }, { accessFlags := 1, nameIndex := 24, descriptorIndex := 56, attributes := #[] }, { accessFlags := 1, nameIndex := 28, descriptorIndex := 56, attributes := #[] }, { accessFlags := 1, nameIndex := 31, descriptorIndex := 56, attributes := #[] }] 49 2 #[] #[{ accessFlags := 18, nameIndex := 20, descriptorIndex := 21, attributes := #[] }, { accessFlags := 18, nameIndex := 24, descriptorIndex := 25, attributes := #[] }, { accessFlags := 18, nameIndex := 28, descriptorIndex := 25, attributes := #[] }, { accessFlags := 18, nameIndex := 31, descriptorIndex := 25, attributes := #[] }])
  fields := #[{ name := "pairs", type := .int, accessFlags := 18, slot := 0, constantValue := 0 }, { name := "places", type := .long, accessFlags := 18, slot := 1, constantValue := 0 }, { name := "plainUseful", type := .long, accessFlags := 18, slot := 2, constantValue := 0 }, { name := "personalisedUseful", type := .long, accessFlags := 18, slot := 3, constantValue := 0 }]
  methods := #[k3m0, k3m1, k3m2, k3m3, k3m4, k3m5]
  instanceTypes := #[.int, .long, .long, .long]
  staticTypes := #[]
  resolved := Array.replicate 88 none
  statics := none }

def pool4 : Array CpInfo := pool [(1, u "java/lang/Cloneable"), (0, .class_ 1), (0, u "java/lang/Object"), (0, .class_ 3)] 3

/-- java/lang/Cloneable -/
def k4 : Class := { plain "java/lang/Cloneable" (some 0) with
  accessFlags := 1537
  interfaces := #[]
  cf := some (fileOf pool4 2 #[] #[] 1537 4 #[] #[])
  fields := #[]
  methods := #[]
  instanceTypes := #[]
  staticTypes := #[]
  resolved := Array.replicate 8 none
  statics := none }

def pool5 : Array CpInfo := pool [(1, u "java/io/Serializable"), (0, .class_ 1), (0, u "java/lang/Object"), (0, .class_ 3)] 3

/-- java/io/Serializable -/
def k5 : Class := { plain "java/io/Serializable" (some 0) with
  accessFlags := 1537
  interfaces := #[]
  cf := some (fileOf pool5 2 #[] #[] 1537 4 #[] #[])
  fields := #[]
  methods := #[]
  instanceTypes := #[]
  staticTypes := #[]
  resolved := Array.replicate 8 none
  statics := none }

/-- the primitive byte -/
def k6 : Class := { plain "byte" none with kind := .primitive 'B', accessFlags := 0x411 }
/-- [B -/
def k7 : Class := { plain "[B" (some 0) with kind := .array 6 .byte, interfaces := #[4, 5], accessFlags := 1041 }

/-- the primitive int -/
def k8 : Class := { plain "int" none with kind := .primitive 'I', accessFlags := 0x411 }
/-- [I -/
def k9 : Class := { plain "[I" (some 0) with kind := .array 8 .int, interfaces := #[4, 5], accessFlags := 1041 }

def heap : Heap := #[]
def classes : Array Class := #[k0, k1, k2, k3, k4, k5, k6, k7, k8, k9]
def interned : List (Array UInt16 × Addr) := []
def slotsUsed : Nat := 0
def theMethod : MethodId := ⟨1, 1⟩
def args0 : Array Value := #[.int 5, .long 9, .long 3, .int 6, .long 8, .long 2]
def aboutOver (below : List Frame) : State where
  vm := { classes := classes, interned := interned.toArray }
  heap := heap
  slotsUsed := slotsUsed
  threads := #[{ frames := .invoking theMethod args0 :: below }]
def below0 : List Frame := [.native { method := ⟨0, 0⟩, args := #[] }]
def about1 : State := aboutOver below0
def p0 : Program := .bare "" "" ""
def e0 : Env := launch0.env 0 0 0
theorem w_frames : about1.frames = Frame.invoking theMethod args0 :: below0 := rfl
set_option maxRecDepth 65536 in
theorem w_args : argsFit about1.vm theMethod args0 = true := by decide +kernel
set_option maxRecDepth 65536 in
theorem w_heap : heapFits about1 = true := by decide +kernel
set_option maxRecDepth 65536 in
theorem w_runnable : about1.curStatus? = some .runnable := by decide +kernel
set_option maxRecDepth 65536 in
theorem w_alone : about1.alone = true := by decide +kernel
set_option maxRecDepth 65536 in
theorem w_named : about1.methodNamed? x = some theMethod := by decide +kernel
set_option maxRecDepth 65536 in
theorem w_hears : about1.hears theMethod below0 = true := by decide +kernel
set_option maxRecDepth 65536 in
theorem w_ripe : about1.ripe theMethod args0 below0 = true := by decide +kernel
theorem w_running : about1.status = .running := rfl
set_option maxRecDepth 65536 in
theorem w_room : about1.hasRoom e0.platform room_1 = true :=
  launch0.hasRoom_least _ room_1 (by decide +kernel) (by decide +kernel) (by decide +kernel) (by decide +kernel) (by decide +kernel) (by decide +kernel)
theorem allAtoms_all (ts : List Jvm.Cond) (a : Array Jvm.Value) (st : Jvm.State) : (allAtoms ts).before a st = ts.all (fun c => c.before a st) := by
  induction ts with
  | nil => rfl
  | cons c t ih =>
    show (Jvm.Cond.and c (allAtoms t)).before a st = _
    rw [Jvm.Cond.before_and, ih, List.all_cons]
def words1 : List Jvm.Cond := Jvm.Cond.code x code maxLocals ret :: tables_1
/-- a 'code' word, met by the world's own term for the bytes: nothing is compared byte by byte -/
theorem code_word {y : MethodName} {bytes : ByteArray} {mx : Nat} {rt : Option FieldType} {a : Array Value} {s : State} {m : MethodId} {meth : Method} {c : Code} (h1 : s.methodNamed? y = some m) (h2 : s.vm.method? m = some meth) (h3 : meth.code = some c) (h4 : c.code = bytes)
    (h5 : (c.maxLocals == mx && c.exceptionTable.isEmpty && decide (c.maxStack ≤ mostOperands) && decide (meth.sig.returnType = rt) && !meth.locks && decide (parseMethodDescriptor y.desc = some meth.sig)) = true) : (Jvm.Cond.code y bytes mx rt).before a s = true := by
  simp only [Bool.and_eq_true, beq_iff_eq, Bool.not_eq_true', decide_eq_true_eq] at h5
  obtain ⟨⟨⟨⟨⟨g1, g2⟩, g3⟩, g4⟩, g5⟩, g6⟩ := h5
  simp [Cond.before, Cond.holds, Cond.value, h1, h2, h3, h4, g1, g2, g3, g4, g5, g6]
def isCode : Jvm.Cond → Bool
  | .code _ _ _ _ => true
  | _ => false
theorem all_split {L : List Jvm.Cond} {P : Jvm.Cond → Bool} (h1 : L.all (fun c => isCode c || P c) = true) (h2 : ∀ c ∈ L.filter isCode, P c = true) : L.all P = true := by
  refine List.all_eq_true.mpr fun c hc => ?_
  have h := List.all_eq_true.mp h1 c hc
  rcases Bool.eq_false_or_eq_true (isCode c) with hi | hi
  · exact h2 c (List.mem_filter.mpr ⟨hc, hi⟩)
  · simpa [hi] using h
set_option maxRecDepth 65536 in
theorem w_c0 : (Jvm.Cond.code x code maxLocals ret).before args0 about1 = true := code_word (m := ⟨1, 1⟩) (meth := k1m1) (c := k1c1) (by decide +kernel) rfl rfl rfl (by decide +kernel)
set_option maxRecDepth 65536 in
theorem w_c1 : (Jvm.Cond.code ({ cls := "com/example/interest_ranker/interestranker/model/Precision", name := "<init>", desc := "(IJJJ)V" } : Jvm.MethodName) prog_15_method_1_code (8 : Nat) (Option.none : Option Jvm.ClassFile.FieldType)).before args0 about1 = true := code_word (m := ⟨3, 0⟩) (meth := k3m0) (c := k3c0) (by decide +kernel) rfl rfl rfl (by decide +kernel)
set_option maxRecDepth 65536 in
theorem w_c2 : (Jvm.Cond.code ({ cls := "java/lang/Record", name := "<init>", desc := "()V" } : Jvm.MethodName) jdk_30_method_1_code (1 : Nat) (Option.none : Option Jvm.ClassFile.FieldType)).before args0 about1 = true := code_word (m := ⟨2, 0⟩) (meth := k2m0) (c := k2c0) (by decide +kernel) rfl rfl rfl (by decide +kernel)
set_option maxRecDepth 65536 in
theorem w_c3 : (Jvm.Cond.code ({ cls := "java/lang/Object", name := "<init>", desc := "()V" } : Jvm.MethodName) object_method_1_code (1 : Nat) (Option.none : Option Jvm.ClassFile.FieldType)).before args0 about1 = true := code_word (m := ⟨0, 0⟩) (meth := k0m0) (c := k0c0) (by decide +kernel) rfl rfl rfl (by decide +kernel)
set_option maxRecDepth 65536 in
theorem w_c4 : (Jvm.Cond.code ({ cls := "com/example/interest_ranker/interestranker/model/Precision", name := "plus", desc := "(Lcom/example/interest_ranker/interestranker/model/Precision;)Lcom/example/interest_ranker/interestranker/model/Precision;" } : Jvm.MethodName) prog_15_method_2_code (2 : Nat) (Option.some (Jvm.ClassFile.FieldType.object "com/example/interest_ranker/interestranker/model/Precision"))).before args0 about1 = true := code_word (m := ⟨3, 1⟩) (meth := k3m1) (c := k3c1) (by decide +kernel) rfl rfl rfl (by decide +kernel)
set_option maxRecDepth 65536 in
theorem w_c5 : (Jvm.Cond.code ({ cls := "com/example/interest_ranker/interestranker/model/Precision", name := "pairs", desc := "()I" } : Jvm.MethodName) prog_15_method_6_code (1 : Nat) (Option.some Jvm.ClassFile.FieldType.int)).before args0 about1 = true := code_word (m := ⟨3, 2⟩) (meth := k3m2) (c := k3c2) (by decide +kernel) rfl rfl rfl (by decide +kernel)
set_option maxRecDepth 65536 in
theorem w_c6 : (Jvm.Cond.code ({ cls := "com/example/interest_ranker/interestranker/model/Precision", name := "places", desc := "()J" } : Jvm.MethodName) prog_15_method_7_code (1 : Nat) (Option.some Jvm.ClassFile.FieldType.long)).before args0 about1 = true := code_word (m := ⟨3, 3⟩) (meth := k3m3) (c := k3c3) (by decide +kernel) rfl rfl rfl (by decide +kernel)
set_option maxRecDepth 65536 in
theorem w_c7 : (Jvm.Cond.code ({ cls := "com/example/interest_ranker/interestranker/model/Precision", name := "plainUseful", desc := "()J" } : Jvm.MethodName) prog_15_method_8_code (1 : Nat) (Option.some Jvm.ClassFile.FieldType.long)).before args0 about1 = true := code_word (m := ⟨3, 4⟩) (meth := k3m4) (c := k3c4) (by decide +kernel) rfl rfl rfl (by decide +kernel)
set_option maxRecDepth 65536 in
theorem w_c8 : (Jvm.Cond.code ({ cls := "com/example/interest_ranker/interestranker/model/Precision", name := "personalisedUseful", desc := "()J" } : Jvm.MethodName) prog_15_method_9_code (1 : Nat) (Option.some Jvm.ClassFile.FieldType.long)).before args0 about1 = true := code_word (m := ⟨3, 5⟩) (meth := k3m5) (c := k3c5) (by decide +kernel) rfl rfl rfl (by decide +kernel)
def codes1 : List Jvm.Cond := [Jvm.Cond.code x code maxLocals ret, Jvm.Cond.code ({ cls := "com/example/interest_ranker/interestranker/model/Precision", name := "<init>", desc := "(IJJJ)V" } : Jvm.MethodName) prog_15_method_1_code (8 : Nat) (Option.none : Option Jvm.ClassFile.FieldType), Jvm.Cond.code ({ cls := "java/lang/Record", name := "<init>", desc := "()V" } : Jvm.MethodName) jdk_30_method_1_code (1 : Nat) (Option.none : Option Jvm.ClassFile.FieldType), Jvm.Cond.code ({ cls := "java/lang/Object", name := "<init>", desc := "()V" } : Jvm.MethodName) object_method_1_code (1 : Nat) (Option.none : Option Jvm.ClassFile.FieldType), Jvm.Cond.code ({ cls := "com/example/interest_ranker/interestranker/model/Precision", name := "plus", desc := "(Lcom/example/interest_ranker/interestranker/model/Precision;)Lcom/example/interest_ranker/interestranker/model/Precision;" } : Jvm.MethodName) prog_15_method_2_code (2 : Nat) (Option.some (Jvm.ClassFile.FieldType.object "com/example/interest_ranker/interestranker/model/Precision")), Jvm.Cond.code ({ cls := "com/example/interest_ranker/interestranker/model/Precision", name := "pairs", desc := "()I" } : Jvm.MethodName) prog_15_method_6_code (1 : Nat) (Option.some Jvm.ClassFile.FieldType.int), Jvm.Cond.code ({ cls := "com/example/interest_ranker/interestranker/model/Precision", name := "places", desc := "()J" } : Jvm.MethodName) prog_15_method_7_code (1 : Nat) (Option.some Jvm.ClassFile.FieldType.long), Jvm.Cond.code ({ cls := "com/example/interest_ranker/interestranker/model/Precision", name := "plainUseful", desc := "()J" } : Jvm.MethodName) prog_15_method_8_code (1 : Nat) (Option.some Jvm.ClassFile.FieldType.long), Jvm.Cond.code ({ cls := "com/example/interest_ranker/interestranker/model/Precision", name := "personalisedUseful", desc := "()J" } : Jvm.MethodName) prog_15_method_9_code (1 : Nat) (Option.some Jvm.ClassFile.FieldType.long)]
set_option maxRecDepth 65536 in
theorem codes_eq : words1.filter isCode = codes1 := rfl
theorem w_codes : ∀ c ∈ words1.filter isCode, c.before args0 about1 = true := by
  rw [codes_eq]
  intro c hc
  simp only [codes1, List.mem_cons, List.not_mem_nil, or_false] at hc
  rcases hc with rfl | rfl | rfl | rfl | rfl | rfl | rfl | rfl | rfl
  · exact w_c0
  · exact w_c1
  · exact w_c2
  · exact w_c3
  · exact w_c4
  · exact w_c5
  · exact w_c6
  · exact w_c7
  · exact w_c8
set_option maxRecDepth 65536 in
theorem w_t1 : (words1.take 24).all (fun c => isCode c || c.before args0 about1) = true := by decide +kernel
set_option maxRecDepth 65536 in
theorem w_t2 : ((words1.drop 24).take 24).all (fun c => isCode c || c.before args0 about1) = true := by decide +kernel
set_option maxRecDepth 65536 in
theorem w_t3 : ((words1.drop 24).drop 24).all (fun c => isCode c || c.before args0 about1) = true := by decide +kernel
theorem w_tables : (allAtoms (Jvm.Cond.code x code maxLocals ret :: tables_1)).before args0 about1 = true := by
  rw [allAtoms_all]
  show words1.all (fun c => c.before args0 about1) = true
  refine all_split ?_ w_codes
  rw [← List.take_append_drop 24 words1, List.all_append, w_t1, ← List.take_append_drop 24 (words1.drop 24), List.all_append, w_t2, w_t3]
  rfl
set_option maxRecDepth 65536 in
theorem w_case : (Jvm.Cond.and given_1 narrow_1).before args0 about1 = true := by decide +kernel
theorem w_applies : (headSpec (Jvm.Cond.code x code maxLocals ret :: tables_1) room_1).applies x e0.platform about1 = true :=
  (Spec.applies_iff w_frames).mpr ⟨w_running, w_runnable, w_alone, w_named, w_hears, w_ripe, w_room, w_tables⟩
theorem atStart : AtStart classFile x code maxLocals ret World_1 tables_1 room_1 Calls_1 rest_1 Pre_1 launch0 p0 e0 about1 theMethod args0 below0 :=
  ⟨lists_1, trivial, launch0.admits_env _ _ _, launch0.least_env, fairChoices_fair.cas, fairChoices_fair.clock, w_frames, w_args, w_heap, w_applies, trivial, trivial, w_case⟩
end start1
theorem witness_1 : WitnessClaimed_1 := ⟨start1.p0, start1.e0, start1.about1, start1.theMethod, start1.args0, start1.below0, start1.atStart⟩
end Jvm.Pilot.@@N@@
