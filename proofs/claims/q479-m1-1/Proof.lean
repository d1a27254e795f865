import JvmDerived
import JvmDerived.Pilot.@@N@@Statement
import JvmDerived.Pilot.@@N@@Code
set_option linter.unusedVariables false
set_option linter.unusedSimpArgs false
namespace Jvm.Pilot.@@N@@
open Jvm Jvm.ClassFile Sem Op Lib Jvm.Free Jvm.Stand Jvm.LawKit Jvm.RoadKit Bundle Jvm.Pilot.@@N@@.Jvm.D
/-! own kit: a walk as a chain of "from here the run ends well" -/
section OwnKit
/-- from T with the frame g on top the run goes on and ends as Q says -/
def Own (p : Program) (e : Env) (below : List Frame) (s : State) (kc ks : Nat) (Q : Option Value → Heap → List Loc → Prop) (T : State) (g : JFrame) : Prop :=
  ∃ s₂ o, Steps p.tables e below (T.setTop g) s₂ ∧ s₂.status = .running ∧ Ended s₂ below o ∧ ∃ v L, o = .returned v ∧ Q v s₂.heap L ∧ FrameEnd s o s₂ L kc ks
variable {p : Program} {l : Launch} {e : Env} {R : Room} {s : State} {m : MethodId} {args : Array Value} {below : List Frame} {meth : Method} {c : Code} {T T' : State} {locs : List Loc} {cells slots kc ks : Nat} {Q : Option Value → Heap → List Loc → Prop}
theorem own_go {g g' : JFrame} (h : ∀ t, Steps p.tables e below (T'.setTop g') t → Steps p.tables e below (T.setTop g) t) (k : Own p e below s kc ks Q T' g') : Own p e below s kc ks Q T g := by
  obtain ⟨s₂, o, h1, r⟩ := k
  exact ⟨s₂, o, h _ h1, r⟩
theorem own_to (T' : State) (g' : JFrame) {g : JFrame} (h : ∀ t, Steps p.tables e below (T'.setTop g') t → Steps p.tables e below (T.setTop g) t) (k : Own p e below s kc ks Q T' g') : Own p e below s kc ks Q T g := own_go h k
theorem own_ret (X : Stand p l e R s m args below meth c T locs cells slots) (hx : p.tables.exec = Jvm.exec) {pc : Nat} {Ls : Array Slot} {w : Value} {t : FieldType} {i : Instr} {rest : List Value} (hret : meth.sig.returnType = some t) (hlk : meth.locks = false) (hn : narrow t w = w)
    (hi : (i = .ireturn ∧ (t = .int ∨ t = .boolean ∨ t = .byte ∨ t = .char ∨ t = .short) ∧ ∃ z, w = .int z) ∨ (i = .lreturn ∧ t = .long ∧ ∃ z, w = .long z) ∨ (i = .dreturn ∧ t = .double ∧ ∃ z, w = .double z) ∨ (i = .freturn ∧ t = .float ∧ ∃ z, w = .float z) ∨ (i = .areturn ∧ t.isReference = true ∧ w.isRef = true))
    (hd : decode c.code pc = .ok (i, 1)) (hc : cells ≤ kc) (hs : slots ≤ ks) (q : Q (some w) T.heap locs) : Own p e below s kc ks Q T (mkF m pc Ls (w :: rest)) := by
  obtain ⟨fs, hr, hrun, hended, hW, hsame⟩ := X.leave (v := some w) (fun h => by rw [hret] at h; cases h) hlk
  exact ⟨_, _, retOut X hx hret hn hi hd hr, hrun, hended, _, locs, rfl, q, ⟨_, rfl⟩, hW, hsame.mono hc hs⟩
theorem own_retI (X : Stand p l e R s m args below meth c T locs cells slots) (hx : p.tables.exec = Jvm.exec) {pc : Nat} {Ls : Array Slot} {z : Int32} {rest : List Value} (hret : meth.sig.returnType = some .int) (hlk : meth.locks = false)
    (hd : decode c.code pc = .ok (.ireturn, 1)) (hc : cells ≤ kc) (hs : slots ≤ ks) (q : Q (some (.int z)) T.heap locs) : Own p e below s kc ks Q T (mkF m pc Ls (.int z :: rest)) :=
  own_ret X hx hret hlk rfl (Or.inl ⟨rfl, Or.inl rfl, _, rfl⟩) hd hc hs q
theorem own_retZ (X : Stand p l e R s m args below meth c T locs cells slots) (hx : p.tables.exec = Jvm.exec) {pc : Nat} {Ls : Array Slot} {z : Int32} {rest : List Value} (hret : meth.sig.returnType = some .boolean) (hlk : meth.locks = false)
    (hd : decode c.code pc = .ok (.ireturn, 1)) (hc : cells ≤ kc) (hs : slots ≤ ks) (hz : z = 0 ∨ z = 1) (q : Q (some (.int z)) T.heap locs) : Own p e below s kc ks Q T (mkF m pc Ls (.int z :: rest)) :=
  own_ret X hx hret hlk (by rcases hz with rfl | rfl <;> rfl) (Or.inl ⟨rfl, Or.inr (Or.inl rfl), _, rfl⟩) hd hc hs q
theorem own_retC (X : Stand p l e R s m args below meth c T locs cells slots) (hx : p.tables.exec = Jvm.exec) {pc : Nat} {Ls : Array Slot} {z : Int32} {rest : List Value} (hret : meth.sig.returnType = some .char) (hlk : meth.locks = false)
    (hd : decode c.code pc = .ok (.ireturn, 1)) (hc : cells ≤ kc) (hs : slots ≤ ks) (hz : z.toUInt32.toUInt16.toUInt32.toInt32 = z) (q : Q (some (.int z)) T.heap locs) : Own p e below s kc ks Q T (mkF m pc Ls (.int z :: rest)) :=
  own_ret X hx hret hlk (congrArg Value.int hz) (Or.inl ⟨rfl, Or.inr (Or.inr (Or.inr (Or.inl rfl))), _, rfl⟩) hd hc hs q
theorem own_retJ (X : Stand p l e R s m args below meth c T locs cells slots) (hx : p.tables.exec = Jvm.exec) {pc : Nat} {Ls : Array Slot} {z : Int64} {rest : List Value} (hret : meth.sig.returnType = some .long) (hlk : meth.locks = false)
    (hd : decode c.code pc = .ok (.lreturn, 1)) (hc : cells ≤ kc) (hs : slots ≤ ks) (q : Q (some (.long z)) T.heap locs) : Own p e below s kc ks Q T (mkF m pc Ls (.long z :: rest)) :=
  own_ret X hx hret hlk rfl (Or.inr (Or.inl ⟨rfl, rfl, _, rfl⟩)) hd hc hs q
theorem own_retD (X : Stand p l e R s m args below meth c T locs cells slots) (hx : p.tables.exec = Jvm.exec) {pc : Nat} {Ls : Array Slot} {z : UInt64} {rest : List Value} (hret : meth.sig.returnType = some .double) (hlk : meth.locks = false)
    (hd : decode c.code pc = .ok (.dreturn, 1)) (hc : cells ≤ kc) (hs : slots ≤ ks) (q : Q (some (.double z)) T.heap locs) : Own p e below s kc ks Q T (mkF m pc Ls (.double z :: rest)) :=
  own_ret X hx hret hlk rfl (Or.inr (Or.inr (Or.inl ⟨rfl, rfl, _, rfl⟩))) hd hc hs q
theorem own_retA (X : Stand p l e R s m args below meth c T locs cells slots) (hx : p.tables.exec = Jvm.exec) {pc : Nat} {Ls : Array Slot} {w : Value} {t : FieldType} {rest : List Value} (hret : meth.sig.returnType = some t) (hlk : meth.locks = false)
    (ht : t.isReference = true) (hw : w.isRef = true) (hd : decode c.code pc = .ok (.areturn, 1)) (hc : cells ≤ kc) (hs : slots ≤ ks) (q : Q (some w) T.heap locs) : Own p e below s kc ks Q T (mkF m pc Ls (w :: rest)) :=
  own_ret X hx hret hlk (by cases t <;> cases w <;> first | rfl | (cases ht; done) | (cases hw; done)) (Or.inr (Or.inr (Or.inr (Or.inr ⟨rfl, ht, hw⟩)))) hd hc hs q
theorem own_retV (X : Stand p l e R s m args below meth c T locs cells slots) (hx : p.tables.exec = Jvm.exec) {pc : Nat} {Ls : Array Slot} (hret : meth.sig.returnType = none) (hlk : meth.locks = false)
    (hd : decode c.code pc = .ok (.return_, 1)) (hc : cells ≤ kc) (hs : slots ≤ ks) (q : Q none T.heap locs) : Own p e below s kc ks Q T (mkF m pc Ls []) := by
  obtain ⟨fs, hr, hrun, hended, hW, hsame⟩ := X.leave (v := none) (fun _ => rfl) hlk
  exact ⟨_, _, X.returnOut hx hret hd hr, hrun, hended, _, locs, rfl, q, ⟨_, rfl⟩, hW, hsame.mono hc hs⟩
/-- a body's contract out of its walk -/
theorem own_met {Z : State} {h0 : Heap} {y : MethodName} {bytes : ByteArray} {ml : Nat} {ret : Option FieldType} {ws : List Jvm.Cond} {rm : Room} {as' : Array Value} (hp : plainFor y = true)
    (body : ∀ (p : Program) (e : Env) (s : State) (m : MethodId) (below : List Frame) (meth : Method) (c : Code) (s₁ : State), Stand p l e rm s m as' below meth c s₁ [] 0 0 → p.tables.exec = Jvm.exec → c.code = bytes → c.maxLocals = ml → meth.sig.returnType = ret → meth.locks = false →
      s.vm.findClass y.cls = some m.cls → meth.name = y.name → Z.Warmed39 s.vm → s₁.heap = h0 → Own p e below s rm.cells rm.slots Q s₁ (entryFrame m as' ml)) :
    MetFree l y (head1 (Jvm.Cond.code y bytes ml ret :: ws) rm) (fun a U => a = as' ∧ Z.Warmed39 U.vm ∧ U.heap = h0) (fun _ _ _ _ _ => True) (fun _ U o U' => ∃ v L, o = .returned v ∧ Q v U'.heap L ∧ FrameEnd U o U' L rm.cells rm.slots) := by
  refine MetFree.of_bodySF hp hisR ?_
  intro p e s m args below meth c s₁ Bd hml0 hP hK
  obtain ⟨rfl, hZ, hh⟩ := hP
  exact body p e s m below meth c s₁ (Stand.of_body Bd) Bd.exec Bd.bytes hml0 Bd.returns Bd.notSynchronized (findClass_of_methodNamed Bd.named) (name_of_methodNamed Bd.named Bd.method).1 hZ (by rw [← hh, Bd.state]; rfl)
theorem own_entry {g g' : JFrame} (q : g = g') (k : Own p e below s kc ks Q T g') : Own p e below s kc ks Q T g := q ▸ k
theorem own_mvMN {Z s : State} {a0 args : Array Value} {own host : String} {index : Nat} {y : MethodName} (hZ : Z.Warmed39 s.vm) (w : (Jvm.Cond.methodLinkNest own index y host).before a0 Z = true) : (Jvm.Cond.methodLinkNest own index y host).before args s = true := (Jvm.Cond.methodLinkNest_wide hZ w :)
theorem own_w {Z : State} {a0 : Array Value} (hw : ∀ d ∈ tables_1, d.before a0 Z = true) (i : Nat) {d : Jvm.Cond} (h : tables_1[i]? = some d) : d.before a0 Z = true := hw _ (List.mem_of_getElem? h)
end OwnKit
def own_upd (f : Nat → UInt64) (i : Nat) (x : UInt64) : Nat → UInt64 := fun j => if j = i then x else f j
def own_R (z : Nat) (w : Nat → UInt64) (g : Nat → UInt64) (n : Nat) : Prop := ∀ k, k < n → n ≤ k + z → g (k % z) = w k
theorem own_R0 (z : Nat) (w g : Nat → UInt64) : own_R z w g 0 := fun _ h => absurd h (Nat.not_lt_zero _)
theorem own_mod_ne {z n k : Nat} (hz : 0 < z) (h1 : k < n) (h2 : n < k + z) : k % z ≠ n % z := fun h => by
  have e1 := Nat.div_add_mod k z
  have e2 := Nat.div_add_mod n z
  rw [h] at e1
  have h3 : z * (n / z) < z * (k / z) + z := by omega
  have h4 : z * (k / z) < z * (n / z) := by omega
  have h5 : k / z < n / z := Nat.lt_of_mul_lt_mul_left h4
  have h6 : z * (k / z + 1) ≤ z * (n / z) := Nat.mul_le_mul_left z h5
  rw [Nat.mul_add] at h6
  omega
theorem own_R1 {z : Nat} (hz : 0 < z) {w g : Nat → UInt64} {n : Nat} (h : own_R z w g n) {x : UInt64} (hx : x = w n) : own_R z w (own_upd g (n % z) x) (n + 1) := fun k h1 h2 => by
  unfold own_upd
  by_cases e : k = n
  · rw [e, if_pos rfl, hx]
  · rw [if_neg (own_mod_ne hz (by omega) (by omega))]
    exact h k (by omega) (by omega)
theorem own_Rget {z : Nat} {w g : Nat → UInt64} {n i : Nat} (h : own_R z w g n) (hz : z ≤ n) (hi : i < z) : g ((n + i) % z) = w (n - z + i) := by
  have e : (n + i) % z = (n - z + i) % z := by
    rw [show n + i = (n - z + i) + z by omega, Nat.add_mod_right]
  rw [e]; exact h _ (by omega) (by omega)
theorem own_t64 {n : Nat} (h : n < 64) : (Int64.ofNat n).toInt = n := by
  have key : ∀ n : Fin 64, (Int64.ofNat n).toInt = (n : Nat) := by decide +kernel
  exact key ⟨n, h⟩
theorem own_i2l {n : Nat} (h : n < 64) : (Int32.ofNat n).toInt64 = Int64.ofNat n := by
  have key : ∀ n : Fin 64, (Int32.ofNat n).toInt64 = Int64.ofNat n := by decide +kernel
  exact key ⟨n, h⟩
theorem own_l2i {n : Nat} (h : n < 64) : (Int64.ofNat n).toInt32 = Int32.ofNat n := by
  have key : ∀ n : Fin 64, (Int64.ofNat n).toInt32 = Int32.ofNat n := by decide +kernel
  exact key ⟨n, h⟩
theorem own_lrem {a z : Nat} (ha : a < 64) (h0 : 0 < z) (hz : z < 8) : (Int64.ofNat a - (Int64.ofNat a / Int64.ofNat z) * Int64.ofNat z) = Int64.ofNat (a % z) := by
  have key : ∀ a : Fin 64, ∀ z : Fin 8, 0 < z.1 → (Int64.ofNat a - (Int64.ofNat a / Int64.ofNat z) * Int64.ofNat z) = Int64.ofNat (a % z) := by decide +kernel
  exact key ⟨a, ha⟩ ⟨z, hz⟩ h0
theorem own_lnz {z : Nat} (h0 : 0 < z) (hz : z < 8) : Int64.ofNat z ≠ 0 := by
  have key : ∀ z : Fin 8, 0 < z.1 → Int64.ofNat z ≠ 0 := by decide +kernel
  exact key ⟨z, hz⟩ h0
theorem own_ladd {a b : Nat} (ha : a < 48) (hb : b < 16) : Int64.ofNat a + Int64.ofNat b = Int64.ofNat (a + b) := by
  have key : ∀ a : Fin 48, ∀ b : Fin 16, Int64.ofNat a + Int64.ofNat b = Int64.ofNat (a + b) := by decide +kernel
  exact key ⟨a, ha⟩ ⟨b, hb⟩
theorem own_lltn {a b : Nat} (ha : a < 64) (hb : b < 64) : Int64.ofNat a < Int64.ofNat b ↔ a < b := by
  rw [Int64.lt_iff_toInt_lt, own_t64 ha, own_t64 hb]; omega
theorem own_addn (a b : Nat) (ha : a < 1000) (hb : b < 1000) : Int32.ofNat a + Int32.ofNat b = Int32.ofNat (a + b) := by
  rw [← Int32.toInt_inj, toInt_of (n := Int32.ofNat (a + b)) rfl (by omega)]
  have q := c_iadd (Int32.ofNat a) (Int32.ofNat b)
  rw [toInt_of (n := Int32.ofNat a) rfl (by omega), toInt_of (n := Int32.ofNat b) rfl (by omega)] at q
  have r := rng32 (Int32.ofNat a + Int32.ofNat b)
  omega
theorem own_subn (a b : Nat) (h : b ≤ a) (ha : a < 1000) : Int32.ofNat a - Int32.ofNat b = Int32.ofNat (a - b) := by
  rw [← Int32.toInt_inj, toInt_of (n := Int32.ofNat (a - b)) rfl (by omega)]
  have q := c_isub (Int32.ofNat a) (Int32.ofNat b)
  rw [toInt_of (n := Int32.ofNat a) rfl (by omega), toInt_of (n := Int32.ofNat b) rfl (by omega)] at q
  have r := rng32 (Int32.ofNat a - Int32.ofNat b)
  omega
theorem own_ltn {a b : Nat} (ha : a < 1000) (hb : b < 1000) : Int32.ofNat a < Int32.ofNat b ↔ a < b := by
  rw [Int32.lt_iff_toInt_lt, toInt_of (n := Int32.ofNat a) rfl (by omega), toInt_of (n := Int32.ofNat b) rfl (by omega)]
  omega
theorem own_eqn {a b : Nat} (ha : a < 1000) (hb : b < 1000) : Int32.ofNat a = Int32.ofNat b ↔ a = b := by
  rw [← Int32.toInt_inj, toInt_of (n := Int32.ofNat a) rfl (by omega), toInt_of (n := Int32.ofNat b) rfl (by omega)]
  omega
theorem own_nneg {n : Nat} (hn : n < 1000) : ¬ Int32.ofNat n < (0 : Int32) := by
  rw [Int32.lt_iff_toInt_lt, toInt_of rfl (by omega)]
  have z : (0 : Int32).toInt = 0 := by decide
  omega
theorem own_small (x m : Int32) (k : Nat) (hk : m.toInt = k) (hm : 0 ≤ m.toInt) : ∃ u, u ≤ k ∧ (x &&& m) = Int32.ofNat u := by
  have b := c_and x m hm
  generalize x &&& m = y at *
  have hn : ¬ y < 0 := by
    rw [Int32.lt_iff_toInt_lt]
    have z0 : (0 : Int32).toInt = 0 := by decide
    omega
  have q := nat_of hn
  exact ⟨y.toNatClampNeg, by omega, (back32 hn).1.symm⟩
theorem own_fill {g r : Nat → UInt64} {n z i : Nat} (hr : ∀ j, j < i → r j = g ((n + j) % z)) : ∀ j, j < i + 1 → own_upd r i (g ((n + i) % z)) j = g ((n + j) % z) := by
  intro j hj
  unfold own_upd
  split
  · rename_i q
    rw [q]
  · exact hr j (by omega)
def DArr (Z : State) (h : Heap) (a : Addr) (n : Nat) (f : Nat → UInt64) : Prop := ∃ c : Cell, Arr Z h a c .double ∧ c.slots.size = n ∧ ∀ i, i < n → c.slots[i]? = some (.double (f i))
theorem DArr.lt {Z : State} {h : Heap} {a : Addr} {n : Nat} {f : Nat → UInt64} (F : DArr Z h a n f) : a < h.size := by obtain ⟨c, A, -⟩ := F; exact A.lt
theorem DArr.ext {Z : State} {h h' : Heap} {a : Addr} {n : Nat} {f : Nat → UInt64} (F : DArr Z h a n f) (E : Ext h h') : DArr Z h' a n f := by obtain ⟨c, A, r⟩ := F; exact ⟨c, A.ext E, r⟩
theorem DArr.other {Z : State} {h h' : Heap} {a : Addr} {n : Nat} {f : Nat → UInt64} {b : Addr} {sl : Nat} {v : Value} (F : DArr Z h b n f) (W : Wr h h' a sl v) (q : b ≠ a) : DArr Z h' b n f := by obtain ⟨c, A, r⟩ := F; exact ⟨c, A.other W q, r⟩
theorem DArr.keep {Z : State} {h h' : Heap} {a : Addr} {n : Nat} {f : Nat → UInt64} {ws : List Addr} (F : DArr Z h a n f) (K : Keep h h' ws) (q : a ∉ ws) : DArr Z h' a n f := by obtain ⟨c, A, r⟩ := F; exact ⟨c, ⟨K.2.1 a c A.1 q, A.2⟩, r⟩
theorem DArr.new {Z : State} {h : Heap} {a : Addr} {k : ClassId} {z : Int32} {n : Nat} (A : Arr Z h a (newA k .double z) .double) (hz : z.toNatClampNeg = n) : DArr Z h a n (fun _ => 0) := by
  refine ⟨_, A, (sz_new _ _ _).trans hz, fun i hi => ?_⟩
  subst hz
  simp only [newA, Array.getElem?_replicate, if_pos hi]
  rfl
theorem DArr.set {Z : State} {h h' : Heap} {a : Addr} {n : Nat} {f : Nat → UInt64} {c : Cell} {j : Int32} {x : UInt64} (A : Arr Z h a c .double) (hs : c.slots.size = n) (hat : ∀ i, i < n → c.slots[i]? = some (.double (f i))) (W : Wr h h' a j.toNatClampNeg (.double x)) {i : Nat} (hj : j.toNatClampNeg = i) : DArr Z h' a n (own_upd f i (x)) := by
  subst hj
  refine ⟨_, A.same W, (sz_set _ _ _).trans hs, fun i hi => ?_⟩
  simp only [Cell.setSlot, Array.getElem?_setIfInBounds, own_upd]
  by_cases q : j.toNatClampNeg = i
  · subst q
    rw [if_pos rfl, if_pos (by rw [hs]; exact hi), if_pos rfl]
    first | rfl | done
  · rw [if_neg q, if_neg (fun z => q z.symm)]
    exact hat i hi
theorem DArr.eq {Z : State} {h : Heap} {a : Addr} {n : Nat} {f : Nat → UInt64} {g : Nat → UInt64} (F : DArr Z h a n f) (q : f = g) : DArr Z h a n g := q ▸ F
theorem d2_0 : decode prog_39_method_1_code 0 = .ok (.aload_n 0, 1) := by decide +kernel
theorem d2_1 : decode prog_39_method_1_code 1 = .ok (.invokespecial 3, 3) := by decide +kernel
theorem d2_4 : decode prog_39_method_1_code 4 = .ok (.aload_n 0, 1) := by decide +kernel
theorem d2_5 : decode prog_39_method_1_code 5 = .ok (.iload_n 1, 1) := by decide +kernel
theorem d2_6 : decode prog_39_method_1_code 6 = .ok (.newarray .double, 2) := by decide +kernel
theorem d2_8 : decode prog_39_method_1_code 8 = .ok (.putfield 9, 3) := by decide +kernel
theorem d2_11 : decode prog_39_method_1_code 11 = .ok (.return_, 1) := by decide +kernel
theorem pn_2 : plainName "com/example/tidemark/tidemark/policy/RateWindow" = true := by first | (simp [plainName, overriddenIn]; done) | decide +kernel
theorem ef_2_RI (m : MethodId) (x0 : Addr) (x1 : Int32) : entryFrame m #[(.ref x0), (.int x1)] 2 = mkF m 0 #[.val (.ref x0), .val (.int x1)] [] := by first | (simp [entryFrame, mkF, argsToLocals, Value.category]; done) | rfl
def Q_rmI (Z : State) (a1 : Addr) (z : Nat) (h0 : Heap) (n0 : Nat) (v : Option Value) (h : Heap) (L : List Loc) : Prop := v = none ∧ Fr n0 L ∧ Keep h0 h [a1] ∧ Exa Z h a1 "com/example/tidemark/tidemark/policy/RateWindow" ∧ ∃ rc, n0 ≤ rc ∧ h0.size ≤ rc ∧ a1 ≠ rc ∧ Fld Z h a1 "com/example/tidemark/tidemark/policy/RateWindow" "recent" "[D" (.ref rc) ∧ Fld Z h a1 "com/example/tidemark/tidemark/policy/RateWindow" "seen" "J" (.long (Int64.ofNat 0)) ∧ DArr Z h rc z (fun _ => 0)
theorem sn_seen_recent {Z : State} {a0 : Array Value} (hw : ∀ d ∈ tables_1, d.before a0 Z = true) : Jvm.RoadKit.slotOf Z "com/example/tidemark/tidemark/policy/RateWindow" "seen" "J" ≠ Jvm.RoadKit.slotOf Z "com/example/tidemark/tidemark/policy/RateWindow" "recent" "[D" := Jvm.RoadKit.slot_ne (a0 := a0) (Or.inl (own_w hw 23 rfl)) (Or.inr (own_w hw 16 rfl)) (by decide) (t := .long) (t' := (.array .double)) (by decide) (by decide)
set_option maxRecDepth 65536 in
set_option maxHeartbeats 40000000 in
theorem rmI (l : Launch) (Z : State) (a0 : Array Value) (hw : ∀ d ∈ tables_1, d.before a0 Z = true) (ws : List Jvm.Cond) (a1 : Addr) (z : Nat) (h0 : Heap) (n0 : Nat) (Z0 : n0 ≤ h0.size) (E1 : Exa Z h0 a1 "com/example/tidemark/tidemark/policy/RateWindow") (F1 : Fld Z h0 a1 "com/example/tidemark/tidemark/policy/RateWindow" "recent" "[D" .null) (F2 : Fld Z h0 a1 "com/example/tidemark/tidemark/policy/RateWindow" "seen" "J" (.long (Int64.ofNat 0))) (g_a1 : n0 ≤ a1) (hz : 0 < z) (hz4 : z ≤ 4) :
    MetFree l (⟨"com/example/tidemark/tidemark/policy/RateWindow", "<init>", "(I)V"⟩ : MethodName) (head1 (Jvm.Cond.code (⟨"com/example/tidemark/tidemark/policy/RateWindow", "<init>", "(I)V"⟩ : MethodName) prog_39_method_1_code 2 none :: ws) ({ frames := 1, cells := 1, slots := 4, locals := 12 } : Room)) (fun a U => a = #[(.ref a1), (.int (Int32.ofNat z))] ∧ Z.Warmed39 U.vm ∧ U.heap = h0) (fun _ _ _ _ _ => True) (fun _ U o U' => ∃ v L, o = .returned v ∧ Q_rmI Z a1 z h0 n0 v U'.heap L ∧ FrameEnd U o U' L ({ frames := 1, cells := 1, slots := 4, locals := 12 } : Room).cells ({ frames := 1, cells := 1, slots := 4, locals := 12 } : Room).slots) := by
  refine own_met (y := (⟨"com/example/tidemark/tidemark/policy/RateWindow", "<init>", "(I)V"⟩ : MethodName)) (Q := (Q_rmI Z a1 z h0 n0)) (plainFor_of_name pn_2) fun p e s m below meth c s₁ X0 hx hby hml hret hlk hown hnm hZ e0 => ?_
  refine own_entry (ef_2_RI m a1 (Int32.ofNat z)) ?_
  have K0 := Keep.refl h0 [a1]
  refine own_to s₁ (mkF m 1 #[.val (.ref a1), .val (.int (Int32.ofNat z))] [(.ref a1)]) (fun tq kq => XS.aloadN X0.here hx rfl (hb hby d2_0) rfl rfl kq) ?_
  obtain ⟨T1, X1, e1, st1⟩ := initO X0 hx hZ hown (own_w hw 12 rfl) (own_w hw 13 rfl) (own_w hw 14 rfl) e0 (g := (mkF m 1 #[.val (.ref a1), .val (.int (Int32.ofNat z))] [(.ref a1)])) rfl (by rw [hml]; rfl) rfl (hb hby d2_1) (by decide) (W := 0) (by show 2 * 0 + _ ≤ _; exact Nat.le_of_eq rfl) (by decide)
  refine own_to T1 (mkF m 6 #[.val (.ref a1), .val (.int (Int32.ofNat z))] [(.int (Int32.ofNat z)), (.ref a1)]) (fun tq kq => st1 _ (XS.aloadN X1.here hx rfl (hb hby d2_4) rfl rfl (XS.iloadN X1.here hx rfl (hb hby d2_5) rfl kq))) ?_
  obtain ⟨T2, h2, k2, X2, e2, E2, A2, st2⟩ := newP X1 hx hZ (own_w hw 0 rfl) e1 (g := (mkF m 6 #[.val (.ref a1), .val (.int (Int32.ofNat z))] [(.int (Int32.ofNat z)), (.ref a1)])) rfl (hb hby d2_6) rfl (own_nneg (by omega)) (cap := 4) (by rw [clamp_of rfl (by omega)]; omega) (by decide) (by decide) (by decide)
  obtain ⟨b2, g2⟩ : ∃ z, z = h0.size := ⟨_, rfl⟩
  rw [← g2] at A2 st2
  have ne_a1_b2 : a1 ≠ b2 := Nat.ne_of_lt (Nat.lt_of_lt_of_le E1.lt (Nat.le_of_eq g2.symm))
  have f3 := E1.ext E2
  have f4 := F1.ext E2
  have f5 := F2.ext E2
  have sz2 : n0 ≤ b2 := Nat.le_trans Z0 (Nat.le_of_eq g2.symm)
  have hs2 : h0.size ≤ b2 := Nat.le_trans K0.1 (Nat.le_of_eq g2.symm)
  have Zs2 : n0 ≤ h2.size := Nat.le_trans Z0 E2.1
  have K2 := K0.ext E2
  have V2 : DArr Z h2 b2 z (fun _ => 0) := DArr.new A2 (clamp_of rfl (by omega))
  refine own_to T2 (mkF m 8 #[.val (.ref a1), .val (.int (Int32.ofNat z))] [(.ref b2), (.ref a1)]) (fun tq kq => st2 _ kq) ?_
  obtain ⟨T6, h6, X6, e6, W6, st6⟩ := putF X2 hx hZ hown (host := "") (Or.inl (own_w hw 15 rfl)) Via.refl e2 f4 f3 (Or.inr ⟨(own_w hw 16 rfl), rfl, hnm⟩) (own_w hw 7 rfl) (ty := (.array .double)) (by decide) rfl rfl (g := (mkF m 8 #[.val (.ref a1), .val (.int (Int32.ofNat z))] [(.ref b2), (.ref a1)])) rfl rfl (hb hby d2_8)
  have f7 := f3.wr W6
  have f8 := f5.other W6 (Or.inr (sn_seen_recent hw))
  have f9 := V2.other W6 (Ne.symm ne_a1_b2)
  have f10 := f4.same W6
  have N6 := Fr.snoc X6 (Fr.nil n0) g_a1
  have Zs6 : n0 ≤ h6.size := by rw [W6.size]; exact Zs2
  have K6 := K2.wr W6 (Or.inl (List.mem_of_getElem? (i := 0) rfl))
  refine own_to T6 (mkF m 11 #[.val (.ref a1), .val (.int (Int32.ofNat z))] []) (fun tq kq => st6 _ kq) ?_
  exact own_retV X6 hx hret hlk (hb hby d2_11) (by decide) (by decide) (by rw [e6]; exact ⟨rfl, N6, K6, f7, b2, sz2, hs2, ne_a1_b2, f10, f8, f9⟩)
theorem d4_0 : decode prog_39_method_5_code 0 = .ok (.aload_n 0, 1) := by decide +kernel
theorem d4_1 : decode prog_39_method_5_code 1 = .ok (.getfield 25, 3) := by decide +kernel
theorem d4_4 : decode prog_39_method_5_code 4 = .ok (.aload_n 0, 1) := by decide +kernel
theorem d4_5 : decode prog_39_method_5_code 5 = .ok (.getfield 9, 3) := by decide +kernel
theorem d4_8 : decode prog_39_method_5_code 8 = .ok (.arraylength, 1) := by decide +kernel
theorem d4_9 : decode prog_39_method_5_code 9 = .ok (.i2l, 1) := by decide +kernel
theorem d4_10 : decode prog_39_method_5_code 10 = .ok (.lcmp, 1) := by decide +kernel
theorem d4_11 : decode prog_39_method_5_code 11 = .ok (.ifCond .lt 7, 3) := by decide +kernel
theorem d4_14 : decode prog_39_method_5_code 14 = .ok (.iconst 1, 1) := by decide +kernel
theorem d4_15 : decode prog_39_method_5_code 15 = .ok (.goto 4, 3) := by decide +kernel
theorem d4_18 : decode prog_39_method_5_code 18 = .ok (.iconst 0, 1) := by decide +kernel
theorem d4_19 : decode prog_39_method_5_code 19 = .ok (.ireturn, 1) := by decide +kernel
theorem ef_4_R (m : MethodId) (x0 : Addr) : entryFrame m #[(.ref x0)] 1 = mkF m 0 #[.val (.ref x0)] [] := by first | (simp [entryFrame, mkF, argsToLocals, Value.category]; done) | rfl
def Q_rmFull (Z : State) (a1 rc : Addr) (n z : Nat) (g : Nat → UInt64) (h0 : Heap) (n0 : Nat) (v : Option Value) (h : Heap) (L : List Loc) : Prop := v = some (.int (if n < z then (0 : Int32) else 1)) ∧ Fr n0 L ∧ h = h0
set_option maxRecDepth 65536 in
set_option maxHeartbeats 40000000 in
theorem rmFull (l : Launch) (Z : State) (a0 : Array Value) (hw : ∀ d ∈ tables_1, d.before a0 Z = true) (ws : List Jvm.Cond) (a1 rc : Addr) (n z : Nat) (g : Nat → UInt64) (h0 : Heap) (n0 : Nat) (Z0 : n0 ≤ h0.size) (F1 : Fld Z h0 a1 "com/example/tidemark/tidemark/policy/RateWindow" "recent" "[D" (.ref rc)) (F2 : Fld Z h0 a1 "com/example/tidemark/tidemark/policy/RateWindow" "seen" "J" (.long (Int64.ofNat n))) (A : DArr Z h0 rc z g) (hz : 0 < z) (hz4 : z ≤ 4) (hn : n < 32) :
    MetFree l (⟨"com/example/tidemark/tidemark/policy/RateWindow", "isFull", "()Z"⟩ : MethodName) (head1 (Jvm.Cond.code (⟨"com/example/tidemark/tidemark/policy/RateWindow", "isFull", "()Z"⟩ : MethodName) prog_39_method_5_code 1 (some .boolean) :: ws) ({ frames := 0, cells := 0, slots := 0, locals := 0 } : Room)) (fun a U => a = #[(.ref a1)] ∧ Z.Warmed39 U.vm ∧ U.heap = h0) (fun _ _ _ _ _ => True) (fun _ U o U' => ∃ v L, o = .returned v ∧ Q_rmFull Z a1 rc n z g h0 n0 v U'.heap L ∧ FrameEnd U o U' L ({ frames := 0, cells := 0, slots := 0, locals := 0 } : Room).cells ({ frames := 0, cells := 0, slots := 0, locals := 0 } : Room).slots) := by
  refine own_met (y := (⟨"com/example/tidemark/tidemark/policy/RateWindow", "isFull", "()Z"⟩ : MethodName)) (Q := (Q_rmFull Z a1 rc n z g h0 n0)) (plainFor_of_name pn_2) fun p e s m below meth c s₁ X0 hx hby hml hret hlk hown hnm hZ e0 => ?_
  refine own_entry (ef_4_R m a1) ?_
  obtain ⟨c1, Ar, hsz, hat⟩ := A
  refine own_to s₁ (mkF m 1 #[.val (.ref a1)] [(.ref a1)]) (fun tq kq => XS.aloadN X0.here hx rfl (hb hby d4_0) rfl rfl kq) ?_
  obtain ⟨T1, X1, e1, st1⟩ := getF X0 hx hZ hown (host := "") (Or.inl (own_w hw 22 rfl)) Via.refl e0 F2 (g := (mkF m 1 #[.val (.ref a1)] [(.ref a1)])) rfl rfl (hb hby d4_1)
  refine own_to T1 (mkF m 5 #[.val (.ref a1)] [(.ref a1), (.long (Int64.ofNat n))]) (fun tq kq => st1 _ (XS.aloadN X1.here hx rfl (hb hby d4_4) rfl rfl kq)) ?_
  obtain ⟨T2, X2, e2, st2⟩ := getF X1 hx hZ hown (host := "") (Or.inl (own_w hw 15 rfl)) Via.refl e1 F1 (g := (mkF m 5 #[.val (.ref a1)] [(.ref a1), (.long (Int64.ofNat n))])) rfl rfl (hb hby d4_5)
  refine own_to T2 (mkF m 9 #[.val (.ref a1)] [(.int (c1.slots.size.toInt32)), (.long (Int64.ofNat n))]) (fun tq kq => st2 _ (X2.arraylength hx (by rw [e2]; exact Ar.1) (State.isArrayOf_alike hZ.alike Ar.2.1) (g := (mkF m 8 #[.val (.ref a1)] [(.ref rc), (.long (Int64.ofNat n))])) rfl rfl (hb hby d4_8) _ kq)) ?_
  rw [show c1.slots.size.toInt32 = Int32.ofNat z from by rw [hsz] <;> rfl]
  refine own_to T2 (mkF m 10 #[.val (.ref a1)] [(.long ((Int32.ofNat z).toInt64)), (.long (Int64.ofNat n))]) (fun tq kq => XS.i2l X2.here hx rfl (hb hby d4_9) rfl kq) ?_
  rw [show ((Int32.ofNat z).toInt64) = (Int64.ofNat z) from own_i2l (by omega)]
  refine own_to T2 (mkF m 11 #[.val (.ref a1)] [(.int (lcmpW (Int64.ofNat n) (Int64.ofNat z)))]) (fun tq kq => XS.lcmp X2.here hx rfl (hb hby d4_10) rfl kq) ?_
  by_cases c11 : (Int64.ofNat n) < (Int64.ofNat z)
  · skip
    refine own_to T2 (mkF m 19 #[.val (.ref a1)] [(.int (0 : Int32))]) (fun tq kq => XS.ifYes X2.here hx rfl (pc0 := 11) (pc' := 18) rfl (hb hby d4_11) rfl ((if0 _ _).trans (tlt ((lw_lt (Int64.ofNat n) (Int64.ofNat z)).mpr c11)).1) (by decide) (by decide) (XS.iconst X2.here hx rfl (hb hby d4_18) kq)) ?_
    exact own_retZ X2 hx hret hlk (hb hby d4_19) (by decide) (by decide) (Or.inl rfl) ⟨congrArg (fun q => some (Value.int q)) (show (if n < z then (0 : Int32) else 1) = (0 : Int32) from if_pos ((own_lltn (by omega) (by omega)).mp c11)).symm, (Fr.nil n0), e2⟩
  · skip
    refine own_to T2 (mkF m 19 #[.val (.ref a1)] [(.int (1 : Int32))]) (fun tq kq => XS.ifNo X2.here hx rfl (hb hby d4_11) rfl ((if0 _ _).trans (flt (mt (lw_lt (Int64.ofNat n) (Int64.ofNat z)).mp c11)).1) (XS.iconst X2.here hx rfl (hb hby d4_14) (XS.goto X2.here hx rfl (pc0 := 15) (pc' := 19) rfl (hb hby d4_15) (by decide) (by decide) kq))) ?_
    exact own_retZ X2 hx hret hlk (hb hby d4_19) (by decide) (by decide) (Or.inr rfl) ⟨congrArg (fun q => some (Value.int q)) (show (if n < z then (0 : Int32) else 1) = (1 : Int32) from if_neg (mt (own_lltn (by omega) (by omega)).mpr c11)).symm, (Fr.nil n0), e2⟩
theorem d5_0 : decode prog_39_method_4_code 0 = .ok (.aload_n 1, 1) := by decide +kernel
theorem d5_1 : decode prog_39_method_4_code 1 = .ok (.astore_n 2, 1) := by decide +kernel
theorem d5_2 : decode prog_39_method_4_code 2 = .ok (.aload_n 2, 1) := by decide +kernel
theorem d5_3 : decode prog_39_method_4_code 3 = .ok (.arraylength, 1) := by decide +kernel
theorem d5_4 : decode prog_39_method_4_code 4 = .ok (.istore_n 3, 1) := by decide +kernel
theorem d5_5 : decode prog_39_method_4_code 5 = .ok (.iconst 0, 1) := by decide +kernel
theorem d5_6 : decode prog_39_method_4_code 6 = .ok (.istore 4, 2) := by decide +kernel
theorem d5_8 : decode prog_39_method_4_code 8 = .ok (.iload 4, 2) := by decide +kernel
theorem d5_10 : decode prog_39_method_4_code 10 = .ok (.iload_n 3, 1) := by decide +kernel
theorem d5_11 : decode prog_39_method_4_code 11 = .ok (.if_icmp .ge 44, 3) := by decide +kernel
theorem d5_14 : decode prog_39_method_4_code 14 = .ok (.aload_n 2, 1) := by decide +kernel
theorem d5_15 : decode prog_39_method_4_code 15 = .ok (.iload 4, 2) := by decide +kernel
theorem d5_17 : decode prog_39_method_4_code 17 = .ok (.daload, 1) := by decide +kernel
theorem d5_18 : decode prog_39_method_4_code 18 = .ok (.dstore 5, 2) := by decide +kernel
theorem d5_20 : decode prog_39_method_4_code 20 = .ok (.aload_n 0, 1) := by decide +kernel
theorem d5_21 : decode prog_39_method_4_code 21 = .ok (.getfield 9, 3) := by decide +kernel
theorem d5_24 : decode prog_39_method_4_code 24 = .ok (.aload_n 0, 1) := by decide +kernel
theorem d5_25 : decode prog_39_method_4_code 25 = .ok (.getfield 25, 3) := by decide +kernel
theorem d5_28 : decode prog_39_method_4_code 28 = .ok (.aload_n 0, 1) := by decide +kernel
theorem d5_29 : decode prog_39_method_4_code 29 = .ok (.getfield 9, 3) := by decide +kernel
theorem d5_32 : decode prog_39_method_4_code 32 = .ok (.arraylength, 1) := by decide +kernel
theorem d5_33 : decode prog_39_method_4_code 33 = .ok (.i2l, 1) := by decide +kernel
theorem d5_34 : decode prog_39_method_4_code 34 = .ok (.lrem, 1) := by decide +kernel
theorem d5_35 : decode prog_39_method_4_code 35 = .ok (.l2i, 1) := by decide +kernel
theorem d5_36 : decode prog_39_method_4_code 36 = .ok (.dload 5, 2) := by decide +kernel
theorem d5_38 : decode prog_39_method_4_code 38 = .ok (.dastore, 1) := by decide +kernel
theorem d5_39 : decode prog_39_method_4_code 39 = .ok (.aload_n 0, 1) := by decide +kernel
theorem d5_40 : decode prog_39_method_4_code 40 = .ok (.dup, 1) := by decide +kernel
theorem d5_41 : decode prog_39_method_4_code 41 = .ok (.getfield 25, 3) := by decide +kernel
theorem d5_44 : decode prog_39_method_4_code 44 = .ok (.lconst 1, 1) := by decide +kernel
theorem d5_45 : decode prog_39_method_4_code 45 = .ok (.ladd, 1) := by decide +kernel
theorem d5_46 : decode prog_39_method_4_code 46 = .ok (.putfield 25, 3) := by decide +kernel
theorem d5_49 : decode prog_39_method_4_code 49 = .ok (.iinc 4 1, 3) := by decide +kernel
theorem d5_52 : decode prog_39_method_4_code 52 = .ok (.goto (-44), 3) := by decide +kernel
theorem d5_55 : decode prog_39_method_4_code 55 = .ok (.return_, 1) := by decide +kernel
theorem ef_5_RR (m : MethodId) (x0 : Addr) (x1 : Addr) : entryFrame m #[(.ref x0), (.ref x1)] 7 = mkF m 0 #[.val (.ref x0), .val (.ref x1), .unset, .unset, .unset, .unset, .unset] [] := by first | (simp [entryFrame, mkF, argsToLocals, Value.category]; done) | rfl
def Q_rmA (Z : State) (a1 xs rc : Addr) (n z k0 : Nat) (w f g : Nat → UInt64) (h0 : Heap) (n0 : Nat) (v : Option Value) (h : Heap) (L : List Loc) : Prop := v = none ∧ Fr n0 L ∧ Keep h0 h [a1, rc] ∧ Exa Z h a1 "com/example/tidemark/tidemark/policy/RateWindow" ∧ Fld Z h a1 "com/example/tidemark/tidemark/policy/RateWindow" "recent" "[D" (.ref rc) ∧ Fld Z h a1 "com/example/tidemark/tidemark/policy/RateWindow" "seen" "J" (.long (Int64.ofNat (n + k0))) ∧ ∃ g', own_R z w g' (n + k0) ∧ DArr Z h rc z g'
theorem sn_recent_seen {Z : State} {a0 : Array Value} (hw : ∀ d ∈ tables_1, d.before a0 Z = true) : Jvm.RoadKit.slotOf Z "com/example/tidemark/tidemark/policy/RateWindow" "recent" "[D" ≠ Jvm.RoadKit.slotOf Z "com/example/tidemark/tidemark/policy/RateWindow" "seen" "J" := Jvm.RoadKit.slot_ne (a0 := a0) (Or.inr (own_w hw 16 rfl)) (Or.inl (own_w hw 23 rfl)) (by decide) (t := (.array .double)) (t' := .long) (by decide) (by decide)
set_option maxRecDepth 65536 in
set_option maxHeartbeats 40000000 in
theorem rmA (l : Launch) (Z : State) (a0 : Array Value) (hw : ∀ d ∈ tables_1, d.before a0 Z = true) (ws : List Jvm.Cond) (a1 xs rc : Addr) (n z k0 : Nat) (w f g : Nat → UInt64) (h0 : Heap) (n0 : Nat) (Z0 : n0 ≤ h0.size) (E1 : Exa Z h0 a1 "com/example/tidemark/tidemark/policy/RateWindow") (F1 : Fld Z h0 a1 "com/example/tidemark/tidemark/policy/RateWindow" "recent" "[D" (.ref rc)) (F2 : Fld Z h0 a1 "com/example/tidemark/tidemark/policy/RateWindow" "seen" "J" (.long (Int64.ofNat n))) (A1 : DArr Z h0 rc z g) (Ax : DArr Z h0 xs k0 f) (hR : own_R z w g n) (hf : ∀ j, j < k0 → f j = w (n + j)) (ne1 : a1 ≠ rc) (ne2 : a1 ≠ xs) (ne3 : xs ≠ rc) (g_a1 : n0 ≤ a1) (g_rc : n0 ≤ rc) (hz : 0 < z) (hz4 : z ≤ 4) (hn : n < 16) (hk : k0 < 16) :
    MetFree l (⟨"com/example/tidemark/tidemark/policy/RateWindow", "add", "([D)V"⟩ : MethodName) (head1 (Jvm.Cond.code (⟨"com/example/tidemark/tidemark/policy/RateWindow", "add", "([D)V"⟩ : MethodName) prog_39_method_4_code 7 none :: ws) ({ frames := 0, cells := 0, slots := 0, locals := 0 } : Room)) (fun a U => a = #[(.ref a1), (.ref xs)] ∧ Z.Warmed39 U.vm ∧ U.heap = h0) (fun _ _ _ _ _ => True) (fun _ U o U' => ∃ v L, o = .returned v ∧ Q_rmA Z a1 xs rc n z k0 w f g h0 n0 v U'.heap L ∧ FrameEnd U o U' L ({ frames := 0, cells := 0, slots := 0, locals := 0 } : Room).cells ({ frames := 0, cells := 0, slots := 0, locals := 0 } : Room).slots) := by
  refine own_met (y := (⟨"com/example/tidemark/tidemark/policy/RateWindow", "add", "([D)V"⟩ : MethodName)) (Q := (Q_rmA Z a1 xs rc n z k0 w f g h0 n0)) (plainFor_of_name pn_2) fun p e s m below meth c s₁ X0 hx hby hml hret hlk hown hnm hZ e0 => ?_
  refine own_entry (ef_5_RR m a1 xs) ?_
  obtain ⟨cx, Arx, hszx, hatx0⟩ := id Ax
  refine own_to s₁ (mkF m 4 #[.val (.ref a1), .val (.ref xs), .val (.ref xs), .unset, .unset, .unset, .unset] [(.int (cx.slots.size.toInt32))]) (fun tq kq => XS.aloadN X0.here hx rfl (hb hby d5_0) rfl rfl (XS.astoreN X0.here hx rfl (hb hby d5_1) rfl rfl (l' := #[.val (.ref a1), .val (.ref xs), .val (.ref xs), .unset, .unset, .unset, .unset]) rfl (XS.aloadN X0.here hx rfl (hb hby d5_2) rfl rfl (X0.arraylength hx (by rw [e0]; exact Arx.1) (State.isArrayOf_alike hZ.alike Arx.2.1) (g := (mkF m 3 #[.val (.ref a1), .val (.ref xs), .val (.ref xs), .unset, .unset, .unset, .unset] [(.ref xs)])) rfl rfl (hb hby d5_3) _ kq)))) ?_
  rw [show cx.slots.size.toInt32 = Int32.ofNat k0 from by rw [hszx] <;> rfl]
  refine own_to s₁ (mkF m 8 #[.val (.ref a1), .val (.ref xs), .val (.ref xs), .val (.int (Int32.ofNat k0)), .val (.int (0 : Int32)), .unset, .unset] []) (fun tq kq => XS.istoreN X0.here hx rfl (hb hby d5_4) rfl (l' := #[.val (.ref a1), .val (.ref xs), .val (.ref xs), .val (.int (Int32.ofNat k0)), .unset, .unset, .unset]) rfl (XS.iconst X0.here hx rfl (hb hby d5_5) (XS.istore X0.here hx rfl (hb hby d5_6) rfl (l' := #[.val (.ref a1), .val (.ref xs), .val (.ref xs), .val (.int (Int32.ofNat k0)), .val (.int (0 : Int32)), .unset, .unset]) rfl kq))) ?_
  have loop : ∀ (k i : Nat) (gg : Nat → UInt64) (T1 : State) (h1 : Heap) (L1 : List Loc) (s5 s6 : Slot), i + k = k0 → (s5 = .unset ∧ s6 = .unset ∨ ∃ d, s5 = .val (.double d) ∧ s6 = .second) → Stand p l e ({ frames := 0, cells := 0, slots := 0, locals := 0 } : Room) s m #[(.ref a1), (.ref xs)] below meth c T1 L1 0 0 → T1.heap = h1 → Fr n0 L1 → n0 ≤ h1.size → Keep h0 h1 [a1, rc] → Exa Z h1 a1 "com/example/tidemark/tidemark/policy/RateWindow" → Fld Z h1 a1 "com/example/tidemark/tidemark/policy/RateWindow" "recent" "[D" (.ref rc) → Fld Z h1 a1 "com/example/tidemark/tidemark/policy/RateWindow" "seen" "J" (.long (Int64.ofNat (n + i))) → DArr Z h1 rc z gg → DArr Z h1 xs k0 f → own_R z w gg (n + i) → Own p e below s ({ frames := 0, cells := 0, slots := 0, locals := 0 } : Room).cells ({ frames := 0, cells := 0, slots := 0, locals := 0 } : Room).slots (Q_rmA Z a1 xs rc n z k0 w f g h0 n0) T1 (mkF m 8 #[.val (.ref a1), .val (.ref xs), .val (.ref xs), .val (.int (Int32.ofNat k0)), .val (.int (Int32.ofNat i)), s5, s6] []) := by
    intro k
    induction k with
    | zero =>
      intro i gg T1 h1 L1 s5 s6 hik hs X1 e1 N1 Z1 K1 E1' F1' F2' A1' Ax' hR
      refine own_to T1 (mkF m 55 #[.val (.ref a1), .val (.ref xs), .val (.ref xs), .val (.int (Int32.ofNat k0)), .val (.int (Int32.ofNat i)), s5, s6] []) (fun tq kq => XS.iload X1.here hx rfl (hb hby d5_8) rfl (XS.iloadN X1.here hx rfl (hb hby d5_10) rfl (XS.icmpYes X1.here hx rfl (pc0 := 11) (pc' := 55) rfl (hb hby d5_11) rfl (flt (mt (own_ltn (by omega) (by omega)).mp (by omega))).2.1 (by decide) (by decide) kq))) ?_
      exact own_retV X1 hx hret hlk (hb hby d5_55) (by decide) (by decide) (by have e' : i = k0 := (by omega); subst e'; rw [e1]; exact ⟨rfl, N1, K1, E1', F1', F2', gg, hR, A1'⟩)
    | succ k ih =>
      intro i gg T1 h1 L1 s5 s6 hik hs X1 e1 N1 Z1 K1 E1' F1' F2' A1' Ax' hR
      obtain ⟨c1, Ar1, hsz1, hat1⟩ := id A1'
      obtain ⟨cy, Arx', hszx', hatx⟩ := id Ax'
      have hmod : (n + i) % z < z := Nat.mod_lt _ hz
      have hinx : ¬ ((Int32.ofNat i) < 0 ∨ cy.slots.size ≤ (Int32.ofNat i).toNatClampNeg) := by rw [hszx']; exact within rfl (by omega) (by omega)
      have hatx' : cy.slots[(Int32.ofNat i).toNatClampNeg]? = some (.double (f i)) := by rw [clamp_of rfl (by omega)]; exact hatx i (by omega)
      rcases hs with ⟨rfl, rfl⟩ | ⟨d, rfl, rfl⟩
      · skip
        refine own_to T1 (mkF m 21 #[.val (.ref a1), .val (.ref xs), .val (.ref xs), .val (.int (Int32.ofNat k0)), .val (.int (Int32.ofNat i)), .val (.double (f i)), .second] [(.ref a1)]) (fun tq kq => XS.iload X1.here hx rfl (hb hby d5_8) rfl (XS.iloadN X1.here hx rfl (hb hby d5_10) rfl (XS.icmpNo X1.here hx rfl (hb hby d5_11) rfl (tlt ((own_ltn (by omega) (by omega)).mpr (by omega))).2.1 (XS.aloadN X1.here hx rfl (hb hby d5_14) rfl rfl (XS.iload X1.here hx rfl (hb hby d5_15) rfl (X1.daload hx (j := (Int32.ofNat i)) (v := (.double (f i))) (by rw [e1]; exact Arx'.1) (State.isArrayOf_alike hZ.alike Arx'.2.1) Arx'.2.2 hinx hatx' (g := (mkF m 17 #[.val (.ref a1), .val (.ref xs), .val (.ref xs), .val (.int (Int32.ofNat k0)), .val (.int (Int32.ofNat i)), .unset, .unset] [(.int (Int32.ofNat i)), (.ref xs)])) rfl rfl (hb hby d5_17) _ (XS.dstore X1.here hx rfl (hb hby d5_18) rfl (l' := #[.val (.ref a1), .val (.ref xs), .val (.ref xs), .val (.int (Int32.ofNat k0)), .val (.int (Int32.ofNat i)), .val (.double (f i)), .second]) rfl (XS.aloadN X1.here hx rfl (hb hby d5_20) rfl rfl kq)))))))) ?_
        obtain ⟨T1, X1, e1, st1⟩ := getF X1 hx hZ hown (host := "") (Or.inl (own_w hw 15 rfl)) Via.refl e1 F1' (g := (mkF m 21 #[.val (.ref a1), .val (.ref xs), .val (.ref xs), .val (.int (Int32.ofNat k0)), .val (.int (Int32.ofNat i)), .val (.double (f i)), .second] [(.ref a1)])) rfl rfl (hb hby d5_21)
        refine own_to T1 (mkF m 25 #[.val (.ref a1), .val (.ref xs), .val (.ref xs), .val (.int (Int32.ofNat k0)), .val (.int (Int32.ofNat i)), .val (.double (f i)), .second] [(.ref a1), (.ref rc)]) (fun tq kq => st1 _ (XS.aloadN X1.here hx rfl (hb hby d5_24) rfl rfl kq)) ?_
        obtain ⟨T2, X2, e2, st2⟩ := getF X1 hx hZ hown (host := "") (Or.inl (own_w hw 22 rfl)) Via.refl e1 F2' (g := (mkF m 25 #[.val (.ref a1), .val (.ref xs), .val (.ref xs), .val (.int (Int32.ofNat k0)), .val (.int (Int32.ofNat i)), .val (.double (f i)), .second] [(.ref a1), (.ref rc)])) rfl rfl (hb hby d5_25)
        refine own_to T2 (mkF m 29 #[.val (.ref a1), .val (.ref xs), .val (.ref xs), .val (.int (Int32.ofNat k0)), .val (.int (Int32.ofNat i)), .val (.double (f i)), .second] [(.ref a1), (.long (Int64.ofNat (n + i))), (.ref rc)]) (fun tq kq => st2 _ (XS.aloadN X2.here hx rfl (hb hby d5_28) rfl rfl kq)) ?_
        obtain ⟨T3, X3, e3, st3⟩ := getF X2 hx hZ hown (host := "") (Or.inl (own_w hw 15 rfl)) Via.refl e2 F1' (g := (mkF m 29 #[.val (.ref a1), .val (.ref xs), .val (.ref xs), .val (.int (Int32.ofNat k0)), .val (.int (Int32.ofNat i)), .val (.double (f i)), .second] [(.ref a1), (.long (Int64.ofNat (n + i))), (.ref rc)])) rfl rfl (hb hby d5_29)
        refine own_to T3 (mkF m 33 #[.val (.ref a1), .val (.ref xs), .val (.ref xs), .val (.int (Int32.ofNat k0)), .val (.int (Int32.ofNat i)), .val (.double (f i)), .second] [(.int (c1.slots.size.toInt32)), (.long (Int64.ofNat (n + i))), (.ref rc)]) (fun tq kq => st3 _ (X3.arraylength hx (by rw [e3]; exact Ar1.1) (State.isArrayOf_alike hZ.alike Ar1.2.1) (g := (mkF m 32 #[.val (.ref a1), .val (.ref xs), .val (.ref xs), .val (.int (Int32.ofNat k0)), .val (.int (Int32.ofNat i)), .val (.double (f i)), .second] [(.ref rc), (.long (Int64.ofNat (n + i))), (.ref rc)])) rfl rfl (hb hby d5_32) _ kq)) ?_
        rw [show c1.slots.size.toInt32 = Int32.ofNat z from by rw [hsz1] <;> rfl]
        refine own_to T3 (mkF m 34 #[.val (.ref a1), .val (.ref xs), .val (.ref xs), .val (.int (Int32.ofNat k0)), .val (.int (Int32.ofNat i)), .val (.double (f i)), .second] [(.long ((Int32.ofNat z).toInt64)), (.long (Int64.ofNat (n + i))), (.ref rc)]) (fun tq kq => XS.i2l X3.here hx rfl (hb hby d5_33) rfl kq) ?_
        rw [show ((Int32.ofNat z).toInt64) = (Int64.ofNat z) from own_i2l (by omega)]
        refine own_to T3 (mkF m 35 #[.val (.ref a1), .val (.ref xs), .val (.ref xs), .val (.int (Int32.ofNat k0)), .val (.int (Int32.ofNat i)), .val (.double (f i)), .second] [(.long ((Int64.ofNat (n + i)) - ((Int64.ofNat (n + i)) / (Int64.ofNat z)) * (Int64.ofNat z))), (.ref rc)]) (fun tq kq => XS.lrem X3.here hx rfl (hb hby d5_34) rfl (own_lnz hz (by omega)) kq) ?_
        rw [show ((Int64.ofNat (n + i)) - ((Int64.ofNat (n + i)) / (Int64.ofNat z)) * (Int64.ofNat z)) = (Int64.ofNat ((n + i) % z)) from own_lrem (by omega) hz (by omega)]
        refine own_to T3 (mkF m 36 #[.val (.ref a1), .val (.ref xs), .val (.ref xs), .val (.int (Int32.ofNat k0)), .val (.int (Int32.ofNat i)), .val (.double (f i)), .second] [(.int ((Int64.ofNat ((n + i) % z)).toInt32)), (.ref rc)]) (fun tq kq => XS.l2i X3.here hx rfl (hb hby d5_35) rfl kq) ?_
        rw [show ((Int64.ofNat ((n + i) % z)).toInt32) = (Int32.ofNat ((n + i) % z)) from own_l2i (by have := Nat.mod_le (n + i) z; omega)]
        refine own_to T3 (mkF m 38 #[.val (.ref a1), .val (.ref xs), .val (.ref xs), .val (.int (Int32.ofNat k0)), .val (.int (Int32.ofNat i)), .val (.double (f i)), .second] [(.double (f i)), (.int (Int32.ofNat ((n + i) % z))), (.ref rc)]) (fun tq kq => XS.dload X3.here hx rfl (hb hby d5_36) rfl kq) ?_
        obtain ⟨T4, h4, X4, e4, W4, st4⟩ := stD X3 hx hZ e3 Ar1 (j := (Int32.ofNat ((n + i) % z))) (by rw [hsz1]; exact within rfl hmod (by omega)) (g := (mkF m 38 #[.val (.ref a1), .val (.ref xs), .val (.ref xs), .val (.int (Int32.ofNat k0)), .val (.int (Int32.ofNat i)), .val (.double (f i)), .second] [(.double (f i)), (.int (Int32.ofNat ((n + i) % z))), (.ref rc)])) rfl rfl (hb hby d5_38)
        have f5 := E1'.wr W4
        have f6 := F1'.other W4 (Or.inl ne1)
        have f7 := F2'.other W4 (Or.inl ne1)
        have f8 := Ax'.other W4 ne3
        have N4 := Fr.snoc X4 N1 g_rc
        have Zs4 : n0 ≤ h4.size := by rw [W4.size]; exact Z1
        have K4 := K1.wr W4 (Or.inl (List.mem_of_getElem? (i := 1) rfl))
        have V4 := DArr.set Ar1 hsz1 hat1 W4 (clamp_of rfl (by omega) : (Int32.ofNat ((n + i) % z)).toNatClampNeg = (n + i) % z)
        refine own_to T4 (mkF m 41 #[.val (.ref a1), .val (.ref xs), .val (.ref xs), .val (.int (Int32.ofNat k0)), .val (.int (Int32.ofNat i)), .val (.double (f i)), .second] [(.ref a1), (.ref a1)]) (fun tq kq => st4 _ (XS.aloadN X4.here hx rfl (hb hby d5_39) rfl rfl (XS.dup X4.here hx rfl (hb hby d5_40) rfl rfl kq))) ?_
        obtain ⟨T9, X9, e9, st9⟩ := getF X4 hx hZ hown (host := "") (Or.inl (own_w hw 22 rfl)) Via.refl e4 f7 (g := (mkF m 41 #[.val (.ref a1), .val (.ref xs), .val (.ref xs), .val (.int (Int32.ofNat k0)), .val (.int (Int32.ofNat i)), .val (.double (f i)), .second] [(.ref a1), (.ref a1)])) rfl rfl (hb hby d5_41)
        refine own_to T9 (mkF m 46 #[.val (.ref a1), .val (.ref xs), .val (.ref xs), .val (.int (Int32.ofNat k0)), .val (.int (Int32.ofNat i)), .val (.double (f i)), .second] [(.long ((Int64.ofNat (n + i)) + (1 : Int64))), (.ref a1)]) (fun tq kq => st9 _ (XS.lconst X9.here hx rfl (hb hby d5_44) (XS.ladd X9.here hx rfl (hb hby d5_45) rfl kq))) ?_
        rw [show ((Int64.ofNat (n + i)) + (1 : Int64)) = (Int64.ofNat (n + i + 1)) from own_ladd (b := 1) (by omega) (by decide)]
        obtain ⟨T10, h10, X10, e10, W10, st10⟩ := putF X9 hx hZ hown (host := "") (Or.inl (own_w hw 22 rfl)) Via.refl e9 f7 f5 (Or.inl (own_w hw 23 rfl)) (own_w hw 7 rfl) (ty := .long) (by decide) rfl rfl (g := (mkF m 46 #[.val (.ref a1), .val (.ref xs), .val (.ref xs), .val (.int (Int32.ofNat k0)), .val (.int (Int32.ofNat i)), .val (.double (f i)), .second] [(.long (Int64.ofNat (n + i + 1))), (.ref a1)])) rfl rfl (hb hby d5_46)
        have f11 := f5.wr W10
        have f12 := f6.other W10 (Or.inr (sn_recent_seen hw))
        have f13 := f8.other W10 (Ne.symm ne2)
        have f14 := V4.other W10 (Ne.symm ne1)
        have f15 := f7.same W10
        have N10 := Fr.snoc X10 N4 g_a1
        have Zs10 : n0 ≤ h10.size := by rw [W10.size]; exact Zs4
        have K10 := K4.wr W10 (Or.inl (List.mem_of_getElem? (i := 0) rfl))
        refine own_to T10 (mkF m 8 #[.val (.ref a1), .val (.ref xs), .val (.ref xs), .val (.int (Int32.ofNat k0)), .val (.int ((Int32.ofNat i) + (1 : Int32))), .val (.double (f i)), .second] []) (fun tq kq => st10 _ (XS.iinc X10.here hx rfl (hb hby d5_49) rfl (l' := #[.val (.ref a1), .val (.ref xs), .val (.ref xs), .val (.int (Int32.ofNat k0)), .val (.int ((Int32.ofNat i) + (1 : Int32))), .val (.double (f i)), .second]) rfl (XS.goto X10.here hx rfl (pc0 := 52) (pc' := 8) rfl (hb hby d5_52) (by decide) (by decide) kq))) ?_
        have hi1 : (Int32.ofNat i + (1 : Int32)) = Int32.ofNat (i + 1) := own_addn i 1 (by omega) (by decide)
        rw [hi1]
        exact ih (i + 1) _ _ _ _ _ _ (by omega) (Or.inr ⟨_, rfl, rfl⟩) X10 e10 N10 Zs10 K10 f11 f12 f15 f14 f13 (own_R1 hz hR (hf i (by omega)))
      · skip
        refine own_to T1 (mkF m 21 #[.val (.ref a1), .val (.ref xs), .val (.ref xs), .val (.int (Int32.ofNat k0)), .val (.int (Int32.ofNat i)), .val (.double (f i)), .second] [(.ref a1)]) (fun tq kq => XS.iload X1.here hx rfl (hb hby d5_8) rfl (XS.iloadN X1.here hx rfl (hb hby d5_10) rfl (XS.icmpNo X1.here hx rfl (hb hby d5_11) rfl (tlt ((own_ltn (by omega) (by omega)).mpr (by omega))).2.1 (XS.aloadN X1.here hx rfl (hb hby d5_14) rfl rfl (XS.iload X1.here hx rfl (hb hby d5_15) rfl (X1.daload hx (j := (Int32.ofNat i)) (v := (.double (f i))) (by rw [e1]; exact Arx'.1) (State.isArrayOf_alike hZ.alike Arx'.2.1) Arx'.2.2 hinx hatx' (g := (mkF m 17 #[.val (.ref a1), .val (.ref xs), .val (.ref xs), .val (.int (Int32.ofNat k0)), .val (.int (Int32.ofNat i)), .val (.double d), .second] [(.int (Int32.ofNat i)), (.ref xs)])) rfl rfl (hb hby d5_17) _ (XS.dstore X1.here hx rfl (hb hby d5_18) rfl (l' := #[.val (.ref a1), .val (.ref xs), .val (.ref xs), .val (.int (Int32.ofNat k0)), .val (.int (Int32.ofNat i)), .val (.double (f i)), .second]) rfl (XS.aloadN X1.here hx rfl (hb hby d5_20) rfl rfl kq)))))))) ?_
        obtain ⟨T16, X16, e16, st16⟩ := getF X1 hx hZ hown (host := "") (Or.inl (own_w hw 15 rfl)) Via.refl e1 F1' (g := (mkF m 21 #[.val (.ref a1), .val (.ref xs), .val (.ref xs), .val (.int (Int32.ofNat k0)), .val (.int (Int32.ofNat i)), .val (.double (f i)), .second] [(.ref a1)])) rfl rfl (hb hby d5_21)
        refine own_to T16 (mkF m 25 #[.val (.ref a1), .val (.ref xs), .val (.ref xs), .val (.int (Int32.ofNat k0)), .val (.int (Int32.ofNat i)), .val (.double (f i)), .second] [(.ref a1), (.ref rc)]) (fun tq kq => st16 _ (XS.aloadN X16.here hx rfl (hb hby d5_24) rfl rfl kq)) ?_
        obtain ⟨T17, X17, e17, st17⟩ := getF X16 hx hZ hown (host := "") (Or.inl (own_w hw 22 rfl)) Via.refl e16 F2' (g := (mkF m 25 #[.val (.ref a1), .val (.ref xs), .val (.ref xs), .val (.int (Int32.ofNat k0)), .val (.int (Int32.ofNat i)), .val (.double (f i)), .second] [(.ref a1), (.ref rc)])) rfl rfl (hb hby d5_25)
        refine own_to T17 (mkF m 29 #[.val (.ref a1), .val (.ref xs), .val (.ref xs), .val (.int (Int32.ofNat k0)), .val (.int (Int32.ofNat i)), .val (.double (f i)), .second] [(.ref a1), (.long (Int64.ofNat (n + i))), (.ref rc)]) (fun tq kq => st17 _ (XS.aloadN X17.here hx rfl (hb hby d5_28) rfl rfl kq)) ?_
        obtain ⟨T18, X18, e18, st18⟩ := getF X17 hx hZ hown (host := "") (Or.inl (own_w hw 15 rfl)) Via.refl e17 F1' (g := (mkF m 29 #[.val (.ref a1), .val (.ref xs), .val (.ref xs), .val (.int (Int32.ofNat k0)), .val (.int (Int32.ofNat i)), .val (.double (f i)), .second] [(.ref a1), (.long (Int64.ofNat (n + i))), (.ref rc)])) rfl rfl (hb hby d5_29)
        refine own_to T18 (mkF m 33 #[.val (.ref a1), .val (.ref xs), .val (.ref xs), .val (.int (Int32.ofNat k0)), .val (.int (Int32.ofNat i)), .val (.double (f i)), .second] [(.int (c1.slots.size.toInt32)), (.long (Int64.ofNat (n + i))), (.ref rc)]) (fun tq kq => st18 _ (X18.arraylength hx (by rw [e18]; exact Ar1.1) (State.isArrayOf_alike hZ.alike Ar1.2.1) (g := (mkF m 32 #[.val (.ref a1), .val (.ref xs), .val (.ref xs), .val (.int (Int32.ofNat k0)), .val (.int (Int32.ofNat i)), .val (.double (f i)), .second] [(.ref rc), (.long (Int64.ofNat (n + i))), (.ref rc)])) rfl rfl (hb hby d5_32) _ kq)) ?_
        rw [show c1.slots.size.toInt32 = Int32.ofNat z from by rw [hsz1] <;> rfl]
        refine own_to T18 (mkF m 34 #[.val (.ref a1), .val (.ref xs), .val (.ref xs), .val (.int (Int32.ofNat k0)), .val (.int (Int32.ofNat i)), .val (.double (f i)), .second] [(.long ((Int32.ofNat z).toInt64)), (.long (Int64.ofNat (n + i))), (.ref rc)]) (fun tq kq => XS.i2l X18.here hx rfl (hb hby d5_33) rfl kq) ?_
        rw [show ((Int32.ofNat z).toInt64) = (Int64.ofNat z) from own_i2l (by omega)]
        refine own_to T18 (mkF m 35 #[.val (.ref a1), .val (.ref xs), .val (.ref xs), .val (.int (Int32.ofNat k0)), .val (.int (Int32.ofNat i)), .val (.double (f i)), .second] [(.long ((Int64.ofNat (n + i)) - ((Int64.ofNat (n + i)) / (Int64.ofNat z)) * (Int64.ofNat z))), (.ref rc)]) (fun tq kq => XS.lrem X18.here hx rfl (hb hby d5_34) rfl (own_lnz hz (by omega)) kq) ?_
        rw [show ((Int64.ofNat (n + i)) - ((Int64.ofNat (n + i)) / (Int64.ofNat z)) * (Int64.ofNat z)) = (Int64.ofNat ((n + i) % z)) from own_lrem (by omega) hz (by omega)]
        refine own_to T18 (mkF m 36 #[.val (.ref a1), .val (.ref xs), .val (.ref xs), .val (.int (Int32.ofNat k0)), .val (.int (Int32.ofNat i)), .val (.double (f i)), .second] [(.int ((Int64.ofNat ((n + i) % z)).toInt32)), (.ref rc)]) (fun tq kq => XS.l2i X18.here hx rfl (hb hby d5_35) rfl kq) ?_
        rw [show ((Int64.ofNat ((n + i) % z)).toInt32) = (Int32.ofNat ((n + i) % z)) from own_l2i (by have := Nat.mod_le (n + i) z; omega)]
        refine own_to T18 (mkF m 38 #[.val (.ref a1), .val (.ref xs), .val (.ref xs), .val (.int (Int32.ofNat k0)), .val (.int (Int32.ofNat i)), .val (.double (f i)), .second] [(.double (f i)), (.int (Int32.ofNat ((n + i) % z))), (.ref rc)]) (fun tq kq => XS.dload X18.here hx rfl (hb hby d5_36) rfl kq) ?_
        obtain ⟨T19, h19, X19, e19, W19, st19⟩ := stD X18 hx hZ e18 Ar1 (j := (Int32.ofNat ((n + i) % z))) (by rw [hsz1]; exact within rfl hmod (by omega)) (g := (mkF m 38 #[.val (.ref a1), .val (.ref xs), .val (.ref xs), .val (.int (Int32.ofNat k0)), .val (.int (Int32.ofNat i)), .val (.double (f i)), .second] [(.double (f i)), (.int (Int32.ofNat ((n + i) % z))), (.ref rc)])) rfl rfl (hb hby d5_38)
        have f20 := E1'.wr W19
        have f21 := F1'.other W19 (Or.inl ne1)
        have f22 := F2'.other W19 (Or.inl ne1)
        have f23 := Ax'.other W19 ne3
        have N19 := Fr.snoc X19 N1 g_rc
        have Zs19 : n0 ≤ h19.size := by rw [W19.size]; exact Z1
        have K19 := K1.wr W19 (Or.inl (List.mem_of_getElem? (i := 1) rfl))
        have V19 := DArr.set Ar1 hsz1 hat1 W19 (clamp_of rfl (by omega) : (Int32.ofNat ((n + i) % z)).toNatClampNeg = (n + i) % z)
        refine own_to T19 (mkF m 41 #[.val (.ref a1), .val (.ref xs), .val (.ref xs), .val (.int (Int32.ofNat k0)), .val (.int (Int32.ofNat i)), .val (.double (f i)), .second] [(.ref a1), (.ref a1)]) (fun tq kq => st19 _ (XS.aloadN X19.here hx rfl (hb hby d5_39) rfl rfl (XS.dup X19.here hx rfl (hb hby d5_40) rfl rfl kq))) ?_
        obtain ⟨T24, X24, e24, st24⟩ := getF X19 hx hZ hown (host := "") (Or.inl (own_w hw 22 rfl)) Via.refl e19 f22 (g := (mkF m 41 #[.val (.ref a1), .val (.ref xs), .val (.ref xs), .val (.int (Int32.ofNat k0)), .val (.int (Int32.ofNat i)), .val (.double (f i)), .second] [(.ref a1), (.ref a1)])) rfl rfl (hb hby d5_41)
        refine own_to T24 (mkF m 46 #[.val (.ref a1), .val (.ref xs), .val (.ref xs), .val (.int (Int32.ofNat k0)), .val (.int (Int32.ofNat i)), .val (.double (f i)), .second] [(.long ((Int64.ofNat (n + i)) + (1 : Int64))), (.ref a1)]) (fun tq kq => st24 _ (XS.lconst X24.here hx rfl (hb hby d5_44) (XS.ladd X24.here hx rfl (hb hby d5_45) rfl kq))) ?_
        rw [show ((Int64.ofNat (n + i)) + (1 : Int64)) = (Int64.ofNat (n + i + 1)) from own_ladd (b := 1) (by omega) (by decide)]
        obtain ⟨T25, h25, X25, e25, W25, st25⟩ := putF X24 hx hZ hown (host := "") (Or.inl (own_w hw 22 rfl)) Via.refl e24 f22 f20 (Or.inl (own_w hw 23 rfl)) (own_w hw 7 rfl) (ty := .long) (by decide) rfl rfl (g := (mkF m 46 #[.val (.ref a1), .val (.ref xs), .val (.ref xs), .val (.int (Int32.ofNat k0)), .val (.int (Int32.ofNat i)), .val (.double (f i)), .second] [(.long (Int64.ofNat (n + i + 1))), (.ref a1)])) rfl rfl (hb hby d5_46)
        have f26 := f20.wr W25
        have f27 := f21.other W25 (Or.inr (sn_recent_seen hw))
        have f28 := f23.other W25 (Ne.symm ne2)
        have f29 := V19.other W25 (Ne.symm ne1)
        have f30 := f22.same W25
        have N25 := Fr.snoc X25 N19 g_a1
        have Zs25 : n0 ≤ h25.size := by rw [W25.size]; exact Zs19
        have K25 := K19.wr W25 (Or.inl (List.mem_of_getElem? (i := 0) rfl))
        refine own_to T25 (mkF m 8 #[.val (.ref a1), .val (.ref xs), .val (.ref xs), .val (.int (Int32.ofNat k0)), .val (.int ((Int32.ofNat i) + (1 : Int32))), .val (.double (f i)), .second] []) (fun tq kq => st25 _ (XS.iinc X25.here hx rfl (hb hby d5_49) rfl (l' := #[.val (.ref a1), .val (.ref xs), .val (.ref xs), .val (.int (Int32.ofNat k0)), .val (.int ((Int32.ofNat i) + (1 : Int32))), .val (.double (f i)), .second]) rfl (XS.goto X25.here hx rfl (pc0 := 52) (pc' := 8) rfl (hb hby d5_52) (by decide) (by decide) kq))) ?_
        have hi1 : (Int32.ofNat i + (1 : Int32)) = Int32.ofNat (i + 1) := own_addn i 1 (by omega) (by decide)
        rw [hi1]
        exact ih (i + 1) _ _ _ _ _ _ (by omega) (Or.inr ⟨_, rfl, rfl⟩) X25 e25 N25 Zs25 K25 f26 f27 f30 f29 f28 (own_R1 hz hR (hf i (by omega)))
  exact loop k0 0 g s₁ h0 [] .unset .unset (by omega) (Or.inl ⟨rfl, rfl⟩) X0 e0 (Fr.nil n0) Z0 (Keep.refl h0 [a1, rc]) E1 F1 F2 A1 Ax hR
theorem d6_0 : decode prog_39_method_6_code 0 = .ok (.aload_n 0, 1) := by decide +kernel
theorem d6_1 : decode prog_39_method_6_code 1 = .ok (.getfield 9, 3) := by decide +kernel
theorem d6_4 : decode prog_39_method_6_code 4 = .ok (.arraylength, 1) := by decide +kernel
theorem d6_5 : decode prog_39_method_6_code 5 = .ok (.newarray .double, 2) := by decide +kernel
theorem d6_7 : decode prog_39_method_6_code 7 = .ok (.astore_n 1, 1) := by decide +kernel
theorem d6_8 : decode prog_39_method_6_code 8 = .ok (.iconst 0, 1) := by decide +kernel
theorem d6_9 : decode prog_39_method_6_code 9 = .ok (.istore_n 2, 1) := by decide +kernel
theorem d6_10 : decode prog_39_method_6_code 10 = .ok (.iload_n 2, 1) := by decide +kernel
theorem d6_11 : decode prog_39_method_6_code 11 = .ok (.aload_n 1, 1) := by decide +kernel
theorem d6_12 : decode prog_39_method_6_code 12 = .ok (.arraylength, 1) := by decide +kernel
theorem d6_13 : decode prog_39_method_6_code 13 = .ok (.if_icmp .ge 32, 3) := by decide +kernel
theorem d6_16 : decode prog_39_method_6_code 16 = .ok (.aload_n 1, 1) := by decide +kernel
theorem d6_17 : decode prog_39_method_6_code 17 = .ok (.iload_n 2, 1) := by decide +kernel
theorem d6_18 : decode prog_39_method_6_code 18 = .ok (.aload_n 0, 1) := by decide +kernel
theorem d6_19 : decode prog_39_method_6_code 19 = .ok (.getfield 9, 3) := by decide +kernel
theorem d6_22 : decode prog_39_method_6_code 22 = .ok (.aload_n 0, 1) := by decide +kernel
theorem d6_23 : decode prog_39_method_6_code 23 = .ok (.getfield 25, 3) := by decide +kernel
theorem d6_26 : decode prog_39_method_6_code 26 = .ok (.iload_n 2, 1) := by decide +kernel
theorem d6_27 : decode prog_39_method_6_code 27 = .ok (.i2l, 1) := by decide +kernel
theorem d6_28 : decode prog_39_method_6_code 28 = .ok (.ladd, 1) := by decide +kernel
theorem d6_29 : decode prog_39_method_6_code 29 = .ok (.aload_n 0, 1) := by decide +kernel
theorem d6_30 : decode prog_39_method_6_code 30 = .ok (.getfield 9, 3) := by decide +kernel
theorem d6_33 : decode prog_39_method_6_code 33 = .ok (.arraylength, 1) := by decide +kernel
theorem d6_34 : decode prog_39_method_6_code 34 = .ok (.i2l, 1) := by decide +kernel
theorem d6_35 : decode prog_39_method_6_code 35 = .ok (.lrem, 1) := by decide +kernel
theorem d6_36 : decode prog_39_method_6_code 36 = .ok (.l2i, 1) := by decide +kernel
theorem d6_37 : decode prog_39_method_6_code 37 = .ok (.daload, 1) := by decide +kernel
theorem d6_38 : decode prog_39_method_6_code 38 = .ok (.dastore, 1) := by decide +kernel
theorem d6_39 : decode prog_39_method_6_code 39 = .ok (.iinc 2 1, 3) := by decide +kernel
theorem d6_42 : decode prog_39_method_6_code 42 = .ok (.goto (-32), 3) := by decide +kernel
theorem d6_45 : decode prog_39_method_6_code 45 = .ok (.aload_n 1, 1) := by decide +kernel
theorem d6_46 : decode prog_39_method_6_code 46 = .ok (.areturn, 1) := by decide +kernel
theorem ef_6_R (m : MethodId) (x0 : Addr) : entryFrame m #[(.ref x0)] 3 = mkF m 0 #[.val (.ref x0), .unset, .unset] [] := by first | (simp [entryFrame, mkF, argsToLocals, Value.category]; done) | rfl
def Q_rmR (Z : State) (a1 rc : Addr) (n z : Nat) (g : Nat → UInt64) (h0 : Heap) (n0 : Nat) (v : Option Value) (h : Heap) (L : List Loc) : Prop := ∃ b r, v = some (.ref b) ∧ Fr n0 L ∧ Keep h0 h [] ∧ n0 ≤ b ∧ DArr Z h b z r ∧ ∀ j, j < z → r j = g ((n + j) % z)
set_option maxRecDepth 65536 in
set_option maxHeartbeats 40000000 in
theorem rmR (l : Launch) (Z : State) (a0 : Array Value) (hw : ∀ d ∈ tables_1, d.before a0 Z = true) (ws : List Jvm.Cond) (a1 rc : Addr) (n z : Nat) (g : Nat → UInt64) (h0 : Heap) (n0 : Nat) (Z0 : n0 ≤ h0.size) (F1 : Fld Z h0 a1 "com/example/tidemark/tidemark/policy/RateWindow" "recent" "[D" (.ref rc)) (F2 : Fld Z h0 a1 "com/example/tidemark/tidemark/policy/RateWindow" "seen" "J" (.long (Int64.ofNat n))) (A1 : DArr Z h0 rc z g) (hz : 0 < z) (hz4 : z ≤ 4) (hn : n < 16) :
    MetFree l (⟨"com/example/tidemark/tidemark/policy/RateWindow", "rates", "()[D"⟩ : MethodName) (head1 (Jvm.Cond.code (⟨"com/example/tidemark/tidemark/policy/RateWindow", "rates", "()[D"⟩ : MethodName) prog_39_method_6_code 3 (some (.array .double)) :: ws) ({ frames := 0, cells := 1, slots := 4, locals := 0 } : Room)) (fun a U => a = #[(.ref a1)] ∧ Z.Warmed39 U.vm ∧ U.heap = h0) (fun _ _ _ _ _ => True) (fun _ U o U' => ∃ v L, o = .returned v ∧ Q_rmR Z a1 rc n z g h0 n0 v U'.heap L ∧ FrameEnd U o U' L ({ frames := 0, cells := 1, slots := 4, locals := 0 } : Room).cells ({ frames := 0, cells := 1, slots := 4, locals := 0 } : Room).slots) := by
  refine own_met (y := (⟨"com/example/tidemark/tidemark/policy/RateWindow", "rates", "()[D"⟩ : MethodName)) (Q := (Q_rmR Z a1 rc n z g h0 n0)) (plainFor_of_name pn_2) fun p e s m below meth c s₁ X0 hx hby hml hret hlk hown hnm hZ e0 => ?_
  refine own_entry (ef_6_R m a1) ?_
  obtain ⟨c1, Ar1, hsz1, hat1⟩ := id A1
  have K0 := Keep.refl h0 []
  refine own_to s₁ (mkF m 1 #[.val (.ref a1), .unset, .unset] [(.ref a1)]) (fun tq kq => XS.aloadN X0.here hx rfl (hb hby d6_0) rfl rfl kq) ?_
  obtain ⟨T1, X1, e1, st1⟩ := getF X0 hx hZ hown (host := "") (Or.inl (own_w hw 15 rfl)) Via.refl e0 F1 (g := (mkF m 1 #[.val (.ref a1), .unset, .unset] [(.ref a1)])) rfl rfl (hb hby d6_1)
  refine own_to T1 (mkF m 5 #[.val (.ref a1), .unset, .unset] [(.int (c1.slots.size.toInt32))]) (fun tq kq => st1 _ (X1.arraylength hx (by rw [e1]; exact Ar1.1) (State.isArrayOf_alike hZ.alike Ar1.2.1) (g := (mkF m 4 #[.val (.ref a1), .unset, .unset] [(.ref rc)])) rfl rfl (hb hby d6_4) _ kq)) ?_
  rw [show c1.slots.size.toInt32 = Int32.ofNat z from by rw [hsz1] <;> rfl]
  obtain ⟨T2, h2, k2, X2, e2, E2, A2, st2⟩ := newP X1 hx hZ (own_w hw 0 rfl) e1 (g := (mkF m 5 #[.val (.ref a1), .unset, .unset] [(.int (Int32.ofNat z))])) rfl (hb hby d6_5) rfl (own_nneg (by omega)) (cap := 4) (by rw [clamp_of rfl (by omega)]; omega) (by decide) (by decide) (by decide)
  obtain ⟨b2, g2⟩ : ∃ z, z = h0.size := ⟨_, rfl⟩
  rw [← g2] at A2 st2
  have ne_a1_b2 : a1 ≠ b2 := Nat.ne_of_lt (Nat.lt_of_lt_of_le F1.lt (Nat.le_of_eq g2.symm))
  have ne_rc_b2 : rc ≠ b2 := Nat.ne_of_lt (Nat.lt_of_lt_of_le A1.lt (Nat.le_of_eq g2.symm))
  have f3 := F1.ext E2
  have f4 := F2.ext E2
  have f5 := A1.ext E2
  have sz2 : n0 ≤ b2 := Nat.le_trans Z0 (Nat.le_of_eq g2.symm)
  have hs2 : h0.size ≤ b2 := Nat.le_trans K0.1 (Nat.le_of_eq g2.symm)
  have Zs2 : n0 ≤ h2.size := Nat.le_trans Z0 E2.1
  have K2 := K0.ext E2
  have V2 : DArr Z h2 b2 z (fun _ => 0) := DArr.new A2 (clamp_of rfl (by omega))
  refine own_to T2 (mkF m 10 #[.val (.ref a1), .val (.ref b2), .val (.int (0 : Int32))] []) (fun tq kq => st2 _ (XS.astoreN X2.here hx rfl (hb hby d6_7) rfl rfl (l' := #[.val (.ref a1), .val (.ref b2), .unset]) rfl (XS.iconst X2.here hx rfl (hb hby d6_8) (XS.istoreN X2.here hx rfl (hb hby d6_9) rfl (l' := #[.val (.ref a1), .val (.ref b2), .val (.int (0 : Int32))]) rfl kq)))) ?_
  have loop : ∀ (k i : Nat) (r : Nat → UInt64) (T1 : State) (h1 : Heap) (L1 : List Loc), i + k = z → (∀ j, j < i → r j = g ((n + j) % z)) → Stand p l e ({ frames := 0, cells := 1, slots := 4, locals := 0 } : Room) s m #[(.ref a1)] below meth c T1 L1 1 4 → T1.heap = h1 → Fr n0 L1 → n0 ≤ h1.size → Keep h0 h1 [] → Fld Z h1 a1 "com/example/tidemark/tidemark/policy/RateWindow" "recent" "[D" (.ref rc) → Fld Z h1 a1 "com/example/tidemark/tidemark/policy/RateWindow" "seen" "J" (.long (Int64.ofNat n)) → DArr Z h1 rc z g → DArr Z h1 b2 z r → Own p e below s ({ frames := 0, cells := 1, slots := 4, locals := 0 } : Room).cells ({ frames := 0, cells := 1, slots := 4, locals := 0 } : Room).slots (Q_rmR Z a1 rc n z g h0 n0) T1 (mkF m 10 #[.val (.ref a1), .val (.ref b2), .val (.int (Int32.ofNat i))] []) := by
    intro k
    induction k with
    | zero =>
      intro i r T1 h1 L1 hik hr X1 e1 N1 Z1 K1 F1' F2' A1' Ab'
      obtain ⟨cb, Arb, hszb, hatb⟩ := id Ab'
      refine own_to T1 (mkF m 13 #[.val (.ref a1), .val (.ref b2), .val (.int (Int32.ofNat i))] [(.int (cb.slots.size.toInt32)), (.int (Int32.ofNat i))]) (fun tq kq => XS.iloadN X1.here hx rfl (hb hby d6_10) rfl (XS.aloadN X1.here hx rfl (hb hby d6_11) rfl rfl (X1.arraylength hx (by rw [e1]; exact Arb.1) (State.isArrayOf_alike hZ.alike Arb.2.1) (g := (mkF m 12 #[.val (.ref a1), .val (.ref b2), .val (.int (Int32.ofNat i))] [(.ref b2), (.int (Int32.ofNat i))])) rfl rfl (hb hby d6_12) _ kq))) ?_
      rw [show cb.slots.size.toInt32 = Int32.ofNat z from by rw [hszb] <;> rfl]
      refine own_to T1 (mkF m 46 #[.val (.ref a1), .val (.ref b2), .val (.int (Int32.ofNat i))] [(.ref b2)]) (fun tq kq => XS.icmpYes X1.here hx rfl (pc0 := 13) (pc' := 45) rfl (hb hby d6_13) rfl (flt (mt (own_ltn (by omega) (by omega)).mp (by omega))).2.1 (by decide) (by decide) (XS.aloadN X1.here hx rfl (hb hby d6_45) rfl rfl kq)) ?_
      exact own_retA X1 hx hret hlk rfl rfl (hb hby d6_46) (by decide) (by decide) ⟨b2, r, rfl, N1, by rw [e1]; exact K1, sz2, by rw [e1]; exact Ab', fun j hj => hr j (by omega)⟩
    | succ k ih =>
      intro i r T1 h1 L1 hik hr X1 e1 N1 Z1 K1 F1' F2' A1' Ab'
      obtain ⟨cb, Arb, hszb, hatb⟩ := id Ab'
      obtain ⟨c1, Ar1, hsz1, hat1⟩ := id A1'
      have hmod : (n + i) % z < z := Nat.mod_lt _ hz
      have hin1 : ¬ ((Int32.ofNat ((n + i) % z)) < 0 ∨ c1.slots.size ≤ (Int32.ofNat ((n + i) % z)).toNatClampNeg) := by rw [hsz1]; exact within rfl hmod (by omega)
      have hat1' : c1.slots[(Int32.ofNat ((n + i) % z)).toNatClampNeg]? = some (.double (g ((n + i) % z))) := by rw [clamp_of rfl (by omega)]; exact hat1 _ hmod
      refine own_to T1 (mkF m 13 #[.val (.ref a1), .val (.ref b2), .val (.int (Int32.ofNat i))] [(.int (cb.slots.size.toInt32)), (.int (Int32.ofNat i))]) (fun tq kq => XS.iloadN X1.here hx rfl (hb hby d6_10) rfl (XS.aloadN X1.here hx rfl (hb hby d6_11) rfl rfl (X1.arraylength hx (by rw [e1]; exact Arb.1) (State.isArrayOf_alike hZ.alike Arb.2.1) (g := (mkF m 12 #[.val (.ref a1), .val (.ref b2), .val (.int (Int32.ofNat i))] [(.ref b2), (.int (Int32.ofNat i))])) rfl rfl (hb hby d6_12) _ kq))) ?_
      rw [show cb.slots.size.toInt32 = Int32.ofNat z from by rw [hszb] <;> rfl]
      refine own_to T1 (mkF m 19 #[.val (.ref a1), .val (.ref b2), .val (.int (Int32.ofNat i))] [(.ref a1), (.int (Int32.ofNat i)), (.ref b2)]) (fun tq kq => XS.icmpNo X1.here hx rfl (hb hby d6_13) rfl (tlt ((own_ltn (by omega) (by omega)).mpr (by omega))).2.1 (XS.aloadN X1.here hx rfl (hb hby d6_16) rfl rfl (XS.iloadN X1.here hx rfl (hb hby d6_17) rfl (XS.aloadN X1.here hx rfl (hb hby d6_18) rfl rfl kq)))) ?_
      obtain ⟨T6, X6, e6, st6⟩ := getF X1 hx hZ hown (host := "") (Or.inl (own_w hw 15 rfl)) Via.refl e1 F1' (g := (mkF m 19 #[.val (.ref a1), .val (.ref b2), .val (.int (Int32.ofNat i))] [(.ref a1), (.int (Int32.ofNat i)), (.ref b2)])) rfl rfl (hb hby d6_19)
      refine own_to T6 (mkF m 23 #[.val (.ref a1), .val (.ref b2), .val (.int (Int32.ofNat i))] [(.ref a1), (.ref rc), (.int (Int32.ofNat i)), (.ref b2)]) (fun tq kq => st6 _ (XS.aloadN X6.here hx rfl (hb hby d6_22) rfl rfl kq)) ?_
      obtain ⟨T7, X7, e7, st7⟩ := getF X6 hx hZ hown (host := "") (Or.inl (own_w hw 22 rfl)) Via.refl e6 F2' (g := (mkF m 23 #[.val (.ref a1), .val (.ref b2), .val (.int (Int32.ofNat i))] [(.ref a1), (.ref rc), (.int (Int32.ofNat i)), (.ref b2)])) rfl rfl (hb hby d6_23)
      refine own_to T7 (mkF m 28 #[.val (.ref a1), .val (.ref b2), .val (.int (Int32.ofNat i))] [(.long ((Int32.ofNat i).toInt64)), (.long (Int64.ofNat n)), (.ref rc), (.int (Int32.ofNat i)), (.ref b2)]) (fun tq kq => st7 _ (XS.iloadN X7.here hx rfl (hb hby d6_26) rfl (XS.i2l X7.here hx rfl (hb hby d6_27) rfl kq))) ?_
      rw [show ((Int32.ofNat i).toInt64) = (Int64.ofNat i) from own_i2l (by omega)]
      refine own_to T7 (mkF m 29 #[.val (.ref a1), .val (.ref b2), .val (.int (Int32.ofNat i))] [(.long ((Int64.ofNat n) + (Int64.ofNat i))), (.ref rc), (.int (Int32.ofNat i)), (.ref b2)]) (fun tq kq => XS.ladd X7.here hx rfl (hb hby d6_28) rfl kq) ?_
      rw [show ((Int64.ofNat n) + (Int64.ofNat i)) = (Int64.ofNat (n + i)) from own_ladd (by omega) (by omega)]
      refine own_to T7 (mkF m 30 #[.val (.ref a1), .val (.ref b2), .val (.int (Int32.ofNat i))] [(.ref a1), (.long (Int64.ofNat (n + i))), (.ref rc), (.int (Int32.ofNat i)), (.ref b2)]) (fun tq kq => XS.aloadN X7.here hx rfl (hb hby d6_29) rfl rfl kq) ?_
      obtain ⟨T8, X8, e8, st8⟩ := getF X7 hx hZ hown (host := "") (Or.inl (own_w hw 15 rfl)) Via.refl e7 F1' (g := (mkF m 30 #[.val (.ref a1), .val (.ref b2), .val (.int (Int32.ofNat i))] [(.ref a1), (.long (Int64.ofNat (n + i))), (.ref rc), (.int (Int32.ofNat i)), (.ref b2)])) rfl rfl (hb hby d6_30)
      refine own_to T8 (mkF m 34 #[.val (.ref a1), .val (.ref b2), .val (.int (Int32.ofNat i))] [(.int (c1.slots.size.toInt32)), (.long (Int64.ofNat (n + i))), (.ref rc), (.int (Int32.ofNat i)), (.ref b2)]) (fun tq kq => st8 _ (X8.arraylength hx (by rw [e8]; exact Ar1.1) (State.isArrayOf_alike hZ.alike Ar1.2.1) (g := (mkF m 33 #[.val (.ref a1), .val (.ref b2), .val (.int (Int32.ofNat i))] [(.ref rc), (.long (Int64.ofNat (n + i))), (.ref rc), (.int (Int32.ofNat i)), (.ref b2)])) rfl rfl (hb hby d6_33) _ kq)) ?_
      rw [show c1.slots.size.toInt32 = Int32.ofNat z from by rw [hsz1] <;> rfl]
      refine own_to T8 (mkF m 35 #[.val (.ref a1), .val (.ref b2), .val (.int (Int32.ofNat i))] [(.long ((Int32.ofNat z).toInt64)), (.long (Int64.ofNat (n + i))), (.ref rc), (.int (Int32.ofNat i)), (.ref b2)]) (fun tq kq => XS.i2l X8.here hx rfl (hb hby d6_34) rfl kq) ?_
      rw [show ((Int32.ofNat z).toInt64) = (Int64.ofNat z) from own_i2l (by omega)]
      refine own_to T8 (mkF m 36 #[.val (.ref a1), .val (.ref b2), .val (.int (Int32.ofNat i))] [(.long ((Int64.ofNat (n + i)) - ((Int64.ofNat (n + i)) / (Int64.ofNat z)) * (Int64.ofNat z))), (.ref rc), (.int (Int32.ofNat i)), (.ref b2)]) (fun tq kq => XS.lrem X8.here hx rfl (hb hby d6_35) rfl (own_lnz hz (by omega)) kq) ?_
      rw [show ((Int64.ofNat (n + i)) - ((Int64.ofNat (n + i)) / (Int64.ofNat z)) * (Int64.ofNat z)) = (Int64.ofNat ((n + i) % z)) from own_lrem (by omega) hz (by omega)]
      refine own_to T8 (mkF m 37 #[.val (.ref a1), .val (.ref b2), .val (.int (Int32.ofNat i))] [(.int ((Int64.ofNat ((n + i) % z)).toInt32)), (.ref rc), (.int (Int32.ofNat i)), (.ref b2)]) (fun tq kq => XS.l2i X8.here hx rfl (hb hby d6_36) rfl kq) ?_
      rw [show ((Int64.ofNat ((n + i) % z)).toInt32) = (Int32.ofNat ((n + i) % z)) from own_l2i (by have := Nat.mod_le (n + i) z; omega)]
      refine own_to T8 (mkF m 38 #[.val (.ref a1), .val (.ref b2), .val (.int (Int32.ofNat i))] [(.double (g ((n + i) % z))), (.int (Int32.ofNat i)), (.ref b2)]) (fun tq kq => X8.daload hx (j := (Int32.ofNat ((n + i) % z))) (v := (.double (g ((n + i) % z)))) (by rw [e8]; exact Ar1.1) (State.isArrayOf_alike hZ.alike Ar1.2.1) Ar1.2.2 hin1 hat1' (g := (mkF m 37 #[.val (.ref a1), .val (.ref b2), .val (.int (Int32.ofNat i))] [(.int (Int32.ofNat ((n + i) % z))), (.ref rc), (.int (Int32.ofNat i)), (.ref b2)])) rfl rfl (hb hby d6_37) _ kq) ?_
      obtain ⟨T9, h9, X9, e9, W9, st9⟩ := stD X8 hx hZ e8 Arb (j := (Int32.ofNat i)) (by rw [hszb]; exact within rfl (by omega) (by omega)) (g := (mkF m 38 #[.val (.ref a1), .val (.ref b2), .val (.int (Int32.ofNat i))] [(.double (g ((n + i) % z))), (.int (Int32.ofNat i)), (.ref b2)])) rfl rfl (hb hby d6_38)
      have f10 := F1'.other W9 (Or.inl ne_a1_b2)
      have f11 := F2'.other W9 (Or.inl ne_a1_b2)
      have f12 := A1'.other W9 ne_rc_b2
      have N9 := Fr.snoc X9 N1 sz2
      have Zs9 : n0 ≤ h9.size := by rw [W9.size]; exact Z1
      have K9 := K1.wr W9 (Or.inr hs2)
      have V9 := DArr.set Arb hszb hatb W9 (clamp_of rfl (by omega) : (Int32.ofNat i).toNatClampNeg = i)
      refine own_to T9 (mkF m 10 #[.val (.ref a1), .val (.ref b2), .val (.int ((Int32.ofNat i) + (1 : Int32)))] []) (fun tq kq => st9 _ (XS.iinc X9.here hx rfl (hb hby d6_39) rfl (l' := #[.val (.ref a1), .val (.ref b2), .val (.int ((Int32.ofNat i) + (1 : Int32)))]) rfl (XS.goto X9.here hx rfl (pc0 := 42) (pc' := 10) rfl (hb hby d6_42) (by decide) (by decide) kq))) ?_
      have hi1 : (Int32.ofNat i + (1 : Int32)) = Int32.ofNat (i + 1) := own_addn i 1 (by omega) (by decide)
      rw [hi1]
      exact ih (i + 1) _ _ _ _ (by omega) (own_fill hr) X9 e9 N9 Zs9 K9 f10 f11 f12 V9
  exact loop z 0 _ _ _ _ (by omega) (fun j hj => absurd hj (Nat.not_lt_zero j)) X2 e2 (Fr.nil n0) Zs2 K2 f3 f4 f5 V2
def own_val (x : Int64) (k : Int32) : UInt64 := FP.i2d ((((((x.toUInt64 >>> (((8 : Int32) * k) &&& 0x3f).toInt64.toUInt64).toInt64) &&& (255 : Int64)).toInt32) - (128 : Int32)) + ((256 : Int32) * k))
theorem own_atc {z a b i : Nat} {r g fv : Nat → UInt64} (hr : ∀ j, j < z → r j = g ((0 + a + b + j) % z)) (R : own_R z fv g (a + b)) (hf : z ≤ a + b) (hab : a + b ≤ 6) (hnn : ∀ k, k < 6 → Jvm.Free.Fl.NoNaN64 (fv k)) : z ≤ i ∨ (i < z ∧ a + b - z + i < 6 ∧ r i = fv (a + b - z + i) ∧ Jvm.Free.Fl.NoNaN64 (r i)) := by
  by_cases q : z ≤ i
  · exact Or.inl q
  · have e : r i = fv (a + b - z + i) := by
      rw [hr i (by omega), show 0 + a + b + i = a + b + i by omega]
      exact own_Rget R hf (by omega)
    exact Or.inr ⟨by omega, by omega, e, by rw [e]; exact hnn _ (by omega)⟩
theorem own_nn (x : Int64) (k : Int32) : Jvm.Free.Fl.NoNaN64 (own_val x k) := (Jvm.Free.Fl.i2d_fin _).noNaN
theorem d1_0 : decode method_4_code 0 = .ok (.lload_n 0, 1) := by decide +kernel
theorem d1_1 : decode method_4_code 1 = .ok (.bipush 8, 2) := by decide +kernel
theorem d1_3 : decode method_4_code 3 = .ok (.iload_n 2, 1) := by decide +kernel
theorem d1_4 : decode method_4_code 4 = .ok (.imul, 1) := by decide +kernel
theorem d1_5 : decode method_4_code 5 = .ok (.lushr, 1) := by decide +kernel
theorem d1_6 : decode method_4_code 6 = .ok (.ldc2_w 34, 3) := by decide +kernel
theorem d1_9 : decode method_4_code 9 = .ok (.land, 1) := by decide +kernel
theorem d1_10 : decode method_4_code 10 = .ok (.l2i, 1) := by decide +kernel
theorem d1_11 : decode method_4_code 11 = .ok (.sipush 128, 3) := by decide +kernel
theorem d1_14 : decode method_4_code 14 = .ok (.isub, 1) := by decide +kernel
theorem d1_15 : decode method_4_code 15 = .ok (.sipush 256, 3) := by decide +kernel
theorem d1_18 : decode method_4_code 18 = .ok (.iload_n 2, 1) := by decide +kernel
theorem d1_19 : decode method_4_code 19 = .ok (.imul, 1) := by decide +kernel
theorem d1_20 : decode method_4_code 20 = .ok (.iadd, 1) := by decide +kernel
theorem d1_21 : decode method_4_code 21 = .ok (.i2d, 1) := by decide +kernel
theorem d1_22 : decode method_4_code 22 = .ok (.dreturn, 1) := by decide +kernel
theorem pn_1 : plainName "com/example/tidemark/tidemark/policy/RateWindowAddPinLaw" = true := by first | (simp [plainName, overriddenIn]; done) | decide +kernel
theorem ef_1_JI (m : MethodId) (x0 : Int64) (x1 : Int32) : entryFrame m #[(.long x0), (.int x1)] 3 = mkF m 0 #[.val (.long x0), .second, .val (.int x1)] [] := by first | (simp [entryFrame, mkF, argsToLocals, Value.category]; done) | rfl
def Q_rmV (Z : State) (q0 : Int64) (p1 : Int32) (h0 : Heap) (n0 : Nat) (v : Option Value) (h : Heap) (L : List Loc) : Prop := v = some (.double (own_val q0 p1)) ∧ Fr n0 L ∧ h = h0
set_option maxRecDepth 65536 in
set_option maxHeartbeats 40000000 in
theorem rmV (l : Launch) (Z : State) (a0 : Array Value) (hw : ∀ d ∈ tables_1, d.before a0 Z = true) (ws : List Jvm.Cond) (q0 : Int64) (p1 : Int32) (h0 : Heap) (n0 : Nat) (Z0 : n0 ≤ h0.size)  :
    MetFree l (⟨"com/example/tidemark/tidemark/policy/RateWindowAddPinLaw", "val", "(JI)D"⟩ : MethodName) (head1 (Jvm.Cond.code (⟨"com/example/tidemark/tidemark/policy/RateWindowAddPinLaw", "val", "(JI)D"⟩ : MethodName) method_4_code 3 (some .double) :: ws) ({ frames := 0, cells := 0, slots := 0, locals := 0 } : Room)) (fun a U => a = #[(.long q0), (.int p1)] ∧ Z.Warmed39 U.vm ∧ U.heap = h0) (fun _ _ _ _ _ => True) (fun _ U o U' => ∃ v L, o = .returned v ∧ Q_rmV Z q0 p1 h0 n0 v U'.heap L ∧ FrameEnd U o U' L ({ frames := 0, cells := 0, slots := 0, locals := 0 } : Room).cells ({ frames := 0, cells := 0, slots := 0, locals := 0 } : Room).slots) := by
  refine own_met (y := (⟨"com/example/tidemark/tidemark/policy/RateWindowAddPinLaw", "val", "(JI)D"⟩ : MethodName)) (Q := (Q_rmV Z q0 p1 h0 n0)) (plainFor_of_name pn_1) fun p e s m below meth c s₁ X0 hx hby hml hret hlk hown hnm hZ e0 => ?_
  refine own_entry (ef_1_JI m q0 p1) ?_
  refine own_to s₁ (mkF m 15 #[.val (.long q0), .second, .val (.int p1)] [(.int (((((q0.toUInt64 >>> (((8 : Int32) * p1) &&& 0x3f).toInt64.toUInt64).toInt64) &&& (255 : Int64)).toInt32) - (128 : Int32)))]) (fun tq kq => XS.lloadN X0.here hx rfl (hb hby d1_0) rfl (XS.bipush X0.here hx rfl (hb hby d1_1) (XS.iloadN X0.here hx rfl (hb hby d1_3) rfl (XS.imul X0.here hx rfl (hb hby d1_4) rfl (XS.lushr X0.here hx rfl (hb hby d1_5) rfl (X0.ldc2Long hx hown (mvT hZ (own_w hw 5 rfl)) (g := (mkF m 6 #[.val (.long q0), .second, .val (.int p1)] [(.long ((q0.toUInt64 >>> (((8 : Int32) * p1) &&& 0x3f).toInt64.toUInt64).toInt64))])) rfl (hb hby d1_6) _ (XS.land X0.here hx rfl (hb hby d1_9) rfl (XS.l2i X0.here hx rfl (hb hby d1_10) rfl (XS.sipush X0.here hx rfl (hb hby d1_11) (XS.isub X0.here hx rfl (hb hby d1_14) rfl kq)))))))))) ?_
  refine own_to s₁ (mkF m 22 #[.val (.long q0), .second, .val (.int p1)] [(.double (FP.i2d ((((((q0.toUInt64 >>> (((8 : Int32) * p1) &&& 0x3f).toInt64.toUInt64).toInt64) &&& (255 : Int64)).toInt32) - (128 : Int32)) + ((256 : Int32) * p1))))]) (fun tq kq => XS.sipush X0.here hx rfl (hb hby d1_15) (XS.iloadN X0.here hx rfl (hb hby d1_18) rfl (XS.imul X0.here hx rfl (hb hby d1_19) rfl (XS.iadd X0.here hx rfl (hb hby d1_20) rfl (XS.i2dS X0.here hx rfl (hb hby d1_21) rfl rfl kq))))) ?_
  exact own_retD X0 hx hret hlk (hb hby d1_22) (by decide) (by decide) ⟨rfl, (Fr.nil n0), e0⟩
theorem d7_0 : decode method_3_code 0 = .ok (.iload_n 3, 1) := by decide +kernel
theorem d7_1 : decode method_3_code 1 = .ok (.iload 4, 2) := by decide +kernel
theorem d7_3 : decode method_3_code 3 = .ok (.if_icmp .ge 15, 3) := by decide +kernel
theorem d7_6 : decode method_3_code 6 = .ok (.aload_n 0, 1) := by decide +kernel
theorem d7_7 : decode method_3_code 7 = .ok (.iload_n 3, 1) := by decide +kernel
theorem d7_8 : decode method_3_code 8 = .ok (.daload, 1) := by decide +kernel
theorem d7_9 : decode method_3_code 9 = .ok (.aload_n 1, 1) := by decide +kernel
theorem d7_10 : decode method_3_code 10 = .ok (.iload_n 2, 1) := by decide +kernel
theorem d7_11 : decode method_3_code 11 = .ok (.iload_n 3, 1) := by decide +kernel
theorem d7_12 : decode method_3_code 12 = .ok (.iadd, 1) := by decide +kernel
theorem d7_13 : decode method_3_code 13 = .ok (.daload, 1) := by decide +kernel
theorem d7_14 : decode method_3_code 14 = .ok (.dcmp .l, 1) := by decide +kernel
theorem d7_15 : decode method_3_code 15 = .ok (.ifCond .ne 7, 3) := by decide +kernel
theorem d7_18 : decode method_3_code 18 = .ok (.iconst 1, 1) := by decide +kernel
theorem d7_19 : decode method_3_code 19 = .ok (.goto 4, 3) := by decide +kernel
theorem d7_22 : decode method_3_code 22 = .ok (.iconst 0, 1) := by decide +kernel
theorem d7_23 : decode method_3_code 23 = .ok (.ireturn, 1) := by decide +kernel
theorem ef_7_RRIII (m : MethodId) (x0 : Addr) (x1 : Addr) (x2 : Int32) (x3 : Int32) (x4 : Int32) : entryFrame m #[(.ref x0), (.ref x1), (.int x2), (.int x3), (.int x4)] 5 = mkF m 0 #[.val (.ref x0), .val (.ref x1), .val (.int x2), .val (.int x3), .val (.int x4)] [] := by first | (simp [entryFrame, mkF, argsToLocals, Value.category]; done) | rfl
def Q_rmAt (Z : State) (a1 a2 : Addr) (sa i z : Nat) (r vv : Nat → UInt64) (h0 : Heap) (n0 : Nat) (v : Option Value) (h : Heap) (L : List Loc) : Prop := v = some (.int (1 : Int32)) ∧ Fr n0 L ∧ h = h0
set_option maxRecDepth 65536 in
set_option maxHeartbeats 40000000 in
theorem rmAt (l : Launch) (Z : State) (a0 : Array Value) (hw : ∀ d ∈ tables_1, d.before a0 Z = true) (ws : List Jvm.Cond) (a1 a2 : Addr) (sa i z : Nat) (r vv : Nat → UInt64) (h0 : Heap) (n0 : Nat) (Z0 : n0 ≤ h0.size) (A1 : DArr Z h0 a1 z r) (A2 : DArr Z h0 a2 6 vv) (hsa' : sa < 16) (hi : i < 8) (hz4 : z ≤ 4) (hc : z ≤ i ∨ (i < z ∧ sa + i < 6 ∧ r i = vv (sa + i) ∧ Jvm.Free.Fl.NoNaN64 (r i))) :
    MetFree l (⟨"com/example/tidemark/tidemark/policy/RateWindowAddPinLaw", "at", "([D[DIII)Z"⟩ : MethodName) (head1 (Jvm.Cond.code (⟨"com/example/tidemark/tidemark/policy/RateWindowAddPinLaw", "at", "([D[DIII)Z"⟩ : MethodName) method_3_code 5 (some .boolean) :: ws) ({ frames := 0, cells := 0, slots := 0, locals := 0 } : Room)) (fun a U => a = #[(.ref a1), (.ref a2), (.int (Int32.ofNat sa)), (.int (Int32.ofNat i)), (.int (Int32.ofNat z))] ∧ Z.Warmed39 U.vm ∧ U.heap = h0) (fun _ _ _ _ _ => True) (fun _ U o U' => ∃ v L, o = .returned v ∧ Q_rmAt Z a1 a2 sa i z r vv h0 n0 v U'.heap L ∧ FrameEnd U o U' L ({ frames := 0, cells := 0, slots := 0, locals := 0 } : Room).cells ({ frames := 0, cells := 0, slots := 0, locals := 0 } : Room).slots) := by
  refine own_met (y := (⟨"com/example/tidemark/tidemark/policy/RateWindowAddPinLaw", "at", "([D[DIII)Z"⟩ : MethodName)) (Q := (Q_rmAt Z a1 a2 sa i z r vv h0 n0)) (plainFor_of_name pn_1) fun p e s m below meth c s₁ X0 hx hby hml hret hlk hown hnm hZ e0 => ?_
  refine own_entry (ef_7_RRIII m a1 a2 (Int32.ofNat sa) (Int32.ofNat i) (Int32.ofNat z)) ?_
  rcases hc with hc | ⟨hc, hsa, he, hnn⟩
  · skip
    refine own_to s₁ (mkF m 23 #[.val (.ref a1), .val (.ref a2), .val (.int (Int32.ofNat sa)), .val (.int (Int32.ofNat i)), .val (.int (Int32.ofNat z))] [(.int (1 : Int32))]) (fun tq kq => XS.iloadN X0.here hx rfl (hb hby d7_0) rfl (XS.iload X0.here hx rfl (hb hby d7_1) rfl (XS.icmpYes X0.here hx rfl (pc0 := 3) (pc' := 18) rfl (hb hby d7_3) rfl (flt (mt (own_ltn (by omega) (by omega)).mp (by omega))).2.1 (by decide) (by decide) (XS.iconst X0.here hx rfl (hb hby d7_18) (XS.goto X0.here hx rfl (pc0 := 19) (pc' := 23) rfl (hb hby d7_19) (by decide) (by decide) kq))))) ?_
    exact own_retZ X0 hx hret hlk (hb hby d7_23) (by decide) (by decide) (Or.inr rfl) ⟨rfl, (Fr.nil n0), e0⟩
  · skip
    obtain ⟨c1, Ar1, hsz1, hat1⟩ := A1
    obtain ⟨c2, Ar2, hsz2, hat2⟩ := A2
    have hin1 : ¬ ((Int32.ofNat i) < 0 ∨ c1.slots.size ≤ (Int32.ofNat i).toNatClampNeg) := by rw [hsz1]; exact within rfl hc (by omega)
    have hat1' : c1.slots[(Int32.ofNat i).toNatClampNeg]? = some (.double (r i)) := by rw [clamp_of rfl (by omega)]; exact hat1 _ hc
    have hin2 : ¬ ((Int32.ofNat (sa + i)) < 0 ∨ c2.slots.size ≤ (Int32.ofNat (sa + i)).toNatClampNeg) := by rw [hsz2]; exact within rfl hsa (by omega)
    have hat2' : c2.slots[(Int32.ofNat (sa + i)).toNatClampNeg]? = some (.double (vv (sa + i))) := by rw [clamp_of rfl (by omega)]; exact hat2 _ hsa
    refine own_to s₁ (mkF m 13 #[.val (.ref a1), .val (.ref a2), .val (.int (Int32.ofNat sa)), .val (.int (Int32.ofNat i)), .val (.int (Int32.ofNat z))] [(.int ((Int32.ofNat sa) + (Int32.ofNat i))), (.ref a2), (.double (r i))]) (fun tq kq => XS.iloadN X0.here hx rfl (hb hby d7_0) rfl (XS.iload X0.here hx rfl (hb hby d7_1) rfl (XS.icmpNo X0.here hx rfl (hb hby d7_3) rfl (tlt ((own_ltn (by omega) (by omega)).mpr (by omega))).2.1 (XS.aloadN X0.here hx rfl (hb hby d7_6) rfl rfl (XS.iloadN X0.here hx rfl (hb hby d7_7) rfl (X0.daload hx (j := (Int32.ofNat i)) (v := (.double (r i))) (by rw [e0]; exact Ar1.1) (State.isArrayOf_alike hZ.alike Ar1.2.1) Ar1.2.2 hin1 hat1' (g := (mkF m 8 #[.val (.ref a1), .val (.ref a2), .val (.int (Int32.ofNat sa)), .val (.int (Int32.ofNat i)), .val (.int (Int32.ofNat z))] [(.int (Int32.ofNat i)), (.ref a1)])) rfl rfl (hb hby d7_8) _ (XS.aloadN X0.here hx rfl (hb hby d7_9) rfl rfl (XS.iloadN X0.here hx rfl (hb hby d7_10) rfl (XS.iloadN X0.here hx rfl (hb hby d7_11) rfl (XS.iadd X0.here hx rfl (hb hby d7_12) rfl kq)))))))))) ?_
    rw [show ((Int32.ofNat sa) + (Int32.ofNat i)) = (Int32.ofNat (sa + i)) from own_addn sa i (by omega) (by omega)]
    refine own_to s₁ (mkF m 15 #[.val (.ref a1), .val (.ref a2), .val (.int (Int32.ofNat sa)), .val (.int (Int32.ofNat i)), .val (.int (Int32.ofNat z))] [(.int (cmpValue (FP.dcmp (r i) (vv (sa + i))) .l))]) (fun tq kq => X0.daload hx (j := (Int32.ofNat (sa + i))) (v := (.double (vv (sa + i)))) (by rw [e0]; exact Ar2.1) (State.isArrayOf_alike hZ.alike Ar2.2.1) Ar2.2.2 hin2 hat2' (g := (mkF m 13 #[.val (.ref a1), .val (.ref a2), .val (.int (Int32.ofNat sa)), .val (.int (Int32.ofNat i)), .val (.int (Int32.ofNat z))] [(.int (Int32.ofNat (sa + i))), (.ref a2), (.double (r i))])) rfl rfl (hb hby d7_13) _ (XS.dcmpS X0.here hx rfl (hb hby d7_14) rfl rfl kq)) ?_
    rw [dcmpV_eq he hnn]
    refine own_to s₁ (mkF m 23 #[.val (.ref a1), .val (.ref a2), .val (.int (Int32.ofNat sa)), .val (.int (Int32.ofNat i)), .val (.int (Int32.ofNat z))] [(.int (1 : Int32))]) (fun tq kq => XS.ifNo X0.here hx rfl (hb hby d7_15) rfl ((if0 _ _).trans (teq (by decide : (0 : Int32) = (0 : Int32))).2) (XS.iconst X0.here hx rfl (hb hby d7_18) (XS.goto X0.here hx rfl (pc0 := 19) (pc' := 23) rfl (hb hby d7_19) (by decide) (by decide) kq))) ?_
    exact own_retZ X0 hx hret hlk (hb hby d7_23) (by decide) (by decide) (Or.inr rfl) ⟨rfl, (Fr.nil n0), e0⟩
theorem ef_0_IJ (m : MethodId) (x0 : Int32) (x1 : Int64) : entryFrame m #[(.int x0), (.long x1)] maxLocals = mkF m 0 #[.val (.int x0), .val (.long x1), .second, .unset, .unset, .unset, .unset, .unset, .unset, .unset, .unset, .unset, .unset, .unset, .unset, .unset] [] := by first | (simp [entryFrame, mkF, argsToLocals, Value.category, maxLocals]; done) | rfl
def Q_rm0 (Z : State) (i0 : Int32) (q1 : Int64) (h0 : Heap) (n0 : Nat) (v : Option Value) (h : Heap) (L : List Loc) : Prop := v = some (.int 1) ∧ Fr n0 L
theorem pd_0 : parseMethodDescriptor "(JI)D" = some ⟨[.long, .int], some .double⟩ := by decide +kernel
theorem pd_1 : parseMethodDescriptor "(I)V" = some ⟨[.int], none⟩ := by decide +kernel
theorem pd_3 : parseMethodDescriptor "()Z" = some ⟨[], some .boolean⟩ := by decide +kernel
theorem pd_4 : parseMethodDescriptor "([D)V" = some ⟨[(.array .double)], none⟩ := by decide +kernel
theorem pd_5 : parseMethodDescriptor "()[D" = some ⟨[], some (.array .double)⟩ := by decide +kernel
theorem pd_6 : parseMethodDescriptor "([D[DIII)Z" = some ⟨[(.array .double), (.array .double), .int, .int, .int], some .boolean⟩ := by decide +kernel
set_option maxRecDepth 65536 in
set_option maxHeartbeats 40000000 in
theorem rm0 (l : Launch) (Z : State) (a0 : Array Value) (hw : ∀ d ∈ tables_1, d.before a0 Z = true) (ws : List Jvm.Cond) (i0 : Int32) (q1 : Int64) (h0 : Heap) (n0 : Nat) (Z0 : n0 ≤ h0.size)  :
    MetFree l x (head1 (Jvm.Cond.code x code maxLocals ret :: ws) room_1) (fun a U => a = #[(.int i0), (.long q1)] ∧ Z.Warmed39 U.vm ∧ U.heap = h0) (fun _ _ _ _ _ => True) (fun _ U o U' => ∃ v L, o = .returned v ∧ Q_rm0 Z i0 q1 h0 n0 v U'.heap L ∧ FrameEnd U o U' L room_1.cells room_1.slots) := by
  refine own_met (y := x) (Q := (Q_rm0 Z i0 q1 h0 n0)) (plainFor_of_name pn_1) fun p e s m below meth c s₁ X0 hx hby hml hret hlk hown hnm hZ e0 => ?_
  refine own_entry (ef_0_IJ m i0 q1) ?_
  refine own_to s₁ (mkF m 7 #[.val (.int i0), .val (.long q1), .second, .unset, .unset, .unset, .unset, .unset, .unset, .unset, .unset, .unset, .unset, .unset, .unset, .unset] [(.int ((1 : Int32) + (((i0.toUInt32 >>> ((4 : Int32) &&& 31).toUInt32).toInt32) &&& (3 : Int32))))]) (fun tq kq => XS.iconst X0.here hx rfl (hb hby at_0) (XS.iloadN X0.here hx rfl (hb hby at_1) rfl (XS.iconst X0.here hx rfl (hb hby at_2) (XS.iushr X0.here hx rfl (hb hby at_3) rfl (XS.iconst X0.here hx rfl (hb hby at_4) (XS.iand X0.here hx rfl (hb hby at_5) rfl (XS.iadd X0.here hx rfl (hb hby at_6) rfl kq))))))) ?_
  obtain ⟨z', hz', hs3⟩ := own_small ((i0.toUInt32 >>> ((4 : Int32) &&& 31).toUInt32).toInt32) (3 : Int32) 3 rfl (by decide)
  rw [hs3]
  obtain ⟨z, hzz⟩ : ∃ z, z = 1 + z' := ⟨_, rfl⟩
  rw [show ((1 : Int32) + (Int32.ofNat z')) = (Int32.ofNat (z)) from by rw [hzz]; exact own_addn 1 z' (by decide) (by omega)]
  have hz : 0 < z := by omega
  have hz4 : z ≤ 4 := by omega
  refine own_to s₁ (mkF m 11 #[.val (.int i0), .val (.long q1), .second, .val (.int (Int32.ofNat (z))), .unset, .unset, .unset, .unset, .unset, .unset, .unset, .unset, .unset, .unset, .unset, .unset] [(.int (i0 &&& (3 : Int32)))]) (fun tq kq => XS.istoreN X0.here hx rfl (hb hby at_7) rfl (l' := #[.val (.int i0), .val (.long q1), .second, .val (.int (Int32.ofNat (z))), .unset, .unset, .unset, .unset, .unset, .unset, .unset, .unset, .unset, .unset, .unset, .unset]) rfl (XS.iloadN X0.here hx rfl (hb hby at_8) rfl (XS.iconst X0.here hx rfl (hb hby at_9) (XS.iand X0.here hx rfl (hb hby at_10) rfl kq)))) ?_
  obtain ⟨a, lea, hsa⟩ := own_small i0 (3 : Int32) 3 rfl (by decide)
  rw [hsa]
  refine own_to s₁ (mkF m 18 #[.val (.int i0), .val (.long q1), .second, .val (.int (Int32.ofNat (z))), .val (.int (Int32.ofNat (a))), .unset, .unset, .unset, .unset, .unset, .unset, .unset, .unset, .unset, .unset, .unset] [(.int (((i0.toUInt32 >>> ((2 : Int32) &&& 31).toUInt32).toInt32) &&& (3 : Int32)))]) (fun tq kq => XS.istore X0.here hx rfl (hb hby at_11) rfl (l' := #[.val (.int i0), .val (.long q1), .second, .val (.int (Int32.ofNat (z))), .val (.int (Int32.ofNat (a))), .unset, .unset, .unset, .unset, .unset, .unset, .unset, .unset, .unset, .unset, .unset]) rfl (XS.iloadN X0.here hx rfl (hb hby at_13) rfl (XS.iconst X0.here hx rfl (hb hby at_14) (XS.iushr X0.here hx rfl (hb hby at_15) rfl (XS.iconst X0.here hx rfl (hb hby at_16) (XS.iand X0.here hx rfl (hb hby at_17) rfl kq)))))) ?_
  obtain ⟨b, leb, hsb⟩ := own_small ((i0.toUInt32 >>> ((2 : Int32) &&& 31).toUInt32).toInt32) (3 : Int32) 3 rfl (by decide)
  rw [hsb]
  refine own_to s₁ (mkF m 25 #[.val (.int i0), .val (.long q1), .second, .val (.int (Int32.ofNat (z))), .val (.int (Int32.ofNat (a))), .val (.int (Int32.ofNat (b))), .unset, .unset, .unset, .unset, .unset, .unset, .unset, .unset, .unset, .unset] [(.int ((Int32.ofNat (a)) + (Int32.ofNat (b))))]) (fun tq kq => XS.istore X0.here hx rfl (hb hby at_18) rfl (l' := #[.val (.int i0), .val (.long q1), .second, .val (.int (Int32.ofNat (z))), .val (.int (Int32.ofNat (a))), .val (.int (Int32.ofNat (b))), .unset, .unset, .unset, .unset, .unset, .unset, .unset, .unset, .unset, .unset]) rfl (XS.iload X0.here hx rfl (hb hby at_20) rfl (XS.iload X0.here hx rfl (hb hby at_22) rfl (XS.iadd X0.here hx rfl (hb hby at_24) rfl kq)))) ?_
  rw [show ((Int32.ofNat (a)) + (Int32.ofNat (b))) = (Int32.ofNat (a + b)) from own_addn a b (by omega) (by omega)]
  refine own_to s₁ (mkF m 29 #[.val (.int i0), .val (.long q1), .second, .val (.int (Int32.ofNat (z))), .val (.int (Int32.ofNat (a))), .val (.int (Int32.ofNat (b))), .val (.int (Int32.ofNat (a + b))), .unset, .unset, .unset, .unset, .unset, .unset, .unset, .unset, .unset] [(.int (6 : Int32))]) (fun tq kq => XS.istore X0.here hx rfl (hb hby at_25) rfl (l' := #[.val (.int i0), .val (.long q1), .second, .val (.int (Int32.ofNat (z))), .val (.int (Int32.ofNat (a))), .val (.int (Int32.ofNat (b))), .val (.int (Int32.ofNat (a + b))), .unset, .unset, .unset, .unset, .unset, .unset, .unset, .unset, .unset]) rfl (XS.bipush X0.here hx rfl (hb hby at_27) kq)) ?_
  obtain ⟨T1, h1, k1, X1, e1, E1, A1, st1⟩ := newP X0 hx hZ (own_w hw 0 rfl) e0 (g := (mkF m 29 #[.val (.int i0), .val (.long q1), .second, .val (.int (Int32.ofNat (z))), .val (.int (Int32.ofNat (a))), .val (.int (Int32.ofNat (b))), .val (.int (Int32.ofNat (a + b))), .unset, .unset, .unset, .unset, .unset, .unset, .unset, .unset, .unset] [(.int (6 : Int32))])) rfl (hb hby at_29) rfl (by decide) (cap := 6) (by decide) (by decide) (by decide) (by decide)
  obtain ⟨b1, g1⟩ : ∃ z, z = h0.size := ⟨_, rfl⟩
  rw [← g1] at A1 st1
  have sz1 : n0 ≤ b1 := Nat.le_trans Z0 (Nat.le_of_eq g1.symm)
  have Zs1 : n0 ≤ h1.size := Nat.le_trans Z0 E1.1
  have V1 : DArr Z h1 b1 6 (fun _ => 0) := DArr.new A1 (by decide)
  refine own_to T1 (mkF m 38 #[.val (.int i0), .val (.long q1), .second, .val (.int (Int32.ofNat (z))), .val (.int (Int32.ofNat (a))), .val (.int (Int32.ofNat (b))), .val (.int (Int32.ofNat (a + b))), .val (.ref b1), .unset, .unset, .unset, .unset, .unset, .unset, .unset, .unset] [(.int (0 : Int32)), (.long q1), (.int (0 : Int32)), (.ref b1)]) (fun tq kq => st1 _ (XS.astore X1.here hx rfl (hb hby at_31) rfl rfl (l' := #[.val (.int i0), .val (.long q1), .second, .val (.int (Int32.ofNat (z))), .val (.int (Int32.ofNat (a))), .val (.int (Int32.ofNat (b))), .val (.int (Int32.ofNat (a + b))), .val (.ref b1), .unset, .unset, .unset, .unset, .unset, .unset, .unset, .unset]) rfl (XS.aload X1.here hx rfl (hb hby at_33) rfl rfl (XS.iconst X1.here hx rfl (hb hby at_35) (XS.lloadN X1.here hx rfl (hb hby at_36) rfl (XS.iconst X1.here hx rfl (hb hby at_37) kq)))))) ?_
  obtain ⟨_, _, ⟨T2, L2, k2, n2⟩, -, X2, ⟨Lc2, hQ2, l2, y2, z2⟩, st2⟩ := Jvm.LawKit.callS X1 hx (y := (⟨"com/example/tidemark/tidemark/policy/RateWindowAddPinLaw", "val", "(JI)D"⟩ : MethodName)) hown (mvT hZ (own_w hw 1 rfl)) (mvT hZ (own_w hw 2 rfl)) (mvT hZ (own_w hw 3 rfl)) (mvT hZ (own_w hw 4 rfl)) (by decide) (backOf (W := 2) (rmV l Z a0 hw [] q1 (0 : Int32) h1 n0 Zs1) hZ (own_w hw 4 rfl) (own_w hw 3 rfl) (by decide) (by decide)) (g := (mkF m 38 #[.val (.int i0), .val (.long q1), .second, .val (.int (Int32.ofNat (z))), .val (.int (Int32.ofNat (a))), .val (.int (Int32.ofNat (b))), .val (.int (Int32.ofNat (a + b))), .val (.ref b1), .unset, .unset, .unset, .unset, .unset, .unset, .unset, .unset] [(.int (0 : Int32)), (.long q1), (.int (0 : Int32)), (.ref b1)])) rfl (by rw [hml]; rfl) (argsL := [(.long q1), (.int (0 : Int32))]) (rest := [(.int (0 : Int32)), (.ref b1)]) (lenOf pd_0 rfl) rfl (by show 2 * 0 + _ ≤ _; exact Nat.le_of_eq rfl) (hb hby at_38) (fun _ _ => ⟨rfl, e1, (by decide : 1 + 0 ≤ _), (by decide : 6 + 0 ≤ _)⟩)
  dsimp only [Pt.U, Pt.locs, Pt.cells, Pt.slots] at X2 l2 y2 z2 st2 hQ2
  subst l2 y2 z2
  obtain ⟨rfl, N2q, e2⟩ := hQ2
  have N2 := Fr.app (Fr.nil n0) N2q
  refine own_to T2 (mkF m 41 #[.val (.int i0), .val (.long q1), .second, .val (.int (Int32.ofNat (z))), .val (.int (Int32.ofNat (a))), .val (.int (Int32.ofNat (b))), .val (.int (Int32.ofNat (a + b))), .val (.ref b1), .unset, .unset, .unset, .unset, .unset, .unset, .unset, .unset] [(.double (own_val q1 (0 : Int32))), (.int (0 : Int32)), (.ref b1)]) (fun tq kq => st2 _ kq) ?_
  obtain ⟨co4, Aro4, hszo4, hato4⟩ := id V1
  obtain ⟨T3, h3, X3, e3, W3, st3⟩ := stD X2 hx hZ e2 Aro4 (j := (0 : Int32)) (by rw [hszo4]; decide) (g := (mkF m 41 #[.val (.int i0), .val (.long q1), .second, .val (.int (Int32.ofNat (z))), .val (.int (Int32.ofNat (a))), .val (.int (Int32.ofNat (b))), .val (.int (Int32.ofNat (a + b))), .val (.ref b1), .unset, .unset, .unset, .unset, .unset, .unset, .unset, .unset] [(.double (own_val q1 (0 : Int32))), (.int (0 : Int32)), (.ref b1)])) rfl rfl (hb hby at_41)
  have N3 := Fr.snoc X3 N2 sz1
  have Zs3 : n0 ≤ h3.size := by rw [W3.size]; exact Zs1
  have V3 := DArr.set Aro4 hszo4 hato4 W3 (by decide : ((0 : Int32)).toNatClampNeg = 0)
  obtain ⟨f3, hf3⟩ : ∃ f', f' = own_upd (fun _ => 0) 0 (own_val q1 (0 : Int32)) := ⟨_, rfl⟩
  rw [← hf3] at V3
  refine own_to T3 (mkF m 47 #[.val (.int i0), .val (.long q1), .second, .val (.int (Int32.ofNat (z))), .val (.int (Int32.ofNat (a))), .val (.int (Int32.ofNat (b))), .val (.int (Int32.ofNat (a + b))), .val (.ref b1), .unset, .unset, .unset, .unset, .unset, .unset, .unset, .unset] [(.int (1 : Int32)), (.long q1), (.int (1 : Int32)), (.ref b1)]) (fun tq kq => st3 _ (XS.aload X3.here hx rfl (hb hby at_42) rfl rfl (XS.iconst X3.here hx rfl (hb hby at_44) (XS.lloadN X3.here hx rfl (hb hby at_45) rfl (XS.iconst X3.here hx rfl (hb hby at_46) kq))))) ?_
  obtain ⟨_, _, ⟨T5, L5, k5, n5⟩, -, X5, ⟨Lc5, hQ5, l5, y5, z5⟩, st5⟩ := Jvm.LawKit.callS X3 hx (y := (⟨"com/example/tidemark/tidemark/policy/RateWindowAddPinLaw", "val", "(JI)D"⟩ : MethodName)) hown (mvT hZ (own_w hw 1 rfl)) (mvT hZ (own_w hw 2 rfl)) (mvT hZ (own_w hw 3 rfl)) (mvT hZ (own_w hw 4 rfl)) (by decide) (backOf (W := 2) (rmV l Z a0 hw [] q1 (1 : Int32) h3 n0 Zs3) hZ (own_w hw 4 rfl) (own_w hw 3 rfl) (by decide) (by decide)) (g := (mkF m 47 #[.val (.int i0), .val (.long q1), .second, .val (.int (Int32.ofNat (z))), .val (.int (Int32.ofNat (a))), .val (.int (Int32.ofNat (b))), .val (.int (Int32.ofNat (a + b))), .val (.ref b1), .unset, .unset, .unset, .unset, .unset, .unset, .unset, .unset] [(.int (1 : Int32)), (.long q1), (.int (1 : Int32)), (.ref b1)])) rfl (by rw [hml]; rfl) (argsL := [(.long q1), (.int (1 : Int32))]) (rest := [(.int (1 : Int32)), (.ref b1)]) (lenOf pd_0 rfl) rfl (by show 2 * 0 + _ ≤ _; exact Nat.le_of_eq rfl) (hb hby at_47) (fun _ _ => ⟨rfl, e3, (by decide : 1 + 0 ≤ _), (by decide : 6 + 0 ≤ _)⟩)
  dsimp only [Pt.U, Pt.locs, Pt.cells, Pt.slots] at X5 l5 y5 z5 st5 hQ5
  subst l5 y5 z5
  obtain ⟨rfl, N5q, e5⟩ := hQ5
  have N5 := Fr.app N3 N5q
  refine own_to T5 (mkF m 50 #[.val (.int i0), .val (.long q1), .second, .val (.int (Int32.ofNat (z))), .val (.int (Int32.ofNat (a))), .val (.int (Int32.ofNat (b))), .val (.int (Int32.ofNat (a + b))), .val (.ref b1), .unset, .unset, .unset, .unset, .unset, .unset, .unset, .unset] [(.double (own_val q1 (1 : Int32))), (.int (1 : Int32)), (.ref b1)]) (fun tq kq => st5 _ kq) ?_
  obtain ⟨co7, Aro7, hszo7, hato7⟩ := id V3
  obtain ⟨T6, h6, X6, e6, W6, st6⟩ := stD X5 hx hZ e5 Aro7 (j := (1 : Int32)) (by rw [hszo7]; decide) (g := (mkF m 50 #[.val (.int i0), .val (.long q1), .second, .val (.int (Int32.ofNat (z))), .val (.int (Int32.ofNat (a))), .val (.int (Int32.ofNat (b))), .val (.int (Int32.ofNat (a + b))), .val (.ref b1), .unset, .unset, .unset, .unset, .unset, .unset, .unset, .unset] [(.double (own_val q1 (1 : Int32))), (.int (1 : Int32)), (.ref b1)])) rfl rfl (hb hby at_50)
  have N6 := Fr.snoc X6 N5 sz1
  have Zs6 : n0 ≤ h6.size := by rw [W6.size]; exact Zs3
  have V6 := DArr.set Aro7 hszo7 hato7 W6 (by decide : ((1 : Int32)).toNatClampNeg = 1)
  obtain ⟨f6, hf6⟩ : ∃ f', f' = own_upd f3 1 (own_val q1 (1 : Int32)) := ⟨_, rfl⟩
  rw [← hf6] at V6
  refine own_to T6 (mkF m 56 #[.val (.int i0), .val (.long q1), .second, .val (.int (Int32.ofNat (z))), .val (.int (Int32.ofNat (a))), .val (.int (Int32.ofNat (b))), .val (.int (Int32.ofNat (a + b))), .val (.ref b1), .unset, .unset, .unset, .unset, .unset, .unset, .unset, .unset] [(.int (2 : Int32)), (.long q1), (.int (2 : Int32)), (.ref b1)]) (fun tq kq => st6 _ (XS.aload X6.here hx rfl (hb hby at_51) rfl rfl (XS.iconst X6.here hx rfl (hb hby at_53) (XS.lloadN X6.here hx rfl (hb hby at_54) rfl (XS.iconst X6.here hx rfl (hb hby at_55) kq))))) ?_
  obtain ⟨_, _, ⟨T8, L8, k8, n8⟩, -, X8, ⟨Lc8, hQ8, l8, y8, z8⟩, st8⟩ := Jvm.LawKit.callS X6 hx (y := (⟨"com/example/tidemark/tidemark/policy/RateWindowAddPinLaw", "val", "(JI)D"⟩ : MethodName)) hown (mvT hZ (own_w hw 1 rfl)) (mvT hZ (own_w hw 2 rfl)) (mvT hZ (own_w hw 3 rfl)) (mvT hZ (own_w hw 4 rfl)) (by decide) (backOf (W := 2) (rmV l Z a0 hw [] q1 (2 : Int32) h6 n0 Zs6) hZ (own_w hw 4 rfl) (own_w hw 3 rfl) (by decide) (by decide)) (g := (mkF m 56 #[.val (.int i0), .val (.long q1), .second, .val (.int (Int32.ofNat (z))), .val (.int (Int32.ofNat (a))), .val (.int (Int32.ofNat (b))), .val (.int (Int32.ofNat (a + b))), .val (.ref b1), .unset, .unset, .unset, .unset, .unset, .unset, .unset, .unset] [(.int (2 : Int32)), (.long q1), (.int (2 : Int32)), (.ref b1)])) rfl (by rw [hml]; rfl) (argsL := [(.long q1), (.int (2 : Int32))]) (rest := [(.int (2 : Int32)), (.ref b1)]) (lenOf pd_0 rfl) rfl (by show 2 * 0 + _ ≤ _; exact Nat.le_of_eq rfl) (hb hby at_56) (fun _ _ => ⟨rfl, e6, (by decide : 1 + 0 ≤ _), (by decide : 6 + 0 ≤ _)⟩)
  dsimp only [Pt.U, Pt.locs, Pt.cells, Pt.slots] at X8 l8 y8 z8 st8 hQ8
  subst l8 y8 z8
  obtain ⟨rfl, N8q, e8⟩ := hQ8
  have N8 := Fr.app N6 N8q
  refine own_to T8 (mkF m 59 #[.val (.int i0), .val (.long q1), .second, .val (.int (Int32.ofNat (z))), .val (.int (Int32.ofNat (a))), .val (.int (Int32.ofNat (b))), .val (.int (Int32.ofNat (a + b))), .val (.ref b1), .unset, .unset, .unset, .unset, .unset, .unset, .unset, .unset] [(.double (own_val q1 (2 : Int32))), (.int (2 : Int32)), (.ref b1)]) (fun tq kq => st8 _ kq) ?_
  obtain ⟨co10, Aro10, hszo10, hato10⟩ := id V6
  obtain ⟨T9, h9, X9, e9, W9, st9⟩ := stD X8 hx hZ e8 Aro10 (j := (2 : Int32)) (by rw [hszo10]; decide) (g := (mkF m 59 #[.val (.int i0), .val (.long q1), .second, .val (.int (Int32.ofNat (z))), .val (.int (Int32.ofNat (a))), .val (.int (Int32.ofNat (b))), .val (.int (Int32.ofNat (a + b))), .val (.ref b1), .unset, .unset, .unset, .unset, .unset, .unset, .unset, .unset] [(.double (own_val q1 (2 : Int32))), (.int (2 : Int32)), (.ref b1)])) rfl rfl (hb hby at_59)
  have N9 := Fr.snoc X9 N8 sz1
  have Zs9 : n0 ≤ h9.size := by rw [W9.size]; exact Zs6
  have V9 := DArr.set Aro10 hszo10 hato10 W9 (by decide : ((2 : Int32)).toNatClampNeg = 2)
  obtain ⟨f9, hf9⟩ : ∃ f', f' = own_upd f6 2 (own_val q1 (2 : Int32)) := ⟨_, rfl⟩
  rw [← hf9] at V9
  refine own_to T9 (mkF m 65 #[.val (.int i0), .val (.long q1), .second, .val (.int (Int32.ofNat (z))), .val (.int (Int32.ofNat (a))), .val (.int (Int32.ofNat (b))), .val (.int (Int32.ofNat (a + b))), .val (.ref b1), .unset, .unset, .unset, .unset, .unset, .unset, .unset, .unset] [(.int (3 : Int32)), (.long q1), (.int (3 : Int32)), (.ref b1)]) (fun tq kq => st9 _ (XS.aload X9.here hx rfl (hb hby at_60) rfl rfl (XS.iconst X9.here hx rfl (hb hby at_62) (XS.lloadN X9.here hx rfl (hb hby at_63) rfl (XS.iconst X9.here hx rfl (hb hby at_64) kq))))) ?_
  obtain ⟨_, _, ⟨T11, L11, k11, n11⟩, -, X11, ⟨Lc11, hQ11, l11, y11, z11⟩, st11⟩ := Jvm.LawKit.callS X9 hx (y := (⟨"com/example/tidemark/tidemark/policy/RateWindowAddPinLaw", "val", "(JI)D"⟩ : MethodName)) hown (mvT hZ (own_w hw 1 rfl)) (mvT hZ (own_w hw 2 rfl)) (mvT hZ (own_w hw 3 rfl)) (mvT hZ (own_w hw 4 rfl)) (by decide) (backOf (W := 2) (rmV l Z a0 hw [] q1 (3 : Int32) h9 n0 Zs9) hZ (own_w hw 4 rfl) (own_w hw 3 rfl) (by decide) (by decide)) (g := (mkF m 65 #[.val (.int i0), .val (.long q1), .second, .val (.int (Int32.ofNat (z))), .val (.int (Int32.ofNat (a))), .val (.int (Int32.ofNat (b))), .val (.int (Int32.ofNat (a + b))), .val (.ref b1), .unset, .unset, .unset, .unset, .unset, .unset, .unset, .unset] [(.int (3 : Int32)), (.long q1), (.int (3 : Int32)), (.ref b1)])) rfl (by rw [hml]; rfl) (argsL := [(.long q1), (.int (3 : Int32))]) (rest := [(.int (3 : Int32)), (.ref b1)]) (lenOf pd_0 rfl) rfl (by show 2 * 0 + _ ≤ _; exact Nat.le_of_eq rfl) (hb hby at_65) (fun _ _ => ⟨rfl, e9, (by decide : 1 + 0 ≤ _), (by decide : 6 + 0 ≤ _)⟩)
  dsimp only [Pt.U, Pt.locs, Pt.cells, Pt.slots] at X11 l11 y11 z11 st11 hQ11
  subst l11 y11 z11
  obtain ⟨rfl, N11q, e11⟩ := hQ11
  have N11 := Fr.app N9 N11q
  refine own_to T11 (mkF m 68 #[.val (.int i0), .val (.long q1), .second, .val (.int (Int32.ofNat (z))), .val (.int (Int32.ofNat (a))), .val (.int (Int32.ofNat (b))), .val (.int (Int32.ofNat (a + b))), .val (.ref b1), .unset, .unset, .unset, .unset, .unset, .unset, .unset, .unset] [(.double (own_val q1 (3 : Int32))), (.int (3 : Int32)), (.ref b1)]) (fun tq kq => st11 _ kq) ?_
  obtain ⟨co13, Aro13, hszo13, hato13⟩ := id V9
  obtain ⟨T12, h12, X12, e12, W12, st12⟩ := stD X11 hx hZ e11 Aro13 (j := (3 : Int32)) (by rw [hszo13]; decide) (g := (mkF m 68 #[.val (.int i0), .val (.long q1), .second, .val (.int (Int32.ofNat (z))), .val (.int (Int32.ofNat (a))), .val (.int (Int32.ofNat (b))), .val (.int (Int32.ofNat (a + b))), .val (.ref b1), .unset, .unset, .unset, .unset, .unset, .unset, .unset, .unset] [(.double (own_val q1 (3 : Int32))), (.int (3 : Int32)), (.ref b1)])) rfl rfl (hb hby at_68)
  have N12 := Fr.snoc X12 N11 sz1
  have Zs12 : n0 ≤ h12.size := by rw [W12.size]; exact Zs9
  have V12 := DArr.set Aro13 hszo13 hato13 W12 (by decide : ((3 : Int32)).toNatClampNeg = 3)
  obtain ⟨f12, hf12⟩ : ∃ f', f' = own_upd f9 3 (own_val q1 (3 : Int32)) := ⟨_, rfl⟩
  rw [← hf12] at V12
  refine own_to T12 (mkF m 74 #[.val (.int i0), .val (.long q1), .second, .val (.int (Int32.ofNat (z))), .val (.int (Int32.ofNat (a))), .val (.int (Int32.ofNat (b))), .val (.int (Int32.ofNat (a + b))), .val (.ref b1), .unset, .unset, .unset, .unset, .unset, .unset, .unset, .unset] [(.int (4 : Int32)), (.long q1), (.int (4 : Int32)), (.ref b1)]) (fun tq kq => st12 _ (XS.aload X12.here hx rfl (hb hby at_69) rfl rfl (XS.iconst X12.here hx rfl (hb hby at_71) (XS.lloadN X12.here hx rfl (hb hby at_72) rfl (XS.iconst X12.here hx rfl (hb hby at_73) kq))))) ?_
  obtain ⟨_, _, ⟨T14, L14, k14, n14⟩, -, X14, ⟨Lc14, hQ14, l14, y14, z14⟩, st14⟩ := Jvm.LawKit.callS X12 hx (y := (⟨"com/example/tidemark/tidemark/policy/RateWindowAddPinLaw", "val", "(JI)D"⟩ : MethodName)) hown (mvT hZ (own_w hw 1 rfl)) (mvT hZ (own_w hw 2 rfl)) (mvT hZ (own_w hw 3 rfl)) (mvT hZ (own_w hw 4 rfl)) (by decide) (backOf (W := 2) (rmV l Z a0 hw [] q1 (4 : Int32) h12 n0 Zs12) hZ (own_w hw 4 rfl) (own_w hw 3 rfl) (by decide) (by decide)) (g := (mkF m 74 #[.val (.int i0), .val (.long q1), .second, .val (.int (Int32.ofNat (z))), .val (.int (Int32.ofNat (a))), .val (.int (Int32.ofNat (b))), .val (.int (Int32.ofNat (a + b))), .val (.ref b1), .unset, .unset, .unset, .unset, .unset, .unset, .unset, .unset] [(.int (4 : Int32)), (.long q1), (.int (4 : Int32)), (.ref b1)])) rfl (by rw [hml]; rfl) (argsL := [(.long q1), (.int (4 : Int32))]) (rest := [(.int (4 : Int32)), (.ref b1)]) (lenOf pd_0 rfl) rfl (by show 2 * 0 + _ ≤ _; exact Nat.le_of_eq rfl) (hb hby at_74) (fun _ _ => ⟨rfl, e12, (by decide : 1 + 0 ≤ _), (by decide : 6 + 0 ≤ _)⟩)
  dsimp only [Pt.U, Pt.locs, Pt.cells, Pt.slots] at X14 l14 y14 z14 st14 hQ14
  subst l14 y14 z14
  obtain ⟨rfl, N14q, e14⟩ := hQ14
  have N14 := Fr.app N12 N14q
  refine own_to T14 (mkF m 77 #[.val (.int i0), .val (.long q1), .second, .val (.int (Int32.ofNat (z))), .val (.int (Int32.ofNat (a))), .val (.int (Int32.ofNat (b))), .val (.int (Int32.ofNat (a + b))), .val (.ref b1), .unset, .unset, .unset, .unset, .unset, .unset, .unset, .unset] [(.double (own_val q1 (4 : Int32))), (.int (4 : Int32)), (.ref b1)]) (fun tq kq => st14 _ kq) ?_
  obtain ⟨co16, Aro16, hszo16, hato16⟩ := id V12
  obtain ⟨T15, h15, X15, e15, W15, st15⟩ := stD X14 hx hZ e14 Aro16 (j := (4 : Int32)) (by rw [hszo16]; decide) (g := (mkF m 77 #[.val (.int i0), .val (.long q1), .second, .val (.int (Int32.ofNat (z))), .val (.int (Int32.ofNat (a))), .val (.int (Int32.ofNat (b))), .val (.int (Int32.ofNat (a + b))), .val (.ref b1), .unset, .unset, .unset, .unset, .unset, .unset, .unset, .unset] [(.double (own_val q1 (4 : Int32))), (.int (4 : Int32)), (.ref b1)])) rfl rfl (hb hby at_77)
  have N15 := Fr.snoc X15 N14 sz1
  have Zs15 : n0 ≤ h15.size := by rw [W15.size]; exact Zs12
  have V15 := DArr.set Aro16 hszo16 hato16 W15 (by decide : ((4 : Int32)).toNatClampNeg = 4)
  obtain ⟨f15, hf15⟩ : ∃ f', f' = own_upd f12 4 (own_val q1 (4 : Int32)) := ⟨_, rfl⟩
  rw [← hf15] at V15
  refine own_to T15 (mkF m 83 #[.val (.int i0), .val (.long q1), .second, .val (.int (Int32.ofNat (z))), .val (.int (Int32.ofNat (a))), .val (.int (Int32.ofNat (b))), .val (.int (Int32.ofNat (a + b))), .val (.ref b1), .unset, .unset, .unset, .unset, .unset, .unset, .unset, .unset] [(.int (5 : Int32)), (.long q1), (.int (5 : Int32)), (.ref b1)]) (fun tq kq => st15 _ (XS.aload X15.here hx rfl (hb hby at_78) rfl rfl (XS.iconst X15.here hx rfl (hb hby at_80) (XS.lloadN X15.here hx rfl (hb hby at_81) rfl (XS.iconst X15.here hx rfl (hb hby at_82) kq))))) ?_
  obtain ⟨_, _, ⟨T17, L17, k17, n17⟩, -, X17, ⟨Lc17, hQ17, l17, y17, z17⟩, st17⟩ := Jvm.LawKit.callS X15 hx (y := (⟨"com/example/tidemark/tidemark/policy/RateWindowAddPinLaw", "val", "(JI)D"⟩ : MethodName)) hown (mvT hZ (own_w hw 1 rfl)) (mvT hZ (own_w hw 2 rfl)) (mvT hZ (own_w hw 3 rfl)) (mvT hZ (own_w hw 4 rfl)) (by decide) (backOf (W := 2) (rmV l Z a0 hw [] q1 (5 : Int32) h15 n0 Zs15) hZ (own_w hw 4 rfl) (own_w hw 3 rfl) (by decide) (by decide)) (g := (mkF m 83 #[.val (.int i0), .val (.long q1), .second, .val (.int (Int32.ofNat (z))), .val (.int (Int32.ofNat (a))), .val (.int (Int32.ofNat (b))), .val (.int (Int32.ofNat (a + b))), .val (.ref b1), .unset, .unset, .unset, .unset, .unset, .unset, .unset, .unset] [(.int (5 : Int32)), (.long q1), (.int (5 : Int32)), (.ref b1)])) rfl (by rw [hml]; rfl) (argsL := [(.long q1), (.int (5 : Int32))]) (rest := [(.int (5 : Int32)), (.ref b1)]) (lenOf pd_0 rfl) rfl (by show 2 * 0 + _ ≤ _; exact Nat.le_of_eq rfl) (hb hby at_83) (fun _ _ => ⟨rfl, e15, (by decide : 1 + 0 ≤ _), (by decide : 6 + 0 ≤ _)⟩)
  dsimp only [Pt.U, Pt.locs, Pt.cells, Pt.slots] at X17 l17 y17 z17 st17 hQ17
  subst l17 y17 z17
  obtain ⟨rfl, N17q, e17⟩ := hQ17
  have N17 := Fr.app N15 N17q
  refine own_to T17 (mkF m 86 #[.val (.int i0), .val (.long q1), .second, .val (.int (Int32.ofNat (z))), .val (.int (Int32.ofNat (a))), .val (.int (Int32.ofNat (b))), .val (.int (Int32.ofNat (a + b))), .val (.ref b1), .unset, .unset, .unset, .unset, .unset, .unset, .unset, .unset] [(.double (own_val q1 (5 : Int32))), (.int (5 : Int32)), (.ref b1)]) (fun tq kq => st17 _ kq) ?_
  obtain ⟨co19, Aro19, hszo19, hato19⟩ := id V15
  obtain ⟨T18, h18, X18, e18, W18, st18⟩ := stD X17 hx hZ e17 Aro19 (j := (5 : Int32)) (by rw [hszo19]; decide) (g := (mkF m 86 #[.val (.int i0), .val (.long q1), .second, .val (.int (Int32.ofNat (z))), .val (.int (Int32.ofNat (a))), .val (.int (Int32.ofNat (b))), .val (.int (Int32.ofNat (a + b))), .val (.ref b1), .unset, .unset, .unset, .unset, .unset, .unset, .unset, .unset] [(.double (own_val q1 (5 : Int32))), (.int (5 : Int32)), (.ref b1)])) rfl rfl (hb hby at_86)
  have N18 := Fr.snoc X18 N17 sz1
  have Zs18 : n0 ≤ h18.size := by rw [W18.size]; exact Zs15
  have V18 := DArr.set Aro19 hszo19 hato19 W18 (by decide : ((5 : Int32)).toNatClampNeg = 5)
  obtain ⟨f18, hf18⟩ : ∃ f', f' = own_upd f15 5 (own_val q1 (5 : Int32)) := ⟨_, rfl⟩
  rw [← hf18] at V18
  refine own_to T18 (mkF m 87 #[.val (.int i0), .val (.long q1), .second, .val (.int (Int32.ofNat (z))), .val (.int (Int32.ofNat (a))), .val (.int (Int32.ofNat (b))), .val (.int (Int32.ofNat (a + b))), .val (.ref b1), .unset, .unset, .unset, .unset, .unset, .unset, .unset, .unset] []) (fun tq kq => st18 _ kq) ?_
  obtain ⟨b7, hb7⟩ : ∃ x, x = b1 := ⟨_, rfl⟩
  obtain ⟨fv, hfv⟩ : ∃ f', f' = f18 := ⟨_, rfl⟩
  have Vb7 := V18
  rw [← hb7, ← hfv] at Vb7
  rw [← hb7]
  have hnn : ∀ k, k < 6 → Jvm.Free.Fl.NoNaN64 (fv k) := by
    intro k hk
    have hk' : k = 0 ∨ k = 1 ∨ k = 2 ∨ k = 3 ∨ k = 4 ∨ k = 5 := by omega
    rcases hk' with rfl | rfl | rfl | rfl | rfl | rfl <;> (simp [hfv, hf3, hf6, hf9, hf12, hf15, hf18, own_upd]; exact own_nn _ _)
  clear hfv
  have J188 : ∀ (T1 : State) (h1 : Heap) (L1 : List Loc) (b8 b9 : Addr) (f1 f2 : Nat → UInt64), Stand p l e room_1 s m #[(.int i0), (.long q1)] below meth c T1 L1 3 12 → T1.heap = h1 → Fr n0 L1 → n0 ≤ h1.size → DArr Z h1 b7 6 fv → DArr Z h1 b8 a f1 → DArr Z h1 b9 b f2 → (∀ j, j < a → f1 j = fv j) → (∀ j, j < b → f2 j = fv (a + j)) → Own p e below s room_1.cells room_1.slots (Q_rm0 Z i0 q1 h0 n0) T1 (mkF m 188 #[.val (.int i0), .val (.long q1), .second, .val (.int (Int32.ofNat (z))), .val (.int (Int32.ofNat (a))), .val (.int (Int32.ofNat (b))), .val (.int (Int32.ofNat (a + b))), .val (.ref b7), .val (.ref b8), .val (.ref b9), .unset, .unset, .unset, .unset, .unset, .unset] []) := by
    intro T1 h1 L1 b8 b9 f1 f2 X1 e1 N1 Z1 V7 V8 V9 hf1 hf2
    obtain ⟨T20, h20, X20, e20, E20, A20, D20, -, st20⟩ := newO X1 hx hZ hown (own_w hw 6 rfl) (own_w hw 7 rfl) (own_w hw 8 rfl) e1 (g := (mkF m 188 #[.val (.int i0), .val (.long q1), .second, .val (.int (Int32.ofNat (z))), .val (.int (Int32.ofNat (a))), .val (.int (Int32.ofNat (b))), .val (.int (Int32.ofNat (a + b))), .val (.ref b7), .val (.ref b8), .val (.ref b9), .unset, .unset, .unset, .unset, .unset, .unset] [])) rfl (hb hby at_188) (by decide) (by decide)
    obtain ⟨b20, g20⟩ : ∃ z, z = h1.size := ⟨_, rfl⟩
    rw [← g20] at A20 D20 st20
    have ne_b7_b20 : b7 ≠ b20 := Nat.ne_of_lt (Nat.lt_of_lt_of_le V7.lt (Nat.le_of_eq g20.symm))
    have ne_b8_b20 : b8 ≠ b20 := Nat.ne_of_lt (Nat.lt_of_lt_of_le V8.lt (Nat.le_of_eq g20.symm))
    have ne_b9_b20 : b9 ≠ b20 := Nat.ne_of_lt (Nat.lt_of_lt_of_le V9.lt (Nat.le_of_eq g20.symm))
    have f21 := V7.ext E20
    have f22 := V8.ext E20
    have f23 := V9.ext E20
    have sz20 : n0 ≤ b20 := Nat.le_trans Z1 (Nat.le_of_eq g20.symm)
    have Zs20 : n0 ≤ h20.size := Nat.le_trans Z1 E20.1
    have F20_recent : Fld Z h20 b20 "com/example/tidemark/tidemark/policy/RateWindow" "recent" "[D" .null := D20 (Or.inr (own_w hw 16 rfl)) (ty := (.array .double)) (by decide)
    have F20_seen : Fld Z h20 b20 "com/example/tidemark/tidemark/policy/RateWindow" "seen" "J" (.long (0 : Int64)) := D20 (Or.inl (own_w hw 23 rfl)) (ty := .long) (by decide)
    refine own_to T20 (mkF m 193 #[.val (.int i0), .val (.long q1), .second, .val (.int (Int32.ofNat (z))), .val (.int (Int32.ofNat (a))), .val (.int (Int32.ofNat (b))), .val (.int (Int32.ofNat (a + b))), .val (.ref b7), .val (.ref b8), .val (.ref b9), .unset, .unset, .unset, .unset, .unset, .unset] [(.int (Int32.ofNat (z))), (.ref b20), (.ref b20)]) (fun tq kq => st20 _ (XS.dup X20.here hx rfl (hb hby at_191) rfl rfl (XS.iloadN X20.here hx rfl (hb hby at_192) rfl kq))) ?_
    obtain ⟨_, _, ⟨T24, L24, k24, n24⟩, -, X24, ⟨Lc24, hQ24, l24, y24, z24⟩, st24⟩ := X20.specialBack hx (y := (⟨"com/example/tidemark/tidemark/policy/RateWindow", "<init>", "(I)V"⟩ : MethodName)) rfl hown (mvT hZ (own_w hw 9 rfl)) (mvT hZ (own_w hw 10 rfl)) (mvT hZ (own_w hw 11 rfl)) (by decide) (backOf (W := 1) (rmI l Z a0 hw [] b20 z h20 n0 Zs20 A20 F20_recent F20_seen sz20 hz hz4) hZ (own_w hw 11 rfl) (own_w hw 8 rfl) (by decide) (by decide)) (g := (mkF m 193 #[.val (.int i0), .val (.long q1), .second, .val (.int (Int32.ofNat (z))), .val (.int (Int32.ofNat (a))), .val (.int (Int32.ofNat (b))), .val (.int (Int32.ofNat (a + b))), .val (.ref b7), .val (.ref b8), .val (.ref b9), .unset, .unset, .unset, .unset, .unset, .unset] [(.int (Int32.ofNat (z))), (.ref b20), (.ref b20)])) rfl (by rw [hml]; rfl) (Steps.refl _) (a := b20) (argsL := [(.int (Int32.ofNat (z)))]) (rest := [(.ref b20)]) (lenOf pd_1 rfl) rfl (by show 2 * 0 + _ ≤ _; exact Nat.le_of_eq rfl) (hb hby at_193) (fun _ _ => ⟨rfl, e20, (by decide : 4 + 1 ≤ _), (by decide : 14 + 4 ≤ _)⟩)
    dsimp only [Pt.U, Pt.locs, Pt.cells, Pt.slots] at X24 l24 y24 z24 st24 hQ24
    subst l24 y24 z24
    obtain ⟨rfl, N24q, K24q, E24q, rc24, gr24, hsr24, na24, F24a, F24b, V24a⟩ := hQ24
    have N24 := Fr.app N1 N24q
    have ne_b7_rc24 : b7 ≠ rc24 := Nat.ne_of_lt (Nat.lt_of_lt_of_le f21.lt hsr24)
    have ne_b8_rc24 : b8 ≠ rc24 := Nat.ne_of_lt (Nat.lt_of_lt_of_le f22.lt hsr24)
    have ne_b9_rc24 : b9 ≠ rc24 := Nat.ne_of_lt (Nat.lt_of_lt_of_le f23.lt hsr24)
    have f25 := f21.keep K24q (ninS ne_b7_b20 nin0)
    have f26 := f22.keep K24q (ninS ne_b8_b20 nin0)
    have f27 := f23.keep K24q (ninS ne_b9_b20 nin0)
    have f28 := A20.keep K24q
    have Zs24 : n0 ≤ T24.heap.size := Nat.le_trans Zs20 K24q.1
    refine own_to T24 (mkF m 200 #[.val (.int i0), .val (.long q1), .second, .val (.int (Int32.ofNat (z))), .val (.int (Int32.ofNat (a))), .val (.int (Int32.ofNat (b))), .val (.int (Int32.ofNat (a + b))), .val (.ref b7), .val (.ref b8), .val (.ref b9), .val (.ref b20), .unset, .unset, .unset, .unset, .unset] [(.ref b20)]) (fun tq kq => st24.trans (XS.astore X24.here hx rfl (hb hby at_196) rfl rfl (l' := #[.val (.int i0), .val (.long q1), .second, .val (.int (Int32.ofNat (z))), .val (.int (Int32.ofNat (a))), .val (.int (Int32.ofNat (b))), .val (.int (Int32.ofNat (a + b))), .val (.ref b7), .val (.ref b8), .val (.ref b9), .val (.ref b20), .unset, .unset, .unset, .unset, .unset]) rfl (XS.aload X24.here hx rfl (hb hby at_198) rfl rfl kq))) ?_
    obtain ⟨cq29, kq29, q29a, q29b, q29c⟩ := isOf hZ rfl E24q
    obtain ⟨_, _, ⟨T29, L29, k29, n29⟩, -, X29, ⟨Lc29, hQ29, l29, y29, z29⟩, st29⟩ := X24.virtualBack hx (y := (⟨"com/example/tidemark/tidemark/policy/RateWindow", "isFull", "()Z"⟩ : MethodName)) (z := (⟨"com/example/tidemark/tidemark/policy/RateWindow", "isFull", "()Z"⟩ : MethodName)) hown (mvT hZ (own_w hw 17 rfl)) (mvT hZ (own_w hw 18 rfl)) (notFace_of_selects (args := #[]) (mvT hZ (own_w hw 20 rfl))) (mvT hZ (own_w hw 20 rfl)) (mvT hZ (own_w hw 19 rfl)) (by decide) (backOf (W := 0) (rmFull l Z a0 hw [] b20 rc24 (0) z (fun _ => 0) T24.heap n0 Zs24 F24a F24b V24a hz hz4 (by omega)) hZ (own_w hw 21 rfl) (own_w hw 8 rfl) (by decide) (by decide)) q29a q29c (g := (mkF m 200 #[.val (.int i0), .val (.long q1), .second, .val (.int (Int32.ofNat (z))), .val (.int (Int32.ofNat (a))), .val (.int (Int32.ofNat (b))), .val (.int (Int32.ofNat (a + b))), .val (.ref b7), .val (.ref b8), .val (.ref b9), .val (.ref b20), .unset, .unset, .unset, .unset, .unset] [(.ref b20)])) rfl (by rw [hml]; rfl) (Steps.refl _) (argsL := []) (rest := []) (lenOf pd_3 rfl) rfl (by show 2 * 0 + _ ≤ _; exact Nat.le_of_eq rfl) (hb hby at_200) (fun _ _ => ⟨rfl, rfl, (by decide : 5 + 0 ≤ _), (by decide : 18 + 0 ≤ _)⟩)
    dsimp only [Pt.U, Pt.locs, Pt.cells, Pt.slots] at X29 l29 y29 z29 st29 hQ29
    subst l29 y29 z29
    obtain ⟨rfl, N29q, e29⟩ := hQ29
    have N29 := Fr.app N24 N29q
    refine own_to T29 (mkF m 203 #[.val (.int i0), .val (.long q1), .second, .val (.int (Int32.ofNat (z))), .val (.int (Int32.ofNat (a))), .val (.int (Int32.ofNat (b))), .val (.int (Int32.ofNat (a + b))), .val (.ref b7), .val (.ref b8), .val (.ref b9), .val (.ref b20), .unset, .unset, .unset, .unset, .unset] [(.int (if 0 < z then (0 : Int32) else 1))]) (fun tq kq => st29.trans kq) ?_
    rw [show (if 0 < z then (0 : Int32) else 1) = (0 : Int32) from if_pos hz]
    refine own_to T29 (mkF m 217 #[.val (.int i0), .val (.long q1), .second, .val (.int (Int32.ofNat (z))), .val (.int (Int32.ofNat (a))), .val (.int (Int32.ofNat (b))), .val (.int (Int32.ofNat (a + b))), .val (.ref b7), .val (.ref b8), .val (.ref b9), .val (.ref b20), .val (.int (1 : Int32)), .unset, .unset, .unset, .unset] [(.ref b8), (.ref b20)]) (fun tq kq => XS.ifNo X29.here hx rfl (hb hby at_203) rfl ((if0 _ _).trans (teq (by decide : (0 : Int32) = (0 : Int32))).2) (XS.iconst X29.here hx rfl (hb hby at_206) (XS.goto X29.here hx rfl (pc0 := 207) (pc' := 211) rfl (hb hby at_207) (by decide) (by decide) (XS.istore X29.here hx rfl (hb hby at_211) rfl (l' := #[.val (.int i0), .val (.long q1), .second, .val (.int (Int32.ofNat (z))), .val (.int (Int32.ofNat (a))), .val (.int (Int32.ofNat (b))), .val (.int (Int32.ofNat (a + b))), .val (.ref b7), .val (.ref b8), .val (.ref b9), .val (.ref b20), .val (.int (1 : Int32)), .unset, .unset, .unset, .unset]) rfl (XS.aload X29.here hx rfl (hb hby at_213) rfl rfl (XS.aload X29.here hx rfl (hb hby at_215) rfl rfl kq)))))) ?_
    obtain ⟨cq30, kq30, q30a, q30b, q30c⟩ := isOf hZ e29 E24q
    obtain ⟨_, _, ⟨T30, L30, k30, n30⟩, -, X30, ⟨Lc30, hQ30, l30, y30, z30⟩, st30⟩ := X29.virtualBack hx (y := (⟨"com/example/tidemark/tidemark/policy/RateWindow", "add", "([D)V"⟩ : MethodName)) (z := (⟨"com/example/tidemark/tidemark/policy/RateWindow", "add", "([D)V"⟩ : MethodName)) hown (mvT hZ (own_w hw 24 rfl)) (mvT hZ (own_w hw 25 rfl)) (notFace_of_selects (args := #[]) (mvT hZ (own_w hw 27 rfl))) (mvT hZ (own_w hw 27 rfl)) (mvT hZ (own_w hw 26 rfl)) (by decide) (backOf (W := 0) (rmA l Z a0 hw [] b20 b8 rc24 (0) z a fv f1 (fun _ => 0) T24.heap n0 Zs24 E24q F24a F24b V24a f26 (own_R0 z fv _) (fun j hj => by rw [Nat.zero_add]; exact hf1 j hj) na24 (Ne.symm ne_b8_b20) ne_b8_rc24 sz20 gr24 hz hz4 (by omega) (by omega)) hZ (own_w hw 28 rfl) (own_w hw 8 rfl) (by decide) (by decide)) q30a q30c (g := (mkF m 217 #[.val (.int i0), .val (.long q1), .second, .val (.int (Int32.ofNat (z))), .val (.int (Int32.ofNat (a))), .val (.int (Int32.ofNat (b))), .val (.int (Int32.ofNat (a + b))), .val (.ref b7), .val (.ref b8), .val (.ref b9), .val (.ref b20), .val (.int (1 : Int32)), .unset, .unset, .unset, .unset] [(.ref b8), (.ref b20)])) rfl (by rw [hml]; rfl) (Steps.refl _) (argsL := [(.ref b8)]) (rest := []) (lenOf pd_4 rfl) rfl (by show 2 * 0 + _ ≤ _; exact Nat.le_of_eq rfl) (hb hby at_217) (fun _ _ => ⟨rfl, e29, (by decide : 5 + 0 ≤ _), (by decide : 18 + 0 ≤ _)⟩)
    dsimp only [Pt.U, Pt.locs, Pt.cells, Pt.slots] at X30 l30 y30 z30 st30 hQ30
    subst l30 y30 z30
    obtain ⟨rfl, N30q, K30q, E30q, F30a, F30b, g30, R30, V30a⟩ := hQ30
    have N30 := Fr.app N29 N30q
    have f31 := f25.keep K30q (ninS ne_b7_b20 (ninS ne_b7_rc24 nin0))
    have f32 := f26.keep K30q (ninS ne_b8_b20 (ninS ne_b8_rc24 nin0))
    have f33 := f27.keep K30q (ninS ne_b9_b20 (ninS ne_b9_rc24 nin0))
    have f34 := E24q.keep K30q
    have Zs30 : n0 ≤ T30.heap.size := Nat.le_trans Zs24 K30q.1
    refine own_to T30 (mkF m 222 #[.val (.int i0), .val (.long q1), .second, .val (.int (Int32.ofNat (z))), .val (.int (Int32.ofNat (a))), .val (.int (Int32.ofNat (b))), .val (.int (Int32.ofNat (a + b))), .val (.ref b7), .val (.ref b8), .val (.ref b9), .val (.ref b20), .val (.int (1 : Int32)), .unset, .unset, .unset, .unset] [(.ref b20)]) (fun tq kq => st30.trans (XS.aload X30.here hx rfl (hb hby at_220) rfl rfl kq)) ?_
    obtain ⟨cq35, kq35, q35a, q35b, q35c⟩ := isOf hZ rfl E30q
    obtain ⟨_, _, ⟨T35, L35, k35, n35⟩, -, X35, ⟨Lc35, hQ35, l35, y35, z35⟩, st35⟩ := X30.virtualBack hx (y := (⟨"com/example/tidemark/tidemark/policy/RateWindow", "isFull", "()Z"⟩ : MethodName)) (z := (⟨"com/example/tidemark/tidemark/policy/RateWindow", "isFull", "()Z"⟩ : MethodName)) hown (mvT hZ (own_w hw 17 rfl)) (mvT hZ (own_w hw 18 rfl)) (notFace_of_selects (args := #[]) (mvT hZ (own_w hw 20 rfl))) (mvT hZ (own_w hw 20 rfl)) (mvT hZ (own_w hw 19 rfl)) (by decide) (backOf (W := 0) (rmFull l Z a0 hw [] b20 rc24 (0 + a) z g30 T30.heap n0 Zs30 F30a F30b V30a hz hz4 (by omega)) hZ (own_w hw 21 rfl) (own_w hw 8 rfl) (by decide) (by decide)) q35a q35c (g := (mkF m 222 #[.val (.int i0), .val (.long q1), .second, .val (.int (Int32.ofNat (z))), .val (.int (Int32.ofNat (a))), .val (.int (Int32.ofNat (b))), .val (.int (Int32.ofNat (a + b))), .val (.ref b7), .val (.ref b8), .val (.ref b9), .val (.ref b20), .val (.int (1 : Int32)), .unset, .unset, .unset, .unset] [(.ref b20)])) rfl (by rw [hml]; rfl) (Steps.refl _) (argsL := []) (rest := []) (lenOf pd_3 rfl) rfl (by show 2 * 0 + _ ≤ _; exact Nat.le_of_eq rfl) (hb hby at_222) (fun _ _ => ⟨rfl, rfl, (by decide : 5 + 0 ≤ _), (by decide : 18 + 0 ≤ _)⟩)
    dsimp only [Pt.U, Pt.locs, Pt.cells, Pt.slots] at X35 l35 y35 z35 st35 hQ35
    subst l35 y35 z35
    obtain ⟨rfl, N35q, e35⟩ := hQ35
    have N35 := Fr.app N30 N35q
    refine own_to T35 (mkF m 231 #[.val (.int i0), .val (.long q1), .second, .val (.int (Int32.ofNat (z))), .val (.int (Int32.ofNat (a))), .val (.int (Int32.ofNat (b))), .val (.int (Int32.ofNat (a + b))), .val (.ref b7), .val (.ref b8), .val (.ref b9), .val (.ref b20), .val (.int (1 : Int32)), .val (.int (if 0 + a < z then (0 : Int32) else 1)), .unset, .unset, .unset] [(.ref b9), (.ref b20)]) (fun tq kq => st35.trans (XS.istore X35.here hx rfl (hb hby at_225) rfl (l' := #[.val (.int i0), .val (.long q1), .second, .val (.int (Int32.ofNat (z))), .val (.int (Int32.ofNat (a))), .val (.int (Int32.ofNat (b))), .val (.int (Int32.ofNat (a + b))), .val (.ref b7), .val (.ref b8), .val (.ref b9), .val (.ref b20), .val (.int (1 : Int32)), .val (.int (if 0 + a < z then (0 : Int32) else 1)), .unset, .unset, .unset]) rfl (XS.aload X35.here hx rfl (hb hby at_227) rfl rfl (XS.aload X35.here hx rfl (hb hby at_229) rfl rfl kq)))) ?_
    obtain ⟨cq36, kq36, q36a, q36b, q36c⟩ := isOf hZ e35 E30q
    obtain ⟨_, _, ⟨T36, L36, k36, n36⟩, -, X36, ⟨Lc36, hQ36, l36, y36, z36⟩, st36⟩ := X35.virtualBack hx (y := (⟨"com/example/tidemark/tidemark/policy/RateWindow", "add", "([D)V"⟩ : MethodName)) (z := (⟨"com/example/tidemark/tidemark/policy/RateWindow", "add", "([D)V"⟩ : MethodName)) hown (mvT hZ (own_w hw 24 rfl)) (mvT hZ (own_w hw 25 rfl)) (notFace_of_selects (args := #[]) (mvT hZ (own_w hw 27 rfl))) (mvT hZ (own_w hw 27 rfl)) (mvT hZ (own_w hw 26 rfl)) (by decide) (backOf (W := 0) (rmA l Z a0 hw [] b20 b9 rc24 (0 + a) z b fv f2 g30 T30.heap n0 Zs30 E30q F30a F30b V30a f33 R30 (fun j hj => by rw [Nat.zero_add]; exact hf2 j hj) na24 (Ne.symm ne_b9_b20) ne_b9_rc24 sz20 gr24 hz hz4 (by omega) (by omega)) hZ (own_w hw 28 rfl) (own_w hw 8 rfl) (by decide) (by decide)) q36a q36c (g := (mkF m 231 #[.val (.int i0), .val (.long q1), .second, .val (.int (Int32.ofNat (z))), .val (.int (Int32.ofNat (a))), .val (.int (Int32.ofNat (b))), .val (.int (Int32.ofNat (a + b))), .val (.ref b7), .val (.ref b8), .val (.ref b9), .val (.ref b20), .val (.int (1 : Int32)), .val (.int (if 0 + a < z then (0 : Int32) else 1)), .unset, .unset, .unset] [(.ref b9), (.ref b20)])) rfl (by rw [hml]; rfl) (Steps.refl _) (argsL := [(.ref b9)]) (rest := []) (lenOf pd_4 rfl) rfl (by show 2 * 0 + _ ≤ _; exact Nat.le_of_eq rfl) (hb hby at_231) (fun _ _ => ⟨rfl, e35, (by decide : 5 + 0 ≤ _), (by decide : 18 + 0 ≤ _)⟩)
    dsimp only [Pt.U, Pt.locs, Pt.cells, Pt.slots] at X36 l36 y36 z36 st36 hQ36
    subst l36 y36 z36
    obtain ⟨rfl, N36q, K36q, E36q, F36a, F36b, g36, R36, V36a⟩ := hQ36
    have N36 := Fr.app N35 N36q
    have f37 := f31.keep K36q (ninS ne_b7_b20 (ninS ne_b7_rc24 nin0))
    have f38 := f32.keep K36q (ninS ne_b8_b20 (ninS ne_b8_rc24 nin0))
    have f39 := f33.keep K36q (ninS ne_b9_b20 (ninS ne_b9_rc24 nin0))
    have f40 := E30q.keep K36q
    have Zs36 : n0 ≤ T36.heap.size := Nat.le_trans Zs30 K36q.1
    have R36' : own_R z fv g36 (a + b) := by rw [Nat.zero_add] at R36; exact R36
    refine own_to T36 (mkF m 236 #[.val (.int i0), .val (.long q1), .second, .val (.int (Int32.ofNat (z))), .val (.int (Int32.ofNat (a))), .val (.int (Int32.ofNat (b))), .val (.int (Int32.ofNat (a + b))), .val (.ref b7), .val (.ref b8), .val (.ref b9), .val (.ref b20), .val (.int (1 : Int32)), .val (.int (if 0 + a < z then (0 : Int32) else 1)), .unset, .unset, .unset] [(.ref b20)]) (fun tq kq => st36.trans (XS.aload X36.here hx rfl (hb hby at_234) rfl rfl kq)) ?_
    obtain ⟨cq41, kq41, q41a, q41b, q41c⟩ := isOf hZ rfl E36q
    obtain ⟨_, _, ⟨T41, L41, k41, n41⟩, -, X41, ⟨Lc41, hQ41, l41, y41, z41⟩, st41⟩ := X36.virtualBack hx (y := (⟨"com/example/tidemark/tidemark/policy/RateWindow", "isFull", "()Z"⟩ : MethodName)) (z := (⟨"com/example/tidemark/tidemark/policy/RateWindow", "isFull", "()Z"⟩ : MethodName)) hown (mvT hZ (own_w hw 17 rfl)) (mvT hZ (own_w hw 18 rfl)) (notFace_of_selects (args := #[]) (mvT hZ (own_w hw 20 rfl))) (mvT hZ (own_w hw 20 rfl)) (mvT hZ (own_w hw 19 rfl)) (by decide) (backOf (W := 0) (rmFull l Z a0 hw [] b20 rc24 (0 + a + b) z g36 T36.heap n0 Zs36 F36a F36b V36a hz hz4 (by omega)) hZ (own_w hw 21 rfl) (own_w hw 8 rfl) (by decide) (by decide)) q41a q41c (g := (mkF m 236 #[.val (.int i0), .val (.long q1), .second, .val (.int (Int32.ofNat (z))), .val (.int (Int32.ofNat (a))), .val (.int (Int32.ofNat (b))), .val (.int (Int32.ofNat (a + b))), .val (.ref b7), .val (.ref b8), .val (.ref b9), .val (.ref b20), .val (.int (1 : Int32)), .val (.int (if 0 + a < z then (0 : Int32) else 1)), .unset, .unset, .unset] [(.ref b20)])) rfl (by rw [hml]; rfl) (Steps.refl _) (argsL := []) (rest := []) (lenOf pd_3 rfl) rfl (by show 2 * 0 + _ ≤ _; exact Nat.le_of_eq rfl) (hb hby at_236) (fun _ _ => ⟨rfl, rfl, (by decide : 5 + 0 ≤ _), (by decide : 18 + 0 ≤ _)⟩)
    dsimp only [Pt.U, Pt.locs, Pt.cells, Pt.slots] at X41 l41 y41 z41 st41 hQ41
    subst l41 y41 z41
    obtain ⟨rfl, N41q, e41⟩ := hQ41
    have N41 := Fr.app N36 N41q
    refine own_to T41 (mkF m 251 #[.val (.int i0), .val (.long q1), .second, .val (.int (Int32.ofNat (z))), .val (.int (Int32.ofNat (a))), .val (.int (Int32.ofNat (b))), .val (.int (Int32.ofNat (a + b))), .val (.ref b7), .val (.ref b8), .val (.ref b9), .val (.ref b20), .val (.int (1 : Int32)), .val (.int (if 0 + a < z then (0 : Int32) else 1)), .val (.int (if 0 + a + b < z then (0 : Int32) else 1)), .unset, .unset] [(.int (Int32.ofNat (z))), (.int (Int32.ofNat (a))), (.int (if 0 + a < z then (0 : Int32) else 1))]) (fun tq kq => st41.trans (XS.istore X41.here hx rfl (hb hby at_239) rfl (l' := #[.val (.int i0), .val (.long q1), .second, .val (.int (Int32.ofNat (z))), .val (.int (Int32.ofNat (a))), .val (.int (Int32.ofNat (b))), .val (.int (Int32.ofNat (a + b))), .val (.ref b7), .val (.ref b8), .val (.ref b9), .val (.ref b20), .val (.int (1 : Int32)), .val (.int (if 0 + a < z then (0 : Int32) else 1)), .val (.int (if 0 + a + b < z then (0 : Int32) else 1)), .unset, .unset]) rfl (XS.iload X41.here hx rfl (hb hby at_241) rfl (XS.ifNo X41.here hx rfl (hb hby at_243) rfl ((if0 _ _).trans (feq (by decide : ¬ ((1 : Int32) = (0 : Int32)))).1) (XS.iload X41.here hx rfl (hb hby at_246) rfl (XS.iload X41.here hx rfl (hb hby at_248) rfl (XS.iloadN X41.here hx rfl (hb hby at_250) rfl kq))))))) ?_
    by_cases c251 : (Int32.ofNat (a)) < (Int32.ofNat (z))
    · skip
      refine own_to T41 (mkF m 267 #[.val (.int i0), .val (.long q1), .second, .val (.int (Int32.ofNat (z))), .val (.int (Int32.ofNat (a))), .val (.int (Int32.ofNat (b))), .val (.int (Int32.ofNat (a + b))), .val (.ref b7), .val (.ref b8), .val (.ref b9), .val (.ref b20), .val (.int (1 : Int32)), .val (.int (if 0 + a < z then (0 : Int32) else 1)), .val (.int (if 0 + a + b < z then (0 : Int32) else 1)), .unset, .unset] [(.int (Int32.ofNat (z))), (.int (Int32.ofNat (a + b))), (.int (if 0 + a + b < z then (0 : Int32) else 1))]) (fun tq kq => XS.icmpYes X41.here hx rfl (pc0 := 251) (pc' := 258) rfl (hb hby at_251) rfl (tlt c251).1 (by decide) (by decide) (XS.iconst X41.here hx rfl (hb hby at_258) (XS.icmpNo X41.here hx rfl (hb hby at_259) rfl (teq (by rw [show (0 + a) = a by omega]; exact if_pos ((own_ltn (by omega) (by omega)).mp c251))).2 (XS.iload X41.here hx rfl (hb hby at_262) rfl (XS.iload X41.here hx rfl (hb hby at_264) rfl (XS.iloadN X41.here hx rfl (hb hby at_266) rfl kq)))))) ?_
      by_cases c267 : (Int32.ofNat (a + b)) < (Int32.ofNat (z))
      · skip
        refine own_to T41 (mkF m 286 #[.val (.int i0), .val (.long q1), .second, .val (.int (Int32.ofNat (z))), .val (.int (Int32.ofNat (a))), .val (.int (Int32.ofNat (b))), .val (.int (Int32.ofNat (a + b))), .val (.ref b7), .val (.ref b8), .val (.ref b9), .val (.ref b20), .val (.int (1 : Int32)), .val (.int (if 0 + a < z then (0 : Int32) else 1)), .val (.int (if 0 + a + b < z then (0 : Int32) else 1)), .unset, .unset] [(.int (1 : Int32))]) (fun tq kq => XS.icmpYes X41.here hx rfl (pc0 := 267) (pc' := 274) rfl (hb hby at_267) rfl (tlt c267).1 (by decide) (by decide) (XS.iconst X41.here hx rfl (hb hby at_274) (XS.icmpYes X41.here hx rfl (pc0 := 275) (pc' := 280) rfl (hb hby at_275) rfl (teq (by rw [show (0 + a + b) = a + b by omega]; exact if_pos ((own_ltn (by omega) (by omega)).mp c267))).1 (by decide) (by decide) (XS.iload X41.here hx rfl (hb hby at_280) rfl (XS.ifNo X41.here hx rfl (hb hby at_282) rfl ((if0 _ _).trans (teq (by rw [show (0 + a + b) = a + b by omega]; exact if_pos ((own_ltn (by omega) (by omega)).mp c267))).2) (XS.iconst X41.here hx rfl (hb hby at_285) kq)))))) ?_
        exact own_retZ X41 hx hret hlk (hb hby at_286) (by decide) (by decide) (Or.inr rfl) ⟨rfl, N41⟩
      · skip
        refine own_to T41 (mkF m 287 #[.val (.int i0), .val (.long q1), .second, .val (.int (Int32.ofNat (z))), .val (.int (Int32.ofNat (a))), .val (.int (Int32.ofNat (b))), .val (.int (Int32.ofNat (a + b))), .val (.ref b7), .val (.ref b8), .val (.ref b9), .val (.ref b20), .val (.int (1 : Int32)), .val (.int (if 0 + a < z then (0 : Int32) else 1)), .val (.int (if 0 + a + b < z then (0 : Int32) else 1)), .unset, .unset] []) (fun tq kq => XS.icmpNo X41.here hx rfl (hb hby at_267) rfl (flt c267).1 (XS.iconst X41.here hx rfl (hb hby at_270) (XS.goto X41.here hx rfl (pc0 := 271) (pc' := 275) rfl (hb hby at_271) (by decide) (by decide) (XS.icmpYes X41.here hx rfl (pc0 := 275) (pc' := 280) rfl (hb hby at_275) rfl (teq (by rw [show (0 + a + b) = a + b by omega]; exact if_neg (mt (own_ltn (by omega) (by omega)).mpr c267))).1 (by decide) (by decide) (XS.iload X41.here hx rfl (hb hby at_280) rfl (XS.ifYes X41.here hx rfl (pc0 := 282) (pc' := 287) rfl (hb hby at_282) rfl ((if0 _ _).trans (feq (by rw [show (0 + a + b) = a + b by omega, if_neg (mt (own_ltn (by omega) (by omega)).mpr c267)]; decide)).2) (by decide) (by decide) kq)))))) ?_
        have hfull : z ≤ a + b := by have := mt (own_ltn (a := a + b) (b := z) (by omega) (by omega)).mpr c267; omega
        refine own_to T41 (mkF m 289 #[.val (.int i0), .val (.long q1), .second, .val (.int (Int32.ofNat (z))), .val (.int (Int32.ofNat (a))), .val (.int (Int32.ofNat (b))), .val (.int (Int32.ofNat (a + b))), .val (.ref b7), .val (.ref b8), .val (.ref b9), .val (.ref b20), .val (.int (1 : Int32)), .val (.int (if 0 + a < z then (0 : Int32) else 1)), .val (.int (if 0 + a + b < z then (0 : Int32) else 1)), .unset, .unset] [(.ref b20)]) (fun tq kq => XS.aload X41.here hx rfl (hb hby at_287) rfl rfl kq) ?_
        obtain ⟨cq42, kq42, q42a, q42b, q42c⟩ := isOf hZ e41 E36q
        obtain ⟨_, _, ⟨T42, L42, k42, n42⟩, -, X42, ⟨Lc42, hQ42, l42, y42, z42⟩, st42⟩ := X41.virtualBack hx (y := (⟨"com/example/tidemark/tidemark/policy/RateWindow", "rates", "()[D"⟩ : MethodName)) (z := (⟨"com/example/tidemark/tidemark/policy/RateWindow", "rates", "()[D"⟩ : MethodName)) hown (mvT hZ (own_w hw 29 rfl)) (mvT hZ (own_w hw 30 rfl)) (notFace_of_selects (args := #[]) (mvT hZ (own_w hw 32 rfl))) (mvT hZ (own_w hw 32 rfl)) (mvT hZ (own_w hw 31 rfl)) (by decide) (backOf (W := 0) (rmR l Z a0 hw [] b20 rc24 (0 + a + b) z g36 T36.heap n0 Zs36 F36a F36b V36a hz hz4 (by omega)) hZ (own_w hw 33 rfl) (own_w hw 8 rfl) (by decide) (by decide)) q42a q42c (g := (mkF m 289 #[.val (.int i0), .val (.long q1), .second, .val (.int (Int32.ofNat (z))), .val (.int (Int32.ofNat (a))), .val (.int (Int32.ofNat (b))), .val (.int (Int32.ofNat (a + b))), .val (.ref b7), .val (.ref b8), .val (.ref b9), .val (.ref b20), .val (.int (1 : Int32)), .val (.int (if 0 + a < z then (0 : Int32) else 1)), .val (.int (if 0 + a + b < z then (0 : Int32) else 1)), .unset, .unset] [(.ref b20)])) rfl (by rw [hml]; rfl) (Steps.refl _) (argsL := []) (rest := []) (lenOf pd_5 rfl) rfl (by show 2 * 0 + _ ≤ _; exact Nat.le_of_eq rfl) (hb hby at_289) (fun _ _ => ⟨rfl, e41, (by decide : 5 + 1 ≤ _), (by decide : 18 + 4 ≤ _)⟩)
        dsimp only [Pt.U, Pt.locs, Pt.cells, Pt.slots] at X42 l42 y42 z42 st42 hQ42
        subst l42 y42 z42
        obtain ⟨b42, r42, rfl, N42q, K42q, gb42, V42b, hr42⟩ := hQ42
        have N42 := Fr.app N41 N42q
        have f43 := f37.keep K42q nin0
        have f44 := f38.keep K42q nin0
        have f45 := f39.keep K42q nin0
        have f46 := E36q.keep K42q
        have f47 := F36a.keep K42q nin0
        have f48 := F36b.keep K42q nin0
        have f49 := V36a.keep K42q nin0
        have Zs42 : n0 ≤ T42.heap.size := Nat.le_trans Zs36 K42q.1
        refine own_to T42 (mkF m 296 #[.val (.int i0), .val (.long q1), .second, .val (.int (Int32.ofNat (z))), .val (.int (Int32.ofNat (a))), .val (.int (Int32.ofNat (b))), .val (.int (Int32.ofNat (a + b))), .val (.ref b7), .val (.ref b8), .val (.ref b9), .val (.ref b20), .val (.int (1 : Int32)), .val (.int (if 0 + a < z then (0 : Int32) else 1)), .val (.int (if 0 + a + b < z then (0 : Int32) else 1)), .val (.ref b42), .unset] [(.ref b42)]) (fun tq kq => st42.trans (XS.astore X42.here hx rfl (hb hby at_292) rfl rfl (l' := #[.val (.int i0), .val (.long q1), .second, .val (.int (Int32.ofNat (z))), .val (.int (Int32.ofNat (a))), .val (.int (Int32.ofNat (b))), .val (.int (Int32.ofNat (a + b))), .val (.ref b7), .val (.ref b8), .val (.ref b9), .val (.ref b20), .val (.int (1 : Int32)), .val (.int (if 0 + a < z then (0 : Int32) else 1)), .val (.int (if 0 + a + b < z then (0 : Int32) else 1)), .val (.ref b42), .unset]) rfl (XS.aload X42.here hx rfl (hb hby at_294) rfl rfl kq))) ?_
        obtain ⟨co50, Aro50, hszo50, hato50⟩ := id V42b
        refine own_to T42 (mkF m 297 #[.val (.int i0), .val (.long q1), .second, .val (.int (Int32.ofNat (z))), .val (.int (Int32.ofNat (a))), .val (.int (Int32.ofNat (b))), .val (.int (Int32.ofNat (a + b))), .val (.ref b7), .val (.ref b8), .val (.ref b9), .val (.ref b20), .val (.int (1 : Int32)), .val (.int (if 0 + a < z then (0 : Int32) else 1)), .val (.int (if 0 + a + b < z then (0 : Int32) else 1)), .val (.ref b42), .unset] [(.int (co50.slots.size.toInt32))]) (fun tq kq => X42.arraylength hx Aro50.1 (State.isArrayOf_alike hZ.alike Aro50.2.1) (g := (mkF m 296 #[.val (.int i0), .val (.long q1), .second, .val (.int (Int32.ofNat (z))), .val (.int (Int32.ofNat (a))), .val (.int (Int32.ofNat (b))), .val (.int (Int32.ofNat (a + b))), .val (.ref b7), .val (.ref b8), .val (.ref b9), .val (.ref b20), .val (.int (1 : Int32)), .val (.int (if 0 + a < z then (0 : Int32) else 1)), .val (.int (if 0 + a + b < z then (0 : Int32) else 1)), .val (.ref b42), .unset] [(.ref b42)])) rfl rfl (hb hby at_296) _ kq) ?_
        rw [show co50.slots.size.toInt32 = Int32.ofNat (z) from by rw [hszo50] <;> rfl]
        refine own_to T42 (mkF m 307 #[.val (.int i0), .val (.long q1), .second, .val (.int (Int32.ofNat (z))), .val (.int (Int32.ofNat (a))), .val (.int (Int32.ofNat (b))), .val (.int (Int32.ofNat (a + b))), .val (.ref b7), .val (.ref b8), .val (.ref b9), .val (.ref b20), .val (.int (1 : Int32)), .val (.int (if 0 + a < z then (0 : Int32) else 1)), .val (.int (if 0 + a + b < z then (0 : Int32) else 1)), .val (.ref b42), .unset] [(.int ((Int32.ofNat (a + b)) - (Int32.ofNat (z))))]) (fun tq kq => XS.iloadN X42.here hx rfl (hb hby at_297) rfl (XS.icmpYes X42.here hx rfl (pc0 := 298) (pc' := 303) rfl (hb hby at_298) rfl (teq (rfl : (Int32.ofNat (z)) = (Int32.ofNat (z)))).1 (by decide) (by decide) (XS.iload X42.here hx rfl (hb hby at_303) rfl (XS.iloadN X42.here hx rfl (hb hby at_305) rfl (XS.isub X42.here hx rfl (hb hby at_306) rfl kq))))) ?_
        rw [show ((Int32.ofNat (a + b)) - (Int32.ofNat (z))) = (Int32.ofNat (a + b - z)) from own_subn (a + b) z hfull (by omega)]
        refine own_to T42 (mkF m 317 #[.val (.int i0), .val (.long q1), .second, .val (.int (Int32.ofNat (z))), .val (.int (Int32.ofNat (a))), .val (.int (Int32.ofNat (b))), .val (.int (Int32.ofNat (a + b))), .val (.ref b7), .val (.ref b8), .val (.ref b9), .val (.ref b20), .val (.int (1 : Int32)), .val (.int (if 0 + a < z then (0 : Int32) else 1)), .val (.int (if 0 + a + b < z then (0 : Int32) else 1)), .val (.ref b42), .val (.int (Int32.ofNat (a + b - z)))] [(.int (Int32.ofNat (z))), (.int (0 : Int32)), (.int (Int32.ofNat (a + b - z))), (.ref b7), (.ref b42)]) (fun tq kq => XS.istore X42.here hx rfl (hb hby at_307) rfl (l' := #[.val (.int i0), .val (.long q1), .second, .val (.int (Int32.ofNat (z))), .val (.int (Int32.ofNat (a))), .val (.int (Int32.ofNat (b))), .val (.int (Int32.ofNat (a + b))), .val (.ref b7), .val (.ref b8), .val (.ref b9), .val (.ref b20), .val (.int (1 : Int32)), .val (.int (if 0 + a < z then (0 : Int32) else 1)), .val (.int (if 0 + a + b < z then (0 : Int32) else 1)), .val (.ref b42), .val (.int (Int32.ofNat (a + b - z)))]) rfl (XS.aload X42.here hx rfl (hb hby at_309) rfl rfl (XS.aload X42.here hx rfl (hb hby at_311) rfl rfl (XS.iload X42.here hx rfl (hb hby at_313) rfl (XS.iconst X42.here hx rfl (hb hby at_315) (XS.iloadN X42.here hx rfl (hb hby at_316) rfl kq)))))) ?_
        obtain ⟨_, _, ⟨T51, L51, k51, n51⟩, -, X51, ⟨Lc51, hQ51, l51, y51, z51⟩, st51⟩ := Jvm.LawKit.callS X42 hx (y := (⟨"com/example/tidemark/tidemark/policy/RateWindowAddPinLaw", "at", "([D[DIII)Z"⟩ : MethodName)) hown (mvT hZ (own_w hw 34 rfl)) (mvT hZ (own_w hw 35 rfl)) (mvT hZ (own_w hw 3 rfl)) (mvT hZ (own_w hw 36 rfl)) (by decide) (backOf (W := 0) (rmAt l Z a0 hw [] b42 b7 (a + b - z) 0 z r42 fv T42.heap n0 Zs42 V42b f43 (by omega) (by decide) hz4 (own_atc hr42 R36' hfull (by omega) hnn)) hZ (own_w hw 36 rfl) (own_w hw 3 rfl) (by decide) (by decide)) (g := (mkF m 317 #[.val (.int i0), .val (.long q1), .second, .val (.int (Int32.ofNat (z))), .val (.int (Int32.ofNat (a))), .val (.int (Int32.ofNat (b))), .val (.int (Int32.ofNat (a + b))), .val (.ref b7), .val (.ref b8), .val (.ref b9), .val (.ref b20), .val (.int (1 : Int32)), .val (.int (if 0 + a < z then (0 : Int32) else 1)), .val (.int (if 0 + a + b < z then (0 : Int32) else 1)), .val (.ref b42), .val (.int (Int32.ofNat (a + b - z)))] [(.int (Int32.ofNat (z))), (.int (0 : Int32)), (.int (Int32.ofNat (a + b - z))), (.ref b7), (.ref b42)])) rfl (by rw [hml]; rfl) (argsL := [(.ref b42), (.ref b7), (.int (Int32.ofNat (a + b - z))), (.int (0 : Int32)), (.int (Int32.ofNat (z)))]) (rest := []) (lenOf pd_6 rfl) rfl (by show 2 * 0 + _ ≤ _; exact Nat.le_of_eq rfl) (hb hby at_317) (fun _ _ => ⟨rfl, rfl, (by decide : 6 + 0 ≤ _), (by decide : 22 + 0 ≤ _)⟩)
        dsimp only [Pt.U, Pt.locs, Pt.cells, Pt.slots] at X51 l51 y51 z51 st51 hQ51
        subst l51 y51 z51
        obtain ⟨rfl, N51q, e51⟩ := hQ51
        have N51 := Fr.app N42 N51q
        refine own_to T51 (mkF m 331 #[.val (.int i0), .val (.long q1), .second, .val (.int (Int32.ofNat (z))), .val (.int (Int32.ofNat (a))), .val (.int (Int32.ofNat (b))), .val (.int (Int32.ofNat (a + b))), .val (.ref b7), .val (.ref b8), .val (.ref b9), .val (.ref b20), .val (.int (1 : Int32)), .val (.int (if 0 + a < z then (0 : Int32) else 1)), .val (.int (if 0 + a + b < z then (0 : Int32) else 1)), .val (.ref b42), .val (.int (Int32.ofNat (a + b - z)))] [(.int (Int32.ofNat (z))), (.int (1 : Int32)), (.int (Int32.ofNat (a + b - z))), (.ref b7), (.ref b42)]) (fun tq kq => st51 _ (XS.ifNo X51.here hx rfl (hb hby at_320) rfl ((if0 _ _).trans (feq (by decide : ¬ ((1 : Int32) = (0 : Int32)))).1) (XS.aload X51.here hx rfl (hb hby at_323) rfl rfl (XS.aload X51.here hx rfl (hb hby at_325) rfl rfl (XS.iload X51.here hx rfl (hb hby at_327) rfl (XS.iconst X51.here hx rfl (hb hby at_329) (XS.iloadN X51.here hx rfl (hb hby at_330) rfl kq))))))) ?_
        obtain ⟨_, _, ⟨T52, L52, k52, n52⟩, -, X52, ⟨Lc52, hQ52, l52, y52, z52⟩, st52⟩ := Jvm.LawKit.callS X51 hx (y := (⟨"com/example/tidemark/tidemark/policy/RateWindowAddPinLaw", "at", "([D[DIII)Z"⟩ : MethodName)) hown (mvT hZ (own_w hw 34 rfl)) (mvT hZ (own_w hw 35 rfl)) (mvT hZ (own_w hw 3 rfl)) (mvT hZ (own_w hw 36 rfl)) (by decide) (backOf (W := 0) (rmAt l Z a0 hw [] b42 b7 (a + b - z) 1 z r42 fv T42.heap n0 Zs42 V42b f43 (by omega) (by decide) hz4 (own_atc hr42 R36' hfull (by omega) hnn)) hZ (own_w hw 36 rfl) (own_w hw 3 rfl) (by decide) (by decide)) (g := (mkF m 331 #[.val (.int i0), .val (.long q1), .second, .val (.int (Int32.ofNat (z))), .val (.int (Int32.ofNat (a))), .val (.int (Int32.ofNat (b))), .val (.int (Int32.ofNat (a + b))), .val (.ref b7), .val (.ref b8), .val (.ref b9), .val (.ref b20), .val (.int (1 : Int32)), .val (.int (if 0 + a < z then (0 : Int32) else 1)), .val (.int (if 0 + a + b < z then (0 : Int32) else 1)), .val (.ref b42), .val (.int (Int32.ofNat (a + b - z)))] [(.int (Int32.ofNat (z))), (.int (1 : Int32)), (.int (Int32.ofNat (a + b - z))), (.ref b7), (.ref b42)])) rfl (by rw [hml]; rfl) (argsL := [(.ref b42), (.ref b7), (.int (Int32.ofNat (a + b - z))), (.int (1 : Int32)), (.int (Int32.ofNat (z)))]) (rest := []) (lenOf pd_6 rfl) rfl (by show 2 * 0 + _ ≤ _; exact Nat.le_of_eq rfl) (hb hby at_331) (fun _ _ => ⟨rfl, e51, (by decide : 6 + 0 ≤ _), (by decide : 22 + 0 ≤ _)⟩)
        dsimp only [Pt.U, Pt.locs, Pt.cells, Pt.slots] at X52 l52 y52 z52 st52 hQ52
        subst l52 y52 z52
        obtain ⟨rfl, N52q, e52⟩ := hQ52
        have N52 := Fr.app N51 N52q
        refine own_to T52 (mkF m 345 #[.val (.int i0), .val (.long q1), .second, .val (.int (Int32.ofNat (z))), .val (.int (Int32.ofNat (a))), .val (.int (Int32.ofNat (b))), .val (.int (Int32.ofNat (a + b))), .val (.ref b7), .val (.ref b8), .val (.ref b9), .val (.ref b20), .val (.int (1 : Int32)), .val (.int (if 0 + a < z then (0 : Int32) else 1)), .val (.int (if 0 + a + b < z then (0 : Int32) else 1)), .val (.ref b42), .val (.int (Int32.ofNat (a + b - z)))] [(.int (Int32.ofNat (z))), (.int (2 : Int32)), (.int (Int32.ofNat (a + b - z))), (.ref b7), (.ref b42)]) (fun tq kq => st52 _ (XS.ifNo X52.here hx rfl (hb hby at_334) rfl ((if0 _ _).trans (feq (by decide : ¬ ((1 : Int32) = (0 : Int32)))).1) (XS.aload X52.here hx rfl (hb hby at_337) rfl rfl (XS.aload X52.here hx rfl (hb hby at_339) rfl rfl (XS.iload X52.here hx rfl (hb hby at_341) rfl (XS.iconst X52.here hx rfl (hb hby at_343) (XS.iloadN X52.here hx rfl (hb hby at_344) rfl kq))))))) ?_
        obtain ⟨_, _, ⟨T53, L53, k53, n53⟩, -, X53, ⟨Lc53, hQ53, l53, y53, z53⟩, st53⟩ := Jvm.LawKit.callS X52 hx (y := (⟨"com/example/tidemark/tidemark/policy/RateWindowAddPinLaw", "at", "([D[DIII)Z"⟩ : MethodName)) hown (mvT hZ (own_w hw 34 rfl)) (mvT hZ (own_w hw 35 rfl)) (mvT hZ (own_w hw 3 rfl)) (mvT hZ (own_w hw 36 rfl)) (by decide) (backOf (W := 0) (rmAt l Z a0 hw [] b42 b7 (a + b - z) 2 z r42 fv T42.heap n0 Zs42 V42b f43 (by omega) (by decide) hz4 (own_atc hr42 R36' hfull (by omega) hnn)) hZ (own_w hw 36 rfl) (own_w hw 3 rfl) (by decide) (by decide)) (g := (mkF m 345 #[.val (.int i0), .val (.long q1), .second, .val (.int (Int32.ofNat (z))), .val (.int (Int32.ofNat (a))), .val (.int (Int32.ofNat (b))), .val (.int (Int32.ofNat (a + b))), .val (.ref b7), .val (.ref b8), .val (.ref b9), .val (.ref b20), .val (.int (1 : Int32)), .val (.int (if 0 + a < z then (0 : Int32) else 1)), .val (.int (if 0 + a + b < z then (0 : Int32) else 1)), .val (.ref b42), .val (.int (Int32.ofNat (a + b - z)))] [(.int (Int32.ofNat (z))), (.int (2 : Int32)), (.int (Int32.ofNat (a + b - z))), (.ref b7), (.ref b42)])) rfl (by rw [hml]; rfl) (argsL := [(.ref b42), (.ref b7), (.int (Int32.ofNat (a + b - z))), (.int (2 : Int32)), (.int (Int32.ofNat (z)))]) (rest := []) (lenOf pd_6 rfl) rfl (by show 2 * 0 + _ ≤ _; exact Nat.le_of_eq rfl) (hb hby at_345) (fun _ _ => ⟨rfl, e52, (by decide : 6 + 0 ≤ _), (by decide : 22 + 0 ≤ _)⟩)
        dsimp only [Pt.U, Pt.locs, Pt.cells, Pt.slots] at X53 l53 y53 z53 st53 hQ53
        subst l53 y53 z53
        obtain ⟨rfl, N53q, e53⟩ := hQ53
        have N53 := Fr.app N52 N53q
        refine own_to T53 (mkF m 359 #[.val (.int i0), .val (.long q1), .second, .val (.int (Int32.ofNat (z))), .val (.int (Int32.ofNat (a))), .val (.int (Int32.ofNat (b))), .val (.int (Int32.ofNat (a + b))), .val (.ref b7), .val (.ref b8), .val (.ref b9), .val (.ref b20), .val (.int (1 : Int32)), .val (.int (if 0 + a < z then (0 : Int32) else 1)), .val (.int (if 0 + a + b < z then (0 : Int32) else 1)), .val (.ref b42), .val (.int (Int32.ofNat (a + b - z)))] [(.int (Int32.ofNat (z))), (.int (3 : Int32)), (.int (Int32.ofNat (a + b - z))), (.ref b7), (.ref b42)]) (fun tq kq => st53 _ (XS.ifNo X53.here hx rfl (hb hby at_348) rfl ((if0 _ _).trans (feq (by decide : ¬ ((1 : Int32) = (0 : Int32)))).1) (XS.aload X53.here hx rfl (hb hby at_351) rfl rfl (XS.aload X53.here hx rfl (hb hby at_353) rfl rfl (XS.iload X53.here hx rfl (hb hby at_355) rfl (XS.iconst X53.here hx rfl (hb hby at_357) (XS.iloadN X53.here hx rfl (hb hby at_358) rfl kq))))))) ?_
        obtain ⟨_, _, ⟨T54, L54, k54, n54⟩, -, X54, ⟨Lc54, hQ54, l54, y54, z54⟩, st54⟩ := Jvm.LawKit.callS X53 hx (y := (⟨"com/example/tidemark/tidemark/policy/RateWindowAddPinLaw", "at", "([D[DIII)Z"⟩ : MethodName)) hown (mvT hZ (own_w hw 34 rfl)) (mvT hZ (own_w hw 35 rfl)) (mvT hZ (own_w hw 3 rfl)) (mvT hZ (own_w hw 36 rfl)) (by decide) (backOf (W := 0) (rmAt l Z a0 hw [] b42 b7 (a + b - z) 3 z r42 fv T42.heap n0 Zs42 V42b f43 (by omega) (by decide) hz4 (own_atc hr42 R36' hfull (by omega) hnn)) hZ (own_w hw 36 rfl) (own_w hw 3 rfl) (by decide) (by decide)) (g := (mkF m 359 #[.val (.int i0), .val (.long q1), .second, .val (.int (Int32.ofNat (z))), .val (.int (Int32.ofNat (a))), .val (.int (Int32.ofNat (b))), .val (.int (Int32.ofNat (a + b))), .val (.ref b7), .val (.ref b8), .val (.ref b9), .val (.ref b20), .val (.int (1 : Int32)), .val (.int (if 0 + a < z then (0 : Int32) else 1)), .val (.int (if 0 + a + b < z then (0 : Int32) else 1)), .val (.ref b42), .val (.int (Int32.ofNat (a + b - z)))] [(.int (Int32.ofNat (z))), (.int (3 : Int32)), (.int (Int32.ofNat (a + b - z))), (.ref b7), (.ref b42)])) rfl (by rw [hml]; rfl) (argsL := [(.ref b42), (.ref b7), (.int (Int32.ofNat (a + b - z))), (.int (3 : Int32)), (.int (Int32.ofNat (z)))]) (rest := []) (lenOf pd_6 rfl) rfl (by show 2 * 0 + _ ≤ _; exact Nat.le_of_eq rfl) (hb hby at_359) (fun _ _ => ⟨rfl, e53, (by decide : 6 + 0 ≤ _), (by decide : 22 + 0 ≤ _)⟩)
        dsimp only [Pt.U, Pt.locs, Pt.cells, Pt.slots] at X54 l54 y54 z54 st54 hQ54
        subst l54 y54 z54
        obtain ⟨rfl, N54q, e54⟩ := hQ54
        have N54 := Fr.app N53 N54q
        refine own_to T54 (mkF m 370 #[.val (.int i0), .val (.long q1), .second, .val (.int (Int32.ofNat (z))), .val (.int (Int32.ofNat (a))), .val (.int (Int32.ofNat (b))), .val (.int (Int32.ofNat (a + b))), .val (.ref b7), .val (.ref b8), .val (.ref b9), .val (.ref b20), .val (.int (1 : Int32)), .val (.int (if 0 + a < z then (0 : Int32) else 1)), .val (.int (if 0 + a + b < z then (0 : Int32) else 1)), .val (.ref b42), .val (.int (Int32.ofNat (a + b - z)))] [(.int (1 : Int32))]) (fun tq kq => st54 _ (XS.ifNo X54.here hx rfl (hb hby at_362) rfl ((if0 _ _).trans (feq (by decide : ¬ ((1 : Int32) = (0 : Int32)))).1) (XS.iconst X54.here hx rfl (hb hby at_365) (XS.goto X54.here hx rfl (pc0 := 366) (pc' := 370) rfl (hb hby at_366) (by decide) (by decide) kq)))) ?_
        exact own_retZ X54 hx hret hlk (hb hby at_370) (by decide) (by decide) (Or.inr rfl) ⟨rfl, N54⟩
    · skip
      refine own_to T41 (mkF m 267 #[.val (.int i0), .val (.long q1), .second, .val (.int (Int32.ofNat (z))), .val (.int (Int32.ofNat (a))), .val (.int (Int32.ofNat (b))), .val (.int (Int32.ofNat (a + b))), .val (.ref b7), .val (.ref b8), .val (.ref b9), .val (.ref b20), .val (.int (1 : Int32)), .val (.int (if 0 + a < z then (0 : Int32) else 1)), .val (.int (if 0 + a + b < z then (0 : Int32) else 1)), .unset, .unset] [(.int (Int32.ofNat (z))), (.int (Int32.ofNat (a + b))), (.int (if 0 + a + b < z then (0 : Int32) else 1))]) (fun tq kq => XS.icmpNo X41.here hx rfl (hb hby at_251) rfl (flt c251).1 (XS.iconst X41.here hx rfl (hb hby at_254) (XS.goto X41.here hx rfl (pc0 := 255) (pc' := 259) rfl (hb hby at_255) (by decide) (by decide) (XS.icmpNo X41.here hx rfl (hb hby at_259) rfl (teq (by rw [show (0 + a) = a by omega]; exact if_neg (mt (own_ltn (by omega) (by omega)).mpr c251))).2 (XS.iload X41.here hx rfl (hb hby at_262) rfl (XS.iload X41.here hx rfl (hb hby at_264) rfl (XS.iloadN X41.here hx rfl (hb hby at_266) rfl kq))))))) ?_
      by_cases c267 : (Int32.ofNat (a + b)) < (Int32.ofNat (z))
      · skip
        refine own_to T41 (mkF m 286 #[.val (.int i0), .val (.long q1), .second, .val (.int (Int32.ofNat (z))), .val (.int (Int32.ofNat (a))), .val (.int (Int32.ofNat (b))), .val (.int (Int32.ofNat (a + b))), .val (.ref b7), .val (.ref b8), .val (.ref b9), .val (.ref b20), .val (.int (1 : Int32)), .val (.int (if 0 + a < z then (0 : Int32) else 1)), .val (.int (if 0 + a + b < z then (0 : Int32) else 1)), .unset, .unset] [(.int (1 : Int32))]) (fun tq kq => XS.icmpYes X41.here hx rfl (pc0 := 267) (pc' := 274) rfl (hb hby at_267) rfl (tlt c267).1 (by decide) (by decide) (XS.iconst X41.here hx rfl (hb hby at_274) (XS.icmpYes X41.here hx rfl (pc0 := 275) (pc' := 280) rfl (hb hby at_275) rfl (teq (by rw [show (0 + a + b) = a + b by omega]; exact if_pos ((own_ltn (by omega) (by omega)).mp c267))).1 (by decide) (by decide) (XS.iload X41.here hx rfl (hb hby at_280) rfl (XS.ifNo X41.here hx rfl (hb hby at_282) rfl ((if0 _ _).trans (teq (by rw [show (0 + a + b) = a + b by omega]; exact if_pos ((own_ltn (by omega) (by omega)).mp c267))).2) (XS.iconst X41.here hx rfl (hb hby at_285) kq)))))) ?_
        exact own_retZ X41 hx hret hlk (hb hby at_286) (by decide) (by decide) (Or.inr rfl) ⟨rfl, N41⟩
      · skip
        refine own_to T41 (mkF m 287 #[.val (.int i0), .val (.long q1), .second, .val (.int (Int32.ofNat (z))), .val (.int (Int32.ofNat (a))), .val (.int (Int32.ofNat (b))), .val (.int (Int32.ofNat (a + b))), .val (.ref b7), .val (.ref b8), .val (.ref b9), .val (.ref b20), .val (.int (1 : Int32)), .val (.int (if 0 + a < z then (0 : Int32) else 1)), .val (.int (if 0 + a + b < z then (0 : Int32) else 1)), .unset, .unset] []) (fun tq kq => XS.icmpNo X41.here hx rfl (hb hby at_267) rfl (flt c267).1 (XS.iconst X41.here hx rfl (hb hby at_270) (XS.goto X41.here hx rfl (pc0 := 271) (pc' := 275) rfl (hb hby at_271) (by decide) (by decide) (XS.icmpYes X41.here hx rfl (pc0 := 275) (pc' := 280) rfl (hb hby at_275) rfl (teq (by rw [show (0 + a + b) = a + b by omega]; exact if_neg (mt (own_ltn (by omega) (by omega)).mpr c267))).1 (by decide) (by decide) (XS.iload X41.here hx rfl (hb hby at_280) rfl (XS.ifYes X41.here hx rfl (pc0 := 282) (pc' := 287) rfl (hb hby at_282) rfl ((if0 _ _).trans (feq (by rw [show (0 + a + b) = a + b by omega, if_neg (mt (own_ltn (by omega) (by omega)).mpr c267)]; decide)).2) (by decide) (by decide) kq)))))) ?_
        have hfull : z ≤ a + b := by have := mt (own_ltn (a := a + b) (b := z) (by omega) (by omega)).mpr c267; omega
        refine own_to T41 (mkF m 289 #[.val (.int i0), .val (.long q1), .second, .val (.int (Int32.ofNat (z))), .val (.int (Int32.ofNat (a))), .val (.int (Int32.ofNat (b))), .val (.int (Int32.ofNat (a + b))), .val (.ref b7), .val (.ref b8), .val (.ref b9), .val (.ref b20), .val (.int (1 : Int32)), .val (.int (if 0 + a < z then (0 : Int32) else 1)), .val (.int (if 0 + a + b < z then (0 : Int32) else 1)), .unset, .unset] [(.ref b20)]) (fun tq kq => XS.aload X41.here hx rfl (hb hby at_287) rfl rfl kq) ?_
        obtain ⟨cq55, kq55, q55a, q55b, q55c⟩ := isOf hZ e41 E36q
        obtain ⟨_, _, ⟨T55, L55, k55, n55⟩, -, X55, ⟨Lc55, hQ55, l55, y55, z55⟩, st55⟩ := X41.virtualBack hx (y := (⟨"com/example/tidemark/tidemark/policy/RateWindow", "rates", "()[D"⟩ : MethodName)) (z := (⟨"com/example/tidemark/tidemark/policy/RateWindow", "rates", "()[D"⟩ : MethodName)) hown (mvT hZ (own_w hw 29 rfl)) (mvT hZ (own_w hw 30 rfl)) (notFace_of_selects (args := #[]) (mvT hZ (own_w hw 32 rfl))) (mvT hZ (own_w hw 32 rfl)) (mvT hZ (own_w hw 31 rfl)) (by decide) (backOf (W := 0) (rmR l Z a0 hw [] b20 rc24 (0 + a + b) z g36 T36.heap n0 Zs36 F36a F36b V36a hz hz4 (by omega)) hZ (own_w hw 33 rfl) (own_w hw 8 rfl) (by decide) (by decide)) q55a q55c (g := (mkF m 289 #[.val (.int i0), .val (.long q1), .second, .val (.int (Int32.ofNat (z))), .val (.int (Int32.ofNat (a))), .val (.int (Int32.ofNat (b))), .val (.int (Int32.ofNat (a + b))), .val (.ref b7), .val (.ref b8), .val (.ref b9), .val (.ref b20), .val (.int (1 : Int32)), .val (.int (if 0 + a < z then (0 : Int32) else 1)), .val (.int (if 0 + a + b < z then (0 : Int32) else 1)), .unset, .unset] [(.ref b20)])) rfl (by rw [hml]; rfl) (Steps.refl _) (argsL := []) (rest := []) (lenOf pd_5 rfl) rfl (by show 2 * 0 + _ ≤ _; exact Nat.le_of_eq rfl) (hb hby at_289) (fun _ _ => ⟨rfl, e41, (by decide : 5 + 1 ≤ _), (by decide : 18 + 4 ≤ _)⟩)
        dsimp only [Pt.U, Pt.locs, Pt.cells, Pt.slots] at X55 l55 y55 z55 st55 hQ55
        subst l55 y55 z55
        obtain ⟨b55, r55, rfl, N55q, K55q, gb55, V55b, hr55⟩ := hQ55
        have N55 := Fr.app N41 N55q
        have f56 := f37.keep K55q nin0
        have f57 := f38.keep K55q nin0
        have f58 := f39.keep K55q nin0
        have f59 := E36q.keep K55q
        have f60 := F36a.keep K55q nin0
        have f61 := F36b.keep K55q nin0
        have f62 := V36a.keep K55q nin0
        have Zs55 : n0 ≤ T55.heap.size := Nat.le_trans Zs36 K55q.1
        refine own_to T55 (mkF m 296 #[.val (.int i0), .val (.long q1), .second, .val (.int (Int32.ofNat (z))), .val (.int (Int32.ofNat (a))), .val (.int (Int32.ofNat (b))), .val (.int (Int32.ofNat (a + b))), .val (.ref b7), .val (.ref b8), .val (.ref b9), .val (.ref b20), .val (.int (1 : Int32)), .val (.int (if 0 + a < z then (0 : Int32) else 1)), .val (.int (if 0 + a + b < z then (0 : Int32) else 1)), .val (.ref b55), .unset] [(.ref b55)]) (fun tq kq => st55.trans (XS.astore X55.here hx rfl (hb hby at_292) rfl rfl (l' := #[.val (.int i0), .val (.long q1), .second, .val (.int (Int32.ofNat (z))), .val (.int (Int32.ofNat (a))), .val (.int (Int32.ofNat (b))), .val (.int (Int32.ofNat (a + b))), .val (.ref b7), .val (.ref b8), .val (.ref b9), .val (.ref b20), .val (.int (1 : Int32)), .val (.int (if 0 + a < z then (0 : Int32) else 1)), .val (.int (if 0 + a + b < z then (0 : Int32) else 1)), .val (.ref b55), .unset]) rfl (XS.aload X55.here hx rfl (hb hby at_294) rfl rfl kq))) ?_
        obtain ⟨co63, Aro63, hszo63, hato63⟩ := id V55b
        refine own_to T55 (mkF m 297 #[.val (.int i0), .val (.long q1), .second, .val (.int (Int32.ofNat (z))), .val (.int (Int32.ofNat (a))), .val (.int (Int32.ofNat (b))), .val (.int (Int32.ofNat (a + b))), .val (.ref b7), .val (.ref b8), .val (.ref b9), .val (.ref b20), .val (.int (1 : Int32)), .val (.int (if 0 + a < z then (0 : Int32) else 1)), .val (.int (if 0 + a + b < z then (0 : Int32) else 1)), .val (.ref b55), .unset] [(.int (co63.slots.size.toInt32))]) (fun tq kq => X55.arraylength hx Aro63.1 (State.isArrayOf_alike hZ.alike Aro63.2.1) (g := (mkF m 296 #[.val (.int i0), .val (.long q1), .second, .val (.int (Int32.ofNat (z))), .val (.int (Int32.ofNat (a))), .val (.int (Int32.ofNat (b))), .val (.int (Int32.ofNat (a + b))), .val (.ref b7), .val (.ref b8), .val (.ref b9), .val (.ref b20), .val (.int (1 : Int32)), .val (.int (if 0 + a < z then (0 : Int32) else 1)), .val (.int (if 0 + a + b < z then (0 : Int32) else 1)), .val (.ref b55), .unset] [(.ref b55)])) rfl rfl (hb hby at_296) _ kq) ?_
        rw [show co63.slots.size.toInt32 = Int32.ofNat (z) from by rw [hszo63] <;> rfl]
        refine own_to T55 (mkF m 307 #[.val (.int i0), .val (.long q1), .second, .val (.int (Int32.ofNat (z))), .val (.int (Int32.ofNat (a))), .val (.int (Int32.ofNat (b))), .val (.int (Int32.ofNat (a + b))), .val (.ref b7), .val (.ref b8), .val (.ref b9), .val (.ref b20), .val (.int (1 : Int32)), .val (.int (if 0 + a < z then (0 : Int32) else 1)), .val (.int (if 0 + a + b < z then (0 : Int32) else 1)), .val (.ref b55), .unset] [(.int ((Int32.ofNat (a + b)) - (Int32.ofNat (z))))]) (fun tq kq => XS.iloadN X55.here hx rfl (hb hby at_297) rfl (XS.icmpYes X55.here hx rfl (pc0 := 298) (pc' := 303) rfl (hb hby at_298) rfl (teq (rfl : (Int32.ofNat (z)) = (Int32.ofNat (z)))).1 (by decide) (by decide) (XS.iload X55.here hx rfl (hb hby at_303) rfl (XS.iloadN X55.here hx rfl (hb hby at_305) rfl (XS.isub X55.here hx rfl (hb hby at_306) rfl kq))))) ?_
        rw [show ((Int32.ofNat (a + b)) - (Int32.ofNat (z))) = (Int32.ofNat (a + b - z)) from own_subn (a + b) z hfull (by omega)]
        refine own_to T55 (mkF m 317 #[.val (.int i0), .val (.long q1), .second, .val (.int (Int32.ofNat (z))), .val (.int (Int32.ofNat (a))), .val (.int (Int32.ofNat (b))), .val (.int (Int32.ofNat (a + b))), .val (.ref b7), .val (.ref b8), .val (.ref b9), .val (.ref b20), .val (.int (1 : Int32)), .val (.int (if 0 + a < z then (0 : Int32) else 1)), .val (.int (if 0 + a + b < z then (0 : Int32) else 1)), .val (.ref b55), .val (.int (Int32.ofNat (a + b - z)))] [(.int (Int32.ofNat (z))), (.int (0 : Int32)), (.int (Int32.ofNat (a + b - z))), (.ref b7), (.ref b55)]) (fun tq kq => XS.istore X55.here hx rfl (hb hby at_307) rfl (l' := #[.val (.int i0), .val (.long q1), .second, .val (.int (Int32.ofNat (z))), .val (.int (Int32.ofNat (a))), .val (.int (Int32.ofNat (b))), .val (.int (Int32.ofNat (a + b))), .val (.ref b7), .val (.ref b8), .val (.ref b9), .val (.ref b20), .val (.int (1 : Int32)), .val (.int (if 0 + a < z then (0 : Int32) else 1)), .val (.int (if 0 + a + b < z then (0 : Int32) else 1)), .val (.ref b55), .val (.int (Int32.ofNat (a + b - z)))]) rfl (XS.aload X55.here hx rfl (hb hby at_309) rfl rfl (XS.aload X55.here hx rfl (hb hby at_311) rfl rfl (XS.iload X55.here hx rfl (hb hby at_313) rfl (XS.iconst X55.here hx rfl (hb hby at_315) (XS.iloadN X55.here hx rfl (hb hby at_316) rfl kq)))))) ?_
        obtain ⟨_, _, ⟨T64, L64, k64, n64⟩, -, X64, ⟨Lc64, hQ64, l64, y64, z64⟩, st64⟩ := Jvm.LawKit.callS X55 hx (y := (⟨"com/example/tidemark/tidemark/policy/RateWindowAddPinLaw", "at", "([D[DIII)Z"⟩ : MethodName)) hown (mvT hZ (own_w hw 34 rfl)) (mvT hZ (own_w hw 35 rfl)) (mvT hZ (own_w hw 3 rfl)) (mvT hZ (own_w hw 36 rfl)) (by decide) (backOf (W := 0) (rmAt l Z a0 hw [] b55 b7 (a + b - z) 0 z r55 fv T55.heap n0 Zs55 V55b f56 (by omega) (by decide) hz4 (own_atc hr55 R36' hfull (by omega) hnn)) hZ (own_w hw 36 rfl) (own_w hw 3 rfl) (by decide) (by decide)) (g := (mkF m 317 #[.val (.int i0), .val (.long q1), .second, .val (.int (Int32.ofNat (z))), .val (.int (Int32.ofNat (a))), .val (.int (Int32.ofNat (b))), .val (.int (Int32.ofNat (a + b))), .val (.ref b7), .val (.ref b8), .val (.ref b9), .val (.ref b20), .val (.int (1 : Int32)), .val (.int (if 0 + a < z then (0 : Int32) else 1)), .val (.int (if 0 + a + b < z then (0 : Int32) else 1)), .val (.ref b55), .val (.int (Int32.ofNat (a + b - z)))] [(.int (Int32.ofNat (z))), (.int (0 : Int32)), (.int (Int32.ofNat (a + b - z))), (.ref b7), (.ref b55)])) rfl (by rw [hml]; rfl) (argsL := [(.ref b55), (.ref b7), (.int (Int32.ofNat (a + b - z))), (.int (0 : Int32)), (.int (Int32.ofNat (z)))]) (rest := []) (lenOf pd_6 rfl) rfl (by show 2 * 0 + _ ≤ _; exact Nat.le_of_eq rfl) (hb hby at_317) (fun _ _ => ⟨rfl, rfl, (by decide : 6 + 0 ≤ _), (by decide : 22 + 0 ≤ _)⟩)
        dsimp only [Pt.U, Pt.locs, Pt.cells, Pt.slots] at X64 l64 y64 z64 st64 hQ64
        subst l64 y64 z64
        obtain ⟨rfl, N64q, e64⟩ := hQ64
        have N64 := Fr.app N55 N64q
        refine own_to T64 (mkF m 331 #[.val (.int i0), .val (.long q1), .second, .val (.int (Int32.ofNat (z))), .val (.int (Int32.ofNat (a))), .val (.int (Int32.ofNat (b))), .val (.int (Int32.ofNat (a + b))), .val (.ref b7), .val (.ref b8), .val (.ref b9), .val (.ref b20), .val (.int (1 : Int32)), .val (.int (if 0 + a < z then (0 : Int32) else 1)), .val (.int (if 0 + a + b < z then (0 : Int32) else 1)), .val (.ref b55), .val (.int (Int32.ofNat (a + b - z)))] [(.int (Int32.ofNat (z))), (.int (1 : Int32)), (.int (Int32.ofNat (a + b - z))), (.ref b7), (.ref b55)]) (fun tq kq => st64 _ (XS.ifNo X64.here hx rfl (hb hby at_320) rfl ((if0 _ _).trans (feq (by decide : ¬ ((1 : Int32) = (0 : Int32)))).1) (XS.aload X64.here hx rfl (hb hby at_323) rfl rfl (XS.aload X64.here hx rfl (hb hby at_325) rfl rfl (XS.iload X64.here hx rfl (hb hby at_327) rfl (XS.iconst X64.here hx rfl (hb hby at_329) (XS.iloadN X64.here hx rfl (hb hby at_330) rfl kq))))))) ?_
        obtain ⟨_, _, ⟨T65, L65, k65, n65⟩, -, X65, ⟨Lc65, hQ65, l65, y65, z65⟩, st65⟩ := Jvm.LawKit.callS X64 hx (y := (⟨"com/example/tidemark/tidemark/policy/RateWindowAddPinLaw", "at", "([D[DIII)Z"⟩ : MethodName)) hown (mvT hZ (own_w hw 34 rfl)) (mvT hZ (own_w hw 35 rfl)) (mvT hZ (own_w hw 3 rfl)) (mvT hZ (own_w hw 36 rfl)) (by decide) (backOf (W := 0) (rmAt l Z a0 hw [] b55 b7 (a + b - z) 1 z r55 fv T55.heap n0 Zs55 V55b f56 (by omega) (by decide) hz4 (own_atc hr55 R36' hfull (by omega) hnn)) hZ (own_w hw 36 rfl) (own_w hw 3 rfl) (by decide) (by decide)) (g := (mkF m 331 #[.val (.int i0), .val (.long q1), .second, .val (.int (Int32.ofNat (z))), .val (.int (Int32.ofNat (a))), .val (.int (Int32.ofNat (b))), .val (.int (Int32.ofNat (a + b))), .val (.ref b7), .val (.ref b8), .val (.ref b9), .val (.ref b20), .val (.int (1 : Int32)), .val (.int (if 0 + a < z then (0 : Int32) else 1)), .val (.int (if 0 + a + b < z then (0 : Int32) else 1)), .val (.ref b55), .val (.int (Int32.ofNat (a + b - z)))] [(.int (Int32.ofNat (z))), (.int (1 : Int32)), (.int (Int32.ofNat (a + b - z))), (.ref b7), (.ref b55)])) rfl (by rw [hml]; rfl) (argsL := [(.ref b55), (.ref b7), (.int (Int32.ofNat (a + b - z))), (.int (1 : Int32)), (.int (Int32.ofNat (z)))]) (rest := []) (lenOf pd_6 rfl) rfl (by show 2 * 0 + _ ≤ _; exact Nat.le_of_eq rfl) (hb hby at_331) (fun _ _ => ⟨rfl, e64, (by decide : 6 + 0 ≤ _), (by decide : 22 + 0 ≤ _)⟩)
        dsimp only [Pt.U, Pt.locs, Pt.cells, Pt.slots] at X65 l65 y65 z65 st65 hQ65
        subst l65 y65 z65
        obtain ⟨rfl, N65q, e65⟩ := hQ65
        have N65 := Fr.app N64 N65q
        refine own_to T65 (mkF m 345 #[.val (.int i0), .val (.long q1), .second, .val (.int (Int32.ofNat (z))), .val (.int (Int32.ofNat (a))), .val (.int (Int32.ofNat (b))), .val (.int (Int32.ofNat (a + b))), .val (.ref b7), .val (.ref b8), .val (.ref b9), .val (.ref b20), .val (.int (1 : Int32)), .val (.int (if 0 + a < z then (0 : Int32) else 1)), .val (.int (if 0 + a + b < z then (0 : Int32) else 1)), .val (.ref b55), .val (.int (Int32.ofNat (a + b - z)))] [(.int (Int32.ofNat (z))), (.int (2 : Int32)), (.int (Int32.ofNat (a + b - z))), (.ref b7), (.ref b55)]) (fun tq kq => st65 _ (XS.ifNo X65.here hx rfl (hb hby at_334) rfl ((if0 _ _).trans (feq (by decide : ¬ ((1 : Int32) = (0 : Int32)))).1) (XS.aload X65.here hx rfl (hb hby at_337) rfl rfl (XS.aload X65.here hx rfl (hb hby at_339) rfl rfl (XS.iload X65.here hx rfl (hb hby at_341) rfl (XS.iconst X65.here hx rfl (hb hby at_343) (XS.iloadN X65.here hx rfl (hb hby at_344) rfl kq))))))) ?_
        obtain ⟨_, _, ⟨T66, L66, k66, n66⟩, -, X66, ⟨Lc66, hQ66, l66, y66, z66⟩, st66⟩ := Jvm.LawKit.callS X65 hx (y := (⟨"com/example/tidemark/tidemark/policy/RateWindowAddPinLaw", "at", "([D[DIII)Z"⟩ : MethodName)) hown (mvT hZ (own_w hw 34 rfl)) (mvT hZ (own_w hw 35 rfl)) (mvT hZ (own_w hw 3 rfl)) (mvT hZ (own_w hw 36 rfl)) (by decide) (backOf (W := 0) (rmAt l Z a0 hw [] b55 b7 (a + b - z) 2 z r55 fv T55.heap n0 Zs55 V55b f56 (by omega) (by decide) hz4 (own_atc hr55 R36' hfull (by omega) hnn)) hZ (own_w hw 36 rfl) (own_w hw 3 rfl) (by decide) (by decide)) (g := (mkF m 345 #[.val (.int i0), .val (.long q1), .second, .val (.int (Int32.ofNat (z))), .val (.int (Int32.ofNat (a))), .val (.int (Int32.ofNat (b))), .val (.int (Int32.ofNat (a + b))), .val (.ref b7), .val (.ref b8), .val (.ref b9), .val (.ref b20), .val (.int (1 : Int32)), .val (.int (if 0 + a < z then (0 : Int32) else 1)), .val (.int (if 0 + a + b < z then (0 : Int32) else 1)), .val (.ref b55), .val (.int (Int32.ofNat (a + b - z)))] [(.int (Int32.ofNat (z))), (.int (2 : Int32)), (.int (Int32.ofNat (a + b - z))), (.ref b7), (.ref b55)])) rfl (by rw [hml]; rfl) (argsL := [(.ref b55), (.ref b7), (.int (Int32.ofNat (a + b - z))), (.int (2 : Int32)), (.int (Int32.ofNat (z)))]) (rest := []) (lenOf pd_6 rfl) rfl (by show 2 * 0 + _ ≤ _; exact Nat.le_of_eq rfl) (hb hby at_345) (fun _ _ => ⟨rfl, e65, (by decide : 6 + 0 ≤ _), (by decide : 22 + 0 ≤ _)⟩)
        dsimp only [Pt.U, Pt.locs, Pt.cells, Pt.slots] at X66 l66 y66 z66 st66 hQ66
        subst l66 y66 z66
        obtain ⟨rfl, N66q, e66⟩ := hQ66
        have N66 := Fr.app N65 N66q
        refine own_to T66 (mkF m 359 #[.val (.int i0), .val (.long q1), .second, .val (.int (Int32.ofNat (z))), .val (.int (Int32.ofNat (a))), .val (.int (Int32.ofNat (b))), .val (.int (Int32.ofNat (a + b))), .val (.ref b7), .val (.ref b8), .val (.ref b9), .val (.ref b20), .val (.int (1 : Int32)), .val (.int (if 0 + a < z then (0 : Int32) else 1)), .val (.int (if 0 + a + b < z then (0 : Int32) else 1)), .val (.ref b55), .val (.int (Int32.ofNat (a + b - z)))] [(.int (Int32.ofNat (z))), (.int (3 : Int32)), (.int (Int32.ofNat (a + b - z))), (.ref b7), (.ref b55)]) (fun tq kq => st66 _ (XS.ifNo X66.here hx rfl (hb hby at_348) rfl ((if0 _ _).trans (feq (by decide : ¬ ((1 : Int32) = (0 : Int32)))).1) (XS.aload X66.here hx rfl (hb hby at_351) rfl rfl (XS.aload X66.here hx rfl (hb hby at_353) rfl rfl (XS.iload X66.here hx rfl (hb hby at_355) rfl (XS.iconst X66.here hx rfl (hb hby at_357) (XS.iloadN X66.here hx rfl (hb hby at_358) rfl kq))))))) ?_
        obtain ⟨_, _, ⟨T67, L67, k67, n67⟩, -, X67, ⟨Lc67, hQ67, l67, y67, z67⟩, st67⟩ := Jvm.LawKit.callS X66 hx (y := (⟨"com/example/tidemark/tidemark/policy/RateWindowAddPinLaw", "at", "([D[DIII)Z"⟩ : MethodName)) hown (mvT hZ (own_w hw 34 rfl)) (mvT hZ (own_w hw 35 rfl)) (mvT hZ (own_w hw 3 rfl)) (mvT hZ (own_w hw 36 rfl)) (by decide) (backOf (W := 0) (rmAt l Z a0 hw [] b55 b7 (a + b - z) 3 z r55 fv T55.heap n0 Zs55 V55b f56 (by omega) (by decide) hz4 (own_atc hr55 R36' hfull (by omega) hnn)) hZ (own_w hw 36 rfl) (own_w hw 3 rfl) (by decide) (by decide)) (g := (mkF m 359 #[.val (.int i0), .val (.long q1), .second, .val (.int (Int32.ofNat (z))), .val (.int (Int32.ofNat (a))), .val (.int (Int32.ofNat (b))), .val (.int (Int32.ofNat (a + b))), .val (.ref b7), .val (.ref b8), .val (.ref b9), .val (.ref b20), .val (.int (1 : Int32)), .val (.int (if 0 + a < z then (0 : Int32) else 1)), .val (.int (if 0 + a + b < z then (0 : Int32) else 1)), .val (.ref b55), .val (.int (Int32.ofNat (a + b - z)))] [(.int (Int32.ofNat (z))), (.int (3 : Int32)), (.int (Int32.ofNat (a + b - z))), (.ref b7), (.ref b55)])) rfl (by rw [hml]; rfl) (argsL := [(.ref b55), (.ref b7), (.int (Int32.ofNat (a + b - z))), (.int (3 : Int32)), (.int (Int32.ofNat (z)))]) (rest := []) (lenOf pd_6 rfl) rfl (by show 2 * 0 + _ ≤ _; exact Nat.le_of_eq rfl) (hb hby at_359) (fun _ _ => ⟨rfl, e66, (by decide : 6 + 0 ≤ _), (by decide : 22 + 0 ≤ _)⟩)
        dsimp only [Pt.U, Pt.locs, Pt.cells, Pt.slots] at X67 l67 y67 z67 st67 hQ67
        subst l67 y67 z67
        obtain ⟨rfl, N67q, e67⟩ := hQ67
        have N67 := Fr.app N66 N67q
        refine own_to T67 (mkF m 370 #[.val (.int i0), .val (.long q1), .second, .val (.int (Int32.ofNat (z))), .val (.int (Int32.ofNat (a))), .val (.int (Int32.ofNat (b))), .val (.int (Int32.ofNat (a + b))), .val (.ref b7), .val (.ref b8), .val (.ref b9), .val (.ref b20), .val (.int (1 : Int32)), .val (.int (if 0 + a < z then (0 : Int32) else 1)), .val (.int (if 0 + a + b < z then (0 : Int32) else 1)), .val (.ref b55), .val (.int (Int32.ofNat (a + b - z)))] [(.int (1 : Int32))]) (fun tq kq => st67 _ (XS.ifNo X67.here hx rfl (hb hby at_362) rfl ((if0 _ _).trans (feq (by decide : ¬ ((1 : Int32) = (0 : Int32)))).1) (XS.iconst X67.here hx rfl (hb hby at_365) (XS.goto X67.here hx rfl (pc0 := 366) (pc' := 370) rfl (hb hby at_366) (by decide) (by decide) kq)))) ?_
        exact own_retZ X67 hx hret hlk (hb hby at_370) (by decide) (by decide) (Or.inr rfl) ⟨rfl, N67⟩
  have J134 : ∀ (T1 : State) (h1 : Heap) (L1 : List Loc) (b8 : Addr) (f1 : Nat → UInt64), Stand p l e room_1 s m #[(.int i0), (.long q1)] below meth c T1 L1 2 9 → T1.heap = h1 → Fr n0 L1 → n0 ≤ h1.size → n0 ≤ b8 → DArr Z h1 b7 6 fv → DArr Z h1 b8 a f1 → (∀ j, j < a → f1 j = fv j) → Own p e below s room_1.cells room_1.slots (Q_rm0 Z i0 q1 h0 n0) T1 (mkF m 134 #[.val (.int i0), .val (.long q1), .second, .val (.int (Int32.ofNat (z))), .val (.int (Int32.ofNat (a))), .val (.int (Int32.ofNat (b))), .val (.int (Int32.ofNat (a + b))), .val (.ref b7), .val (.ref b8), .unset, .unset, .unset, .unset, .unset, .unset, .unset] []) := by
    intro T1 h1 L1 b8 f1 X1 e1 N1 Z1 g8 V7 V8 hf1
    have hb4 : b = 0 ∨ b = 1 ∨ b = 2 ∨ b = 3 := by omega
    rcases hb4 with rfl | rfl | rfl | rfl
    · skip
      refine own_to T1 (mkF m 136 #[.val (.int i0), .val (.long q1), .second, .val (.int (Int32.ofNat (z))), .val (.int (Int32.ofNat (a))), .val (.int (0 : Int32)), .val (.int (Int32.ofNat (a + 0))), .val (.ref b7), .val (.ref b8), .unset, .unset, .unset, .unset, .unset, .unset, .unset] [(.int (0 : Int32))]) (fun tq kq => XS.iload X1.here hx rfl (hb hby at_134) rfl kq) ?_
      obtain ⟨T68, h68, k68, X68, e68, E68, A68, st68⟩ := newP X1 hx hZ (own_w hw 0 rfl) e1 (g := (mkF m 136 #[.val (.int i0), .val (.long q1), .second, .val (.int (Int32.ofNat (z))), .val (.int (Int32.ofNat (a))), .val (.int (0 : Int32)), .val (.int (Int32.ofNat (a + 0))), .val (.ref b7), .val (.ref b8), .unset, .unset, .unset, .unset, .unset, .unset, .unset] [(.int (0 : Int32))])) rfl (hb hby at_136) rfl (by decide) (cap := 3) (by decide) (by decide) (by decide) (by decide)
      obtain ⟨b68, g68⟩ : ∃ z, z = h1.size := ⟨_, rfl⟩
      rw [← g68] at A68 st68
      have ne_b7_b68 : b7 ≠ b68 := Nat.ne_of_lt (Nat.lt_of_lt_of_le V7.lt (Nat.le_of_eq g68.symm))
      have ne_b8_b68 : b8 ≠ b68 := Nat.ne_of_lt (Nat.lt_of_lt_of_le V8.lt (Nat.le_of_eq g68.symm))
      have f69 := V7.ext E68
      have f70 := V8.ext E68
      have sz68 : n0 ≤ b68 := Nat.le_trans Z1 (Nat.le_of_eq g68.symm)
      have Zs68 : n0 ≤ h68.size := Nat.le_trans Z1 E68.1
      have V68 : DArr Z h68 b68 0 (fun _ => 0) := DArr.new A68 (by decide)
      refine own_to T68 (mkF m 188 #[.val (.int i0), .val (.long q1), .second, .val (.int (Int32.ofNat (z))), .val (.int (Int32.ofNat (a))), .val (.int (0 : Int32)), .val (.int (Int32.ofNat (a + 0))), .val (.ref b7), .val (.ref b8), .val (.ref b68), .unset, .unset, .unset, .unset, .unset, .unset] []) (fun tq kq => st68 _ (XS.astore X68.here hx rfl (hb hby at_138) rfl rfl (l' := #[.val (.int i0), .val (.long q1), .second, .val (.int (Int32.ofNat (z))), .val (.int (Int32.ofNat (a))), .val (.int (0 : Int32)), .val (.int (Int32.ofNat (a + 0))), .val (.ref b7), .val (.ref b8), .val (.ref b68), .unset, .unset, .unset, .unset, .unset, .unset]) rfl (XS.iload X68.here hx rfl (hb hby at_140) rfl (XS.ifYes X68.here hx rfl (pc0 := 142) (pc' := 154) rfl (hb hby at_142) rfl ((if0 _ _).trans (flt (by decide : ¬ ((0 : Int32) < (0 : Int32)))).2.2.2) (by decide) (by decide) (XS.iload X68.here hx rfl (hb hby at_154) rfl (XS.iconst X68.here hx rfl (hb hby at_156) (XS.icmpYes X68.here hx rfl (pc0 := 157) (pc' := 171) rfl (hb hby at_157) rfl (flt (by decide : ¬ ((1 : Int32) < (0 : Int32)))).2.2.2 (by decide) (by decide) (XS.iload X68.here hx rfl (hb hby at_171) rfl (XS.iconst X68.here hx rfl (hb hby at_173) (XS.icmpYes X68.here hx rfl (pc0 := 174) (pc' := 188) rfl (hb hby at_174) rfl (flt (by decide : ¬ ((2 : Int32) < (0 : Int32)))).2.2.2 (by decide) (by decide) kq)))))))))) ?_
      exact J188 _ _ _ _ _ _ (fun _ => 0) X68 e68 N1 Zs68 f69 f70 V68 hf1 (fun j hj => absurd hj (Nat.not_lt_zero j))
    · skip
      refine own_to T1 (mkF m 136 #[.val (.int i0), .val (.long q1), .second, .val (.int (Int32.ofNat (z))), .val (.int (Int32.ofNat (a))), .val (.int (1 : Int32)), .val (.int (Int32.ofNat (a + 1))), .val (.ref b7), .val (.ref b8), .unset, .unset, .unset, .unset, .unset, .unset, .unset] [(.int (1 : Int32))]) (fun tq kq => XS.iload X1.here hx rfl (hb hby at_134) rfl kq) ?_
      obtain ⟨T71, h71, k71, X71, e71, E71, A71, st71⟩ := newP X1 hx hZ (own_w hw 0 rfl) e1 (g := (mkF m 136 #[.val (.int i0), .val (.long q1), .second, .val (.int (Int32.ofNat (z))), .val (.int (Int32.ofNat (a))), .val (.int (1 : Int32)), .val (.int (Int32.ofNat (a + 1))), .val (.ref b7), .val (.ref b8), .unset, .unset, .unset, .unset, .unset, .unset, .unset] [(.int (1 : Int32))])) rfl (hb hby at_136) rfl (by decide) (cap := 3) (by decide) (by decide) (by decide) (by decide)
      obtain ⟨b71, g71⟩ : ∃ z, z = h1.size := ⟨_, rfl⟩
      rw [← g71] at A71 st71
      have ne_b7_b71 : b7 ≠ b71 := Nat.ne_of_lt (Nat.lt_of_lt_of_le V7.lt (Nat.le_of_eq g71.symm))
      have ne_b8_b71 : b8 ≠ b71 := Nat.ne_of_lt (Nat.lt_of_lt_of_le V8.lt (Nat.le_of_eq g71.symm))
      have f72 := V7.ext E71
      have f73 := V8.ext E71
      have sz71 : n0 ≤ b71 := Nat.le_trans Z1 (Nat.le_of_eq g71.symm)
      have Zs71 : n0 ≤ h71.size := Nat.le_trans Z1 E71.1
      have V71 : DArr Z h71 b71 1 (fun _ => 0) := DArr.new A71 (by decide)
      refine own_to T71 (mkF m 152 #[.val (.int i0), .val (.long q1), .second, .val (.int (Int32.ofNat (z))), .val (.int (Int32.ofNat (a))), .val (.int (1 : Int32)), .val (.int (Int32.ofNat (a + 1))), .val (.ref b7), .val (.ref b8), .val (.ref b71), .unset, .unset, .unset, .unset, .unset, .unset] [(.int (Int32.ofNat (a))), (.ref b7), (.int (0 : Int32)), (.ref b71)]) (fun tq kq => st71 _ (XS.astore X71.here hx rfl (hb hby at_138) rfl rfl (l' := #[.val (.int i0), .val (.long q1), .second, .val (.int (Int32.ofNat (z))), .val (.int (Int32.ofNat (a))), .val (.int (1 : Int32)), .val (.int (Int32.ofNat (a + 1))), .val (.ref b7), .val (.ref b8), .val (.ref b71), .unset, .unset, .unset, .unset, .unset, .unset]) rfl (XS.iload X71.here hx rfl (hb hby at_140) rfl (XS.ifNo X71.here hx rfl (hb hby at_142) rfl ((if0 _ _).trans (tlt (by decide : (0 : Int32) < (1 : Int32))).2.2.2) (XS.aload X71.here hx rfl (hb hby at_145) rfl rfl (XS.iconst X71.here hx rfl (hb hby at_147) (XS.aload X71.here hx rfl (hb hby at_148) rfl rfl (XS.iload X71.here hx rfl (hb hby at_150) rfl kq)))))))) ?_
      obtain ⟨co74, Aro74, hszo74, hato74⟩ := id f72
      have hino74 : ¬ ((Int32.ofNat (a)) < 0 ∨ co74.slots.size ≤ ((Int32.ofNat (a))).toNatClampNeg) := by rw [hszo74]; exact within rfl (show a < 6 by omega) (by decide)
      have hato74' : co74.slots[((Int32.ofNat (a))).toNatClampNeg]? = some (.double (fv (a))) := by rw [show ((Int32.ofNat (a))).toNatClampNeg = a from clamp_of rfl (by omega)]; exact hato74 _ (by omega)
      refine own_to T71 (mkF m 153 #[.val (.int i0), .val (.long q1), .second, .val (.int (Int32.ofNat (z))), .val (.int (Int32.ofNat (a))), .val (.int (1 : Int32)), .val (.int (Int32.ofNat (a + 1))), .val (.ref b7), .val (.ref b8), .val (.ref b71), .unset, .unset, .unset, .unset, .unset, .unset] [(.double (fv (a))), (.int (0 : Int32)), (.ref b71)]) (fun tq kq => X71.daload hx (j := (Int32.ofNat (a))) (v := (.double (fv (a)))) (by rw [e71]; exact Aro74.1) (State.isArrayOf_alike hZ.alike Aro74.2.1) Aro74.2.2 hino74 hato74' (g := (mkF m 152 #[.val (.int i0), .val (.long q1), .second, .val (.int (Int32.ofNat (z))), .val (.int (Int32.ofNat (a))), .val (.int (1 : Int32)), .val (.int (Int32.ofNat (a + 1))), .val (.ref b7), .val (.ref b8), .val (.ref b71), .unset, .unset, .unset, .unset, .unset, .unset] [(.int (Int32.ofNat (a))), (.ref b7), (.int (0 : Int32)), (.ref b71)])) rfl rfl (hb hby at_152) _ kq) ?_
      obtain ⟨co76, Aro76, hszo76, hato76⟩ := id V71
      obtain ⟨T75, h75, X75, e75, W75, st75⟩ := stD X71 hx hZ e71 Aro76 (j := (0 : Int32)) (by rw [hszo76]; decide) (g := (mkF m 153 #[.val (.int i0), .val (.long q1), .second, .val (.int (Int32.ofNat (z))), .val (.int (Int32.ofNat (a))), .val (.int (1 : Int32)), .val (.int (Int32.ofNat (a + 1))), .val (.ref b7), .val (.ref b8), .val (.ref b71), .unset, .unset, .unset, .unset, .unset, .unset] [(.double (fv (a))), (.int (0 : Int32)), (.ref b71)])) rfl rfl (hb hby at_153)
      have f77 := f72.other W75 ne_b7_b71
      have f78 := f73.other W75 ne_b8_b71
      have N75 := Fr.snoc X75 N1 sz71
      have Zs75 : n0 ≤ h75.size := by rw [W75.size]; exact Zs71
      have V75 := DArr.set Aro76 hszo76 hato76 W75 (by decide : ((0 : Int32)).toNatClampNeg = 0)
      obtain ⟨f75, hf75⟩ : ∃ f', f' = own_upd (fun _ => 0) 0 (fv (a)) := ⟨_, rfl⟩
      rw [← hf75] at V75
      refine own_to T75 (mkF m 188 #[.val (.int i0), .val (.long q1), .second, .val (.int (Int32.ofNat (z))), .val (.int (Int32.ofNat (a))), .val (.int (1 : Int32)), .val (.int (Int32.ofNat (a + 1))), .val (.ref b7), .val (.ref b8), .val (.ref b71), .unset, .unset, .unset, .unset, .unset, .unset] []) (fun tq kq => st75 _ (XS.iload X75.here hx rfl (hb hby at_154) rfl (XS.iconst X75.here hx rfl (hb hby at_156) (XS.icmpYes X75.here hx rfl (pc0 := 157) (pc' := 171) rfl (hb hby at_157) rfl (flt (by decide : ¬ ((1 : Int32) < (1 : Int32)))).2.2.2 (by decide) (by decide) (XS.iload X75.here hx rfl (hb hby at_171) rfl (XS.iconst X75.here hx rfl (hb hby at_173) (XS.icmpYes X75.here hx rfl (pc0 := 174) (pc' := 188) rfl (hb hby at_174) rfl (flt (by decide : ¬ ((2 : Int32) < (1 : Int32)))).2.2.2 (by decide) (by decide) kq))))))) ?_
      exact J188 _ _ _ _ _ _ f75 X75 e75 N75 Zs75 f77 f78 V75 hf1 (fun j hj => by have hj' : j = 0 := (by omega); rcases hj' with rfl <;> simp [hf75, own_upd])
    · skip
      refine own_to T1 (mkF m 136 #[.val (.int i0), .val (.long q1), .second, .val (.int (Int32.ofNat (z))), .val (.int (Int32.ofNat (a))), .val (.int (2 : Int32)), .val (.int (Int32.ofNat (a + 2))), .val (.ref b7), .val (.ref b8), .unset, .unset, .unset, .unset, .unset, .unset, .unset] [(.int (2 : Int32))]) (fun tq kq => XS.iload X1.here hx rfl (hb hby at_134) rfl kq) ?_
      obtain ⟨T79, h79, k79, X79, e79, E79, A79, st79⟩ := newP X1 hx hZ (own_w hw 0 rfl) e1 (g := (mkF m 136 #[.val (.int i0), .val (.long q1), .second, .val (.int (Int32.ofNat (z))), .val (.int (Int32.ofNat (a))), .val (.int (2 : Int32)), .val (.int (Int32.ofNat (a + 2))), .val (.ref b7), .val (.ref b8), .unset, .unset, .unset, .unset, .unset, .unset, .unset] [(.int (2 : Int32))])) rfl (hb hby at_136) rfl (by decide) (cap := 3) (by decide) (by decide) (by decide) (by decide)
      obtain ⟨b79, g79⟩ : ∃ z, z = h1.size := ⟨_, rfl⟩
      rw [← g79] at A79 st79
      have ne_b7_b79 : b7 ≠ b79 := Nat.ne_of_lt (Nat.lt_of_lt_of_le V7.lt (Nat.le_of_eq g79.symm))
      have ne_b8_b79 : b8 ≠ b79 := Nat.ne_of_lt (Nat.lt_of_lt_of_le V8.lt (Nat.le_of_eq g79.symm))
      have f80 := V7.ext E79
      have f81 := V8.ext E79
      have sz79 : n0 ≤ b79 := Nat.le_trans Z1 (Nat.le_of_eq g79.symm)
      have Zs79 : n0 ≤ h79.size := Nat.le_trans Z1 E79.1
      have V79 : DArr Z h79 b79 2 (fun _ => 0) := DArr.new A79 (by decide)
      refine own_to T79 (mkF m 152 #[.val (.int i0), .val (.long q1), .second, .val (.int (Int32.ofNat (z))), .val (.int (Int32.ofNat (a))), .val (.int (2 : Int32)), .val (.int (Int32.ofNat (a + 2))), .val (.ref b7), .val (.ref b8), .val (.ref b79), .unset, .unset, .unset, .unset, .unset, .unset] [(.int (Int32.ofNat (a))), (.ref b7), (.int (0 : Int32)), (.ref b79)]) (fun tq kq => st79 _ (XS.astore X79.here hx rfl (hb hby at_138) rfl rfl (l' := #[.val (.int i0), .val (.long q1), .second, .val (.int (Int32.ofNat (z))), .val (.int (Int32.ofNat (a))), .val (.int (2 : Int32)), .val (.int (Int32.ofNat (a + 2))), .val (.ref b7), .val (.ref b8), .val (.ref b79), .unset, .unset, .unset, .unset, .unset, .unset]) rfl (XS.iload X79.here hx rfl (hb hby at_140) rfl (XS.ifNo X79.here hx rfl (hb hby at_142) rfl ((if0 _ _).trans (tlt (by decide : (0 : Int32) < (2 : Int32))).2.2.2) (XS.aload X79.here hx rfl (hb hby at_145) rfl rfl (XS.iconst X79.here hx rfl (hb hby at_147) (XS.aload X79.here hx rfl (hb hby at_148) rfl rfl (XS.iload X79.here hx rfl (hb hby at_150) rfl kq)))))))) ?_
      obtain ⟨co82, Aro82, hszo82, hato82⟩ := id f80
      have hino82 : ¬ ((Int32.ofNat (a)) < 0 ∨ co82.slots.size ≤ ((Int32.ofNat (a))).toNatClampNeg) := by rw [hszo82]; exact within rfl (show a < 6 by omega) (by decide)
      have hato82' : co82.slots[((Int32.ofNat (a))).toNatClampNeg]? = some (.double (fv (a))) := by rw [show ((Int32.ofNat (a))).toNatClampNeg = a from clamp_of rfl (by omega)]; exact hato82 _ (by omega)
      refine own_to T79 (mkF m 153 #[.val (.int i0), .val (.long q1), .second, .val (.int (Int32.ofNat (z))), .val (.int (Int32.ofNat (a))), .val (.int (2 : Int32)), .val (.int (Int32.ofNat (a + 2))), .val (.ref b7), .val (.ref b8), .val (.ref b79), .unset, .unset, .unset, .unset, .unset, .unset] [(.double (fv (a))), (.int (0 : Int32)), (.ref b79)]) (fun tq kq => X79.daload hx (j := (Int32.ofNat (a))) (v := (.double (fv (a)))) (by rw [e79]; exact Aro82.1) (State.isArrayOf_alike hZ.alike Aro82.2.1) Aro82.2.2 hino82 hato82' (g := (mkF m 152 #[.val (.int i0), .val (.long q1), .second, .val (.int (Int32.ofNat (z))), .val (.int (Int32.ofNat (a))), .val (.int (2 : Int32)), .val (.int (Int32.ofNat (a + 2))), .val (.ref b7), .val (.ref b8), .val (.ref b79), .unset, .unset, .unset, .unset, .unset, .unset] [(.int (Int32.ofNat (a))), (.ref b7), (.int (0 : Int32)), (.ref b79)])) rfl rfl (hb hby at_152) _ kq) ?_
      obtain ⟨co84, Aro84, hszo84, hato84⟩ := id V79
      obtain ⟨T83, h83, X83, e83, W83, st83⟩ := stD X79 hx hZ e79 Aro84 (j := (0 : Int32)) (by rw [hszo84]; decide) (g := (mkF m 153 #[.val (.int i0), .val (.long q1), .second, .val (.int (Int32.ofNat (z))), .val (.int (Int32.ofNat (a))), .val (.int (2 : Int32)), .val (.int (Int32.ofNat (a + 2))), .val (.ref b7), .val (.ref b8), .val (.ref b79), .unset, .unset, .unset, .unset, .unset, .unset] [(.double (fv (a))), (.int (0 : Int32)), (.ref b79)])) rfl rfl (hb hby at_153)
      have f85 := f80.other W83 ne_b7_b79
      have f86 := f81.other W83 ne_b8_b79
      have N83 := Fr.snoc X83 N1 sz79
      have Zs83 : n0 ≤ h83.size := by rw [W83.size]; exact Zs79
      have V83 := DArr.set Aro84 hszo84 hato84 W83 (by decide : ((0 : Int32)).toNatClampNeg = 0)
      obtain ⟨f83, hf83⟩ : ∃ f', f' = own_upd (fun _ => 0) 0 (fv (a)) := ⟨_, rfl⟩
      rw [← hf83] at V83
      refine own_to T83 (mkF m 169 #[.val (.int i0), .val (.long q1), .second, .val (.int (Int32.ofNat (z))), .val (.int (Int32.ofNat (a))), .val (.int (2 : Int32)), .val (.int (Int32.ofNat (a + 2))), .val (.ref b7), .val (.ref b8), .val (.ref b79), .unset, .unset, .unset, .unset, .unset, .unset] [(.int ((Int32.ofNat (a)) + (1 : Int32))), (.ref b7), (.int (1 : Int32)), (.ref b79)]) (fun tq kq => st83 _ (XS.iload X83.here hx rfl (hb hby at_154) rfl (XS.iconst X83.here hx rfl (hb hby at_156) (XS.icmpNo X83.here hx rfl (hb hby at_157) rfl (tlt (by decide : (1 : Int32) < (2 : Int32))).2.2.2 (XS.aload X83.here hx rfl (hb hby at_160) rfl rfl (XS.iconst X83.here hx rfl (hb hby at_162) (XS.aload X83.here hx rfl (hb hby at_163) rfl rfl (XS.iload X83.here hx rfl (hb hby at_165) rfl (XS.iconst X83.here hx rfl (hb hby at_167) (XS.iadd X83.here hx rfl (hb hby at_168) rfl kq)))))))))) ?_
      rw [show ((Int32.ofNat (a)) + (1 : Int32)) = (Int32.ofNat (a + 1)) from own_addn a 1 (by omega) (by decide)]
      obtain ⟨co87, Aro87, hszo87, hato87⟩ := id f85
      have hino87 : ¬ ((Int32.ofNat (a + 1)) < 0 ∨ co87.slots.size ≤ ((Int32.ofNat (a + 1))).toNatClampNeg) := by rw [hszo87]; exact within rfl (show a + 1 < 6 by omega) (by decide)
      have hato87' : co87.slots[((Int32.ofNat (a + 1))).toNatClampNeg]? = some (.double (fv (a + 1))) := by rw [show ((Int32.ofNat (a + 1))).toNatClampNeg = a + 1 from clamp_of rfl (by omega)]; exact hato87 _ (by omega)
      refine own_to T83 (mkF m 170 #[.val (.int i0), .val (.long q1), .second, .val (.int (Int32.ofNat (z))), .val (.int (Int32.ofNat (a))), .val (.int (2 : Int32)), .val (.int (Int32.ofNat (a + 2))), .val (.ref b7), .val (.ref b8), .val (.ref b79), .unset, .unset, .unset, .unset, .unset, .unset] [(.double (fv (a + 1))), (.int (1 : Int32)), (.ref b79)]) (fun tq kq => X83.daload hx (j := (Int32.ofNat (a + 1))) (v := (.double (fv (a + 1)))) (by rw [e83]; exact Aro87.1) (State.isArrayOf_alike hZ.alike Aro87.2.1) Aro87.2.2 hino87 hato87' (g := (mkF m 169 #[.val (.int i0), .val (.long q1), .second, .val (.int (Int32.ofNat (z))), .val (.int (Int32.ofNat (a))), .val (.int (2 : Int32)), .val (.int (Int32.ofNat (a + 2))), .val (.ref b7), .val (.ref b8), .val (.ref b79), .unset, .unset, .unset, .unset, .unset, .unset] [(.int (Int32.ofNat (a + 1))), (.ref b7), (.int (1 : Int32)), (.ref b79)])) rfl rfl (hb hby at_169) _ kq) ?_
      obtain ⟨co89, Aro89, hszo89, hato89⟩ := id V83
      obtain ⟨T88, h88, X88, e88, W88, st88⟩ := stD X83 hx hZ e83 Aro89 (j := (1 : Int32)) (by rw [hszo89]; decide) (g := (mkF m 170 #[.val (.int i0), .val (.long q1), .second, .val (.int (Int32.ofNat (z))), .val (.int (Int32.ofNat (a))), .val (.int (2 : Int32)), .val (.int (Int32.ofNat (a + 2))), .val (.ref b7), .val (.ref b8), .val (.ref b79), .unset, .unset, .unset, .unset, .unset, .unset] [(.double (fv (a + 1))), (.int (1 : Int32)), (.ref b79)])) rfl rfl (hb hby at_170)
      have f90 := f85.other W88 ne_b7_b79
      have f91 := f86.other W88 ne_b8_b79
      have N88 := Fr.snoc X88 N83 sz79
      have Zs88 : n0 ≤ h88.size := by rw [W88.size]; exact Zs83
      have V88 := DArr.set Aro89 hszo89 hato89 W88 (by decide : ((1 : Int32)).toNatClampNeg = 1)
      obtain ⟨f88, hf88⟩ : ∃ f', f' = own_upd f83 1 (fv (a + 1)) := ⟨_, rfl⟩
      rw [← hf88] at V88
      refine own_to T88 (mkF m 188 #[.val (.int i0), .val (.long q1), .second, .val (.int (Int32.ofNat (z))), .val (.int (Int32.ofNat (a))), .val (.int (2 : Int32)), .val (.int (Int32.ofNat (a + 2))), .val (.ref b7), .val (.ref b8), .val (.ref b79), .unset, .unset, .unset, .unset, .unset, .unset] []) (fun tq kq => st88 _ (XS.iload X88.here hx rfl (hb hby at_171) rfl (XS.iconst X88.here hx rfl (hb hby at_173) (XS.icmpYes X88.here hx rfl (pc0 := 174) (pc' := 188) rfl (hb hby at_174) rfl (flt (by decide : ¬ ((2 : Int32) < (2 : Int32)))).2.2.2 (by decide) (by decide) kq)))) ?_
      exact J188 _ _ _ _ _ _ f88 X88 e88 N88 Zs88 f90 f91 V88 hf1 (fun j hj => by have hj' : j = 0 ∨ j = 1 := (by omega); rcases hj' with rfl | rfl <;> simp [hf83, hf88, own_upd])
    · skip
      refine own_to T1 (mkF m 136 #[.val (.int i0), .val (.long q1), .second, .val (.int (Int32.ofNat (z))), .val (.int (Int32.ofNat (a))), .val (.int (3 : Int32)), .val (.int (Int32.ofNat (a + 3))), .val (.ref b7), .val (.ref b8), .unset, .unset, .unset, .unset, .unset, .unset, .unset] [(.int (3 : Int32))]) (fun tq kq => XS.iload X1.here hx rfl (hb hby at_134) rfl kq) ?_
      obtain ⟨T92, h92, k92, X92, e92, E92, A92, st92⟩ := newP X1 hx hZ (own_w hw 0 rfl) e1 (g := (mkF m 136 #[.val (.int i0), .val (.long q1), .second, .val (.int (Int32.ofNat (z))), .val (.int (Int32.ofNat (a))), .val (.int (3 : Int32)), .val (.int (Int32.ofNat (a + 3))), .val (.ref b7), .val (.ref b8), .unset, .unset, .unset, .unset, .unset, .unset, .unset] [(.int (3 : Int32))])) rfl (hb hby at_136) rfl (by decide) (cap := 3) (by decide) (by decide) (by decide) (by decide)
      obtain ⟨b92, g92⟩ : ∃ z, z = h1.size := ⟨_, rfl⟩
      rw [← g92] at A92 st92
      have ne_b7_b92 : b7 ≠ b92 := Nat.ne_of_lt (Nat.lt_of_lt_of_le V7.lt (Nat.le_of_eq g92.symm))
      have ne_b8_b92 : b8 ≠ b92 := Nat.ne_of_lt (Nat.lt_of_lt_of_le V8.lt (Nat.le_of_eq g92.symm))
      have f93 := V7.ext E92
      have f94 := V8.ext E92
      have sz92 : n0 ≤ b92 := Nat.le_trans Z1 (Nat.le_of_eq g92.symm)
      have Zs92 : n0 ≤ h92.size := Nat.le_trans Z1 E92.1
      have V92 : DArr Z h92 b92 3 (fun _ => 0) := DArr.new A92 (by decide)
      refine own_to T92 (mkF m 152 #[.val (.int i0), .val (.long q1), .second, .val (.int (Int32.ofNat (z))), .val (.int (Int32.ofNat (a))), .val (.int (3 : Int32)), .val (.int (Int32.ofNat (a + 3))), .val (.ref b7), .val (.ref b8), .val (.ref b92), .unset, .unset, .unset, .unset, .unset, .unset] [(.int (Int32.ofNat (a))), (.ref b7), (.int (0 : Int32)), (.ref b92)]) (fun tq kq => st92 _ (XS.astore X92.here hx rfl (hb hby at_138) rfl rfl (l' := #[.val (.int i0), .val (.long q1), .second, .val (.int (Int32.ofNat (z))), .val (.int (Int32.ofNat (a))), .val (.int (3 : Int32)), .val (.int (Int32.ofNat (a + 3))), .val (.ref b7), .val (.ref b8), .val (.ref b92), .unset, .unset, .unset, .unset, .unset, .unset]) rfl (XS.iload X92.here hx rfl (hb hby at_140) rfl (XS.ifNo X92.here hx rfl (hb hby at_142) rfl ((if0 _ _).trans (tlt (by decide : (0 : Int32) < (3 : Int32))).2.2.2) (XS.aload X92.here hx rfl (hb hby at_145) rfl rfl (XS.iconst X92.here hx rfl (hb hby at_147) (XS.aload X92.here hx rfl (hb hby at_148) rfl rfl (XS.iload X92.here hx rfl (hb hby at_150) rfl kq)))))))) ?_
      obtain ⟨co95, Aro95, hszo95, hato95⟩ := id f93
      have hino95 : ¬ ((Int32.ofNat (a)) < 0 ∨ co95.slots.size ≤ ((Int32.ofNat (a))).toNatClampNeg) := by rw [hszo95]; exact within rfl (show a < 6 by omega) (by decide)
      have hato95' : co95.slots[((Int32.ofNat (a))).toNatClampNeg]? = some (.double (fv (a))) := by rw [show ((Int32.ofNat (a))).toNatClampNeg = a from clamp_of rfl (by omega)]; exact hato95 _ (by omega)
      refine own_to T92 (mkF m 153 #[.val (.int i0), .val (.long q1), .second, .val (.int (Int32.ofNat (z))), .val (.int (Int32.ofNat (a))), .val (.int (3 : Int32)), .val (.int (Int32.ofNat (a + 3))), .val (.ref b7), .val (.ref b8), .val (.ref b92), .unset, .unset, .unset, .unset, .unset, .unset] [(.double (fv (a))), (.int (0 : Int32)), (.ref b92)]) (fun tq kq => X92.daload hx (j := (Int32.ofNat (a))) (v := (.double (fv (a)))) (by rw [e92]; exact Aro95.1) (State.isArrayOf_alike hZ.alike Aro95.2.1) Aro95.2.2 hino95 hato95' (g := (mkF m 152 #[.val (.int i0), .val (.long q1), .second, .val (.int (Int32.ofNat (z))), .val (.int (Int32.ofNat (a))), .val (.int (3 : Int32)), .val (.int (Int32.ofNat (a + 3))), .val (.ref b7), .val (.ref b8), .val (.ref b92), .unset, .unset, .unset, .unset, .unset, .unset] [(.int (Int32.ofNat (a))), (.ref b7), (.int (0 : Int32)), (.ref b92)])) rfl rfl (hb hby at_152) _ kq) ?_
      obtain ⟨co97, Aro97, hszo97, hato97⟩ := id V92
      obtain ⟨T96, h96, X96, e96, W96, st96⟩ := stD X92 hx hZ e92 Aro97 (j := (0 : Int32)) (by rw [hszo97]; decide) (g := (mkF m 153 #[.val (.int i0), .val (.long q1), .second, .val (.int (Int32.ofNat (z))), .val (.int (Int32.ofNat (a))), .val (.int (3 : Int32)), .val (.int (Int32.ofNat (a + 3))), .val (.ref b7), .val (.ref b8), .val (.ref b92), .unset, .unset, .unset, .unset, .unset, .unset] [(.double (fv (a))), (.int (0 : Int32)), (.ref b92)])) rfl rfl (hb hby at_153)
      have f98 := f93.other W96 ne_b7_b92
      have f99 := f94.other W96 ne_b8_b92
      have N96 := Fr.snoc X96 N1 sz92
      have Zs96 : n0 ≤ h96.size := by rw [W96.size]; exact Zs92
      have V96 := DArr.set Aro97 hszo97 hato97 W96 (by decide : ((0 : Int32)).toNatClampNeg = 0)
      obtain ⟨f96, hf96⟩ : ∃ f', f' = own_upd (fun _ => 0) 0 (fv (a)) := ⟨_, rfl⟩
      rw [← hf96] at V96
      refine own_to T96 (mkF m 169 #[.val (.int i0), .val (.long q1), .second, .val (.int (Int32.ofNat (z))), .val (.int (Int32.ofNat (a))), .val (.int (3 : Int32)), .val (.int (Int32.ofNat (a + 3))), .val (.ref b7), .val (.ref b8), .val (.ref b92), .unset, .unset, .unset, .unset, .unset, .unset] [(.int ((Int32.ofNat (a)) + (1 : Int32))), (.ref b7), (.int (1 : Int32)), (.ref b92)]) (fun tq kq => st96 _ (XS.iload X96.here hx rfl (hb hby at_154) rfl (XS.iconst X96.here hx rfl (hb hby at_156) (XS.icmpNo X96.here hx rfl (hb hby at_157) rfl (tlt (by decide : (1 : Int32) < (3 : Int32))).2.2.2 (XS.aload X96.here hx rfl (hb hby at_160) rfl rfl (XS.iconst X96.here hx rfl (hb hby at_162) (XS.aload X96.here hx rfl (hb hby at_163) rfl rfl (XS.iload X96.here hx rfl (hb hby at_165) rfl (XS.iconst X96.here hx rfl (hb hby at_167) (XS.iadd X96.here hx rfl (hb hby at_168) rfl kq)))))))))) ?_
      rw [show ((Int32.ofNat (a)) + (1 : Int32)) = (Int32.ofNat (a + 1)) from own_addn a 1 (by omega) (by decide)]
      obtain ⟨co100, Aro100, hszo100, hato100⟩ := id f98
      have hino100 : ¬ ((Int32.ofNat (a + 1)) < 0 ∨ co100.slots.size ≤ ((Int32.ofNat (a + 1))).toNatClampNeg) := by rw [hszo100]; exact within rfl (show a + 1 < 6 by omega) (by decide)
      have hato100' : co100.slots[((Int32.ofNat (a + 1))).toNatClampNeg]? = some (.double (fv (a + 1))) := by rw [show ((Int32.ofNat (a + 1))).toNatClampNeg = a + 1 from clamp_of rfl (by omega)]; exact hato100 _ (by omega)
      refine own_to T96 (mkF m 170 #[.val (.int i0), .val (.long q1), .second, .val (.int (Int32.ofNat (z))), .val (.int (Int32.ofNat (a))), .val (.int (3 : Int32)), .val (.int (Int32.ofNat (a + 3))), .val (.ref b7), .val (.ref b8), .val (.ref b92), .unset, .unset, .unset, .unset, .unset, .unset] [(.double (fv (a + 1))), (.int (1 : Int32)), (.ref b92)]) (fun tq kq => X96.daload hx (j := (Int32.ofNat (a + 1))) (v := (.double (fv (a + 1)))) (by rw [e96]; exact Aro100.1) (State.isArrayOf_alike hZ.alike Aro100.2.1) Aro100.2.2 hino100 hato100' (g := (mkF m 169 #[.val (.int i0), .val (.long q1), .second, .val (.int (Int32.ofNat (z))), .val (.int (Int32.ofNat (a))), .val (.int (3 : Int32)), .val (.int (Int32.ofNat (a + 3))), .val (.ref b7), .val (.ref b8), .val (.ref b92), .unset, .unset, .unset, .unset, .unset, .unset] [(.int (Int32.ofNat (a + 1))), (.ref b7), (.int (1 : Int32)), (.ref b92)])) rfl rfl (hb hby at_169) _ kq) ?_
      obtain ⟨co102, Aro102, hszo102, hato102⟩ := id V96
      obtain ⟨T101, h101, X101, e101, W101, st101⟩ := stD X96 hx hZ e96 Aro102 (j := (1 : Int32)) (by rw [hszo102]; decide) (g := (mkF m 170 #[.val (.int i0), .val (.long q1), .second, .val (.int (Int32.ofNat (z))), .val (.int (Int32.ofNat (a))), .val (.int (3 : Int32)), .val (.int (Int32.ofNat (a + 3))), .val (.ref b7), .val (.ref b8), .val (.ref b92), .unset, .unset, .unset, .unset, .unset, .unset] [(.double (fv (a + 1))), (.int (1 : Int32)), (.ref b92)])) rfl rfl (hb hby at_170)
      have f103 := f98.other W101 ne_b7_b92
      have f104 := f99.other W101 ne_b8_b92
      have N101 := Fr.snoc X101 N96 sz92
      have Zs101 : n0 ≤ h101.size := by rw [W101.size]; exact Zs96
      have V101 := DArr.set Aro102 hszo102 hato102 W101 (by decide : ((1 : Int32)).toNatClampNeg = 1)
      obtain ⟨f101, hf101⟩ : ∃ f', f' = own_upd f96 1 (fv (a + 1)) := ⟨_, rfl⟩
      rw [← hf101] at V101
      refine own_to T101 (mkF m 186 #[.val (.int i0), .val (.long q1), .second, .val (.int (Int32.ofNat (z))), .val (.int (Int32.ofNat (a))), .val (.int (3 : Int32)), .val (.int (Int32.ofNat (a + 3))), .val (.ref b7), .val (.ref b8), .val (.ref b92), .unset, .unset, .unset, .unset, .unset, .unset] [(.int ((Int32.ofNat (a)) + (2 : Int32))), (.ref b7), (.int (2 : Int32)), (.ref b92)]) (fun tq kq => st101 _ (XS.iload X101.here hx rfl (hb hby at_171) rfl (XS.iconst X101.here hx rfl (hb hby at_173) (XS.icmpNo X101.here hx rfl (hb hby at_174) rfl (tlt (by decide : (2 : Int32) < (3 : Int32))).2.2.2 (XS.aload X101.here hx rfl (hb hby at_177) rfl rfl (XS.iconst X101.here hx rfl (hb hby at_179) (XS.aload X101.here hx rfl (hb hby at_180) rfl rfl (XS.iload X101.here hx rfl (hb hby at_182) rfl (XS.iconst X101.here hx rfl (hb hby at_184) (XS.iadd X101.here hx rfl (hb hby at_185) rfl kq)))))))))) ?_
      rw [show ((Int32.ofNat (a)) + (2 : Int32)) = (Int32.ofNat (a + 2)) from own_addn a 2 (by omega) (by decide)]
      obtain ⟨co105, Aro105, hszo105, hato105⟩ := id f103
      have hino105 : ¬ ((Int32.ofNat (a + 2)) < 0 ∨ co105.slots.size ≤ ((Int32.ofNat (a + 2))).toNatClampNeg) := by rw [hszo105]; exact within rfl (show a + 2 < 6 by omega) (by decide)
      have hato105' : co105.slots[((Int32.ofNat (a + 2))).toNatClampNeg]? = some (.double (fv (a + 2))) := by rw [show ((Int32.ofNat (a + 2))).toNatClampNeg = a + 2 from clamp_of rfl (by omega)]; exact hato105 _ (by omega)
      refine own_to T101 (mkF m 187 #[.val (.int i0), .val (.long q1), .second, .val (.int (Int32.ofNat (z))), .val (.int (Int32.ofNat (a))), .val (.int (3 : Int32)), .val (.int (Int32.ofNat (a + 3))), .val (.ref b7), .val (.ref b8), .val (.ref b92), .unset, .unset, .unset, .unset, .unset, .unset] [(.double (fv (a + 2))), (.int (2 : Int32)), (.ref b92)]) (fun tq kq => X101.daload hx (j := (Int32.ofNat (a + 2))) (v := (.double (fv (a + 2)))) (by rw [e101]; exact Aro105.1) (State.isArrayOf_alike hZ.alike Aro105.2.1) Aro105.2.2 hino105 hato105' (g := (mkF m 186 #[.val (.int i0), .val (.long q1), .second, .val (.int (Int32.ofNat (z))), .val (.int (Int32.ofNat (a))), .val (.int (3 : Int32)), .val (.int (Int32.ofNat (a + 3))), .val (.ref b7), .val (.ref b8), .val (.ref b92), .unset, .unset, .unset, .unset, .unset, .unset] [(.int (Int32.ofNat (a + 2))), (.ref b7), (.int (2 : Int32)), (.ref b92)])) rfl rfl (hb hby at_186) _ kq) ?_
      obtain ⟨co107, Aro107, hszo107, hato107⟩ := id V101
      obtain ⟨T106, h106, X106, e106, W106, st106⟩ := stD X101 hx hZ e101 Aro107 (j := (2 : Int32)) (by rw [hszo107]; decide) (g := (mkF m 187 #[.val (.int i0), .val (.long q1), .second, .val (.int (Int32.ofNat (z))), .val (.int (Int32.ofNat (a))), .val (.int (3 : Int32)), .val (.int (Int32.ofNat (a + 3))), .val (.ref b7), .val (.ref b8), .val (.ref b92), .unset, .unset, .unset, .unset, .unset, .unset] [(.double (fv (a + 2))), (.int (2 : Int32)), (.ref b92)])) rfl rfl (hb hby at_187)
      have f108 := f103.other W106 ne_b7_b92
      have f109 := f104.other W106 ne_b8_b92
      have N106 := Fr.snoc X106 N101 sz92
      have Zs106 : n0 ≤ h106.size := by rw [W106.size]; exact Zs101
      have V106 := DArr.set Aro107 hszo107 hato107 W106 (by decide : ((2 : Int32)).toNatClampNeg = 2)
      obtain ⟨f106, hf106⟩ : ∃ f', f' = own_upd f101 2 (fv (a + 2)) := ⟨_, rfl⟩
      rw [← hf106] at V106
      refine own_to T106 (mkF m 188 #[.val (.int i0), .val (.long q1), .second, .val (.int (Int32.ofNat (z))), .val (.int (Int32.ofNat (a))), .val (.int (3 : Int32)), .val (.int (Int32.ofNat (a + 3))), .val (.ref b7), .val (.ref b8), .val (.ref b92), .unset, .unset, .unset, .unset, .unset, .unset] []) (fun tq kq => st106 _ kq) ?_
      exact J188 _ _ _ _ _ _ f106 X106 e106 N106 Zs106 f108 f109 V106 hf1 (fun j hj => by have hj' : j = 0 ∨ j = 1 ∨ j = 2 := (by omega); rcases hj' with rfl | rfl | rfl <;> simp [hf96, hf101, hf106, own_upd])
  have ha4 : a = 0 ∨ a = 1 ∨ a = 2 ∨ a = 3 := by omega
  rcases ha4 with rfl | rfl | rfl | rfl
  · skip
    refine own_to T18 (mkF m 89 #[.val (.int i0), .val (.long q1), .second, .val (.int (Int32.ofNat (z))), .val (.int (0 : Int32)), .val (.int (Int32.ofNat (b))), .val (.int (Int32.ofNat (0 + b))), .val (.ref b7), .unset, .unset, .unset, .unset, .unset, .unset, .unset, .unset] [(.int (0 : Int32))]) (fun tq kq => XS.iload X18.here hx rfl (hb hby at_87) rfl kq) ?_
    obtain ⟨T110, h110, k110, X110, e110, E110, A110, st110⟩ := newP X18 hx hZ (own_w hw 0 rfl) e18 (g := (mkF m 89 #[.val (.int i0), .val (.long q1), .second, .val (.int (Int32.ofNat (z))), .val (.int (0 : Int32)), .val (.int (Int32.ofNat (b))), .val (.int (Int32.ofNat (0 + b))), .val (.ref b7), .unset, .unset, .unset, .unset, .unset, .unset, .unset, .unset] [(.int (0 : Int32))])) rfl (hb hby at_89) rfl (by decide) (cap := 3) (by decide) (by decide) (by decide) (by decide)
    obtain ⟨b110, g110⟩ : ∃ z, z = h18.size := ⟨_, rfl⟩
    rw [← g110] at A110 st110
    have ne_b7_b110 : b7 ≠ b110 := Nat.ne_of_lt (Nat.lt_of_lt_of_le Vb7.lt (Nat.le_of_eq g110.symm))
    have f111 := Vb7.ext E110
    have sz110 : n0 ≤ b110 := Nat.le_trans Zs18 (Nat.le_of_eq g110.symm)
    have Zs110 : n0 ≤ h110.size := Nat.le_trans Zs18 E110.1
    have V110 : DArr Z h110 b110 0 (fun _ => 0) := DArr.new A110 (by decide)
    refine own_to T110 (mkF m 134 #[.val (.int i0), .val (.long q1), .second, .val (.int (Int32.ofNat (z))), .val (.int (0 : Int32)), .val (.int (Int32.ofNat (b))), .val (.int (Int32.ofNat (0 + b))), .val (.ref b7), .val (.ref b110), .unset, .unset, .unset, .unset, .unset, .unset, .unset] []) (fun tq kq => st110 _ (XS.astore X110.here hx rfl (hb hby at_91) rfl rfl (l' := #[.val (.int i0), .val (.long q1), .second, .val (.int (Int32.ofNat (z))), .val (.int (0 : Int32)), .val (.int (Int32.ofNat (b))), .val (.int (Int32.ofNat (0 + b))), .val (.ref b7), .val (.ref b110), .unset, .unset, .unset, .unset, .unset, .unset, .unset]) rfl (XS.iload X110.here hx rfl (hb hby at_93) rfl (XS.ifYes X110.here hx rfl (pc0 := 95) (pc' := 106) rfl (hb hby at_95) rfl ((if0 _ _).trans (flt (by decide : ¬ ((0 : Int32) < (0 : Int32)))).2.2.2) (by decide) (by decide) (XS.iload X110.here hx rfl (hb hby at_106) rfl (XS.iconst X110.here hx rfl (hb hby at_108) (XS.icmpYes X110.here hx rfl (pc0 := 109) (pc' := 120) rfl (hb hby at_109) rfl (flt (by decide : ¬ ((1 : Int32) < (0 : Int32)))).2.2.2 (by decide) (by decide) (XS.iload X110.here hx rfl (hb hby at_120) rfl (XS.iconst X110.here hx rfl (hb hby at_122) (XS.icmpYes X110.here hx rfl (pc0 := 123) (pc' := 134) rfl (hb hby at_123) rfl (flt (by decide : ¬ ((2 : Int32) < (0 : Int32)))).2.2.2 (by decide) (by decide) kq)))))))))) ?_
    exact J134 _ _ _ _ (fun _ => 0) X110 e110 N18 Zs110 sz110 f111 V110 (fun j hj => absurd hj (Nat.not_lt_zero j))
  · skip
    refine own_to T18 (mkF m 89 #[.val (.int i0), .val (.long q1), .second, .val (.int (Int32.ofNat (z))), .val (.int (1 : Int32)), .val (.int (Int32.ofNat (b))), .val (.int (Int32.ofNat (1 + b))), .val (.ref b7), .unset, .unset, .unset, .unset, .unset, .unset, .unset, .unset] [(.int (1 : Int32))]) (fun tq kq => XS.iload X18.here hx rfl (hb hby at_87) rfl kq) ?_
    obtain ⟨T112, h112, k112, X112, e112, E112, A112, st112⟩ := newP X18 hx hZ (own_w hw 0 rfl) e18 (g := (mkF m 89 #[.val (.int i0), .val (.long q1), .second, .val (.int (Int32.ofNat (z))), .val (.int (1 : Int32)), .val (.int (Int32.ofNat (b))), .val (.int (Int32.ofNat (1 + b))), .val (.ref b7), .unset, .unset, .unset, .unset, .unset, .unset, .unset, .unset] [(.int (1 : Int32))])) rfl (hb hby at_89) rfl (by decide) (cap := 3) (by decide) (by decide) (by decide) (by decide)
    obtain ⟨b112, g112⟩ : ∃ z, z = h18.size := ⟨_, rfl⟩
    rw [← g112] at A112 st112
    have ne_b7_b112 : b7 ≠ b112 := Nat.ne_of_lt (Nat.lt_of_lt_of_le Vb7.lt (Nat.le_of_eq g112.symm))
    have f113 := Vb7.ext E112
    have sz112 : n0 ≤ b112 := Nat.le_trans Zs18 (Nat.le_of_eq g112.symm)
    have Zs112 : n0 ≤ h112.size := Nat.le_trans Zs18 E112.1
    have V112 : DArr Z h112 b112 1 (fun _ => 0) := DArr.new A112 (by decide)
    refine own_to T112 (mkF m 104 #[.val (.int i0), .val (.long q1), .second, .val (.int (Int32.ofNat (z))), .val (.int (1 : Int32)), .val (.int (Int32.ofNat (b))), .val (.int (Int32.ofNat (1 + b))), .val (.ref b7), .val (.ref b112), .unset, .unset, .unset, .unset, .unset, .unset, .unset] [(.int (0 : Int32)), (.ref b7), (.int (0 : Int32)), (.ref b112)]) (fun tq kq => st112 _ (XS.astore X112.here hx rfl (hb hby at_91) rfl rfl (l' := #[.val (.int i0), .val (.long q1), .second, .val (.int (Int32.ofNat (z))), .val (.int (1 : Int32)), .val (.int (Int32.ofNat (b))), .val (.int (Int32.ofNat (1 + b))), .val (.ref b7), .val (.ref b112), .unset, .unset, .unset, .unset, .unset, .unset, .unset]) rfl (XS.iload X112.here hx rfl (hb hby at_93) rfl (XS.ifNo X112.here hx rfl (hb hby at_95) rfl ((if0 _ _).trans (tlt (by decide : (0 : Int32) < (1 : Int32))).2.2.2) (XS.aload X112.here hx rfl (hb hby at_98) rfl rfl (XS.iconst X112.here hx rfl (hb hby at_100) (XS.aload X112.here hx rfl (hb hby at_101) rfl rfl (XS.iconst X112.here hx rfl (hb hby at_103) kq)))))))) ?_
    obtain ⟨co114, Aro114, hszo114, hato114⟩ := id f113
    have hino114 : ¬ ((0 : Int32) < 0 ∨ co114.slots.size ≤ ((0 : Int32)).toNatClampNeg) := by rw [hszo114]; decide
    have hato114' : co114.slots[((0 : Int32)).toNatClampNeg]? = some (.double (fv (0))) := by rw [show ((0 : Int32)).toNatClampNeg = 0 from by decide]; exact hato114 _ (by omega)
    refine own_to T112 (mkF m 105 #[.val (.int i0), .val (.long q1), .second, .val (.int (Int32.ofNat (z))), .val (.int (1 : Int32)), .val (.int (Int32.ofNat (b))), .val (.int (Int32.ofNat (1 + b))), .val (.ref b7), .val (.ref b112), .unset, .unset, .unset, .unset, .unset, .unset, .unset] [(.double (fv (0))), (.int (0 : Int32)), (.ref b112)]) (fun tq kq => X112.daload hx (j := (0 : Int32)) (v := (.double (fv (0)))) (by rw [e112]; exact Aro114.1) (State.isArrayOf_alike hZ.alike Aro114.2.1) Aro114.2.2 hino114 hato114' (g := (mkF m 104 #[.val (.int i0), .val (.long q1), .second, .val (.int (Int32.ofNat (z))), .val (.int (1 : Int32)), .val (.int (Int32.ofNat (b))), .val (.int (Int32.ofNat (1 + b))), .val (.ref b7), .val (.ref b112), .unset, .unset, .unset, .unset, .unset, .unset, .unset] [(.int (0 : Int32)), (.ref b7), (.int (0 : Int32)), (.ref b112)])) rfl rfl (hb hby at_104) _ kq) ?_
    obtain ⟨co116, Aro116, hszo116, hato116⟩ := id V112
    obtain ⟨T115, h115, X115, e115, W115, st115⟩ := stD X112 hx hZ e112 Aro116 (j := (0 : Int32)) (by rw [hszo116]; decide) (g := (mkF m 105 #[.val (.int i0), .val (.long q1), .second, .val (.int (Int32.ofNat (z))), .val (.int (1 : Int32)), .val (.int (Int32.ofNat (b))), .val (.int (Int32.ofNat (1 + b))), .val (.ref b7), .val (.ref b112), .unset, .unset, .unset, .unset, .unset, .unset, .unset] [(.double (fv (0))), (.int (0 : Int32)), (.ref b112)])) rfl rfl (hb hby at_105)
    have f117 := f113.other W115 ne_b7_b112
    have N115 := Fr.snoc X115 N18 sz112
    have Zs115 : n0 ≤ h115.size := by rw [W115.size]; exact Zs112
    have V115 := DArr.set Aro116 hszo116 hato116 W115 (by decide : ((0 : Int32)).toNatClampNeg = 0)
    obtain ⟨f115, hf115⟩ : ∃ f', f' = own_upd (fun _ => 0) 0 (fv (0)) := ⟨_, rfl⟩
    rw [← hf115] at V115
    refine own_to T115 (mkF m 134 #[.val (.int i0), .val (.long q1), .second, .val (.int (Int32.ofNat (z))), .val (.int (1 : Int32)), .val (.int (Int32.ofNat (b))), .val (.int (Int32.ofNat (1 + b))), .val (.ref b7), .val (.ref b112), .unset, .unset, .unset, .unset, .unset, .unset, .unset] []) (fun tq kq => st115 _ (XS.iload X115.here hx rfl (hb hby at_106) rfl (XS.iconst X115.here hx rfl (hb hby at_108) (XS.icmpYes X115.here hx rfl (pc0 := 109) (pc' := 120) rfl (hb hby at_109) rfl (flt (by decide : ¬ ((1 : Int32) < (1 : Int32)))).2.2.2 (by decide) (by decide) (XS.iload X115.here hx rfl (hb hby at_120) rfl (XS.iconst X115.here hx rfl (hb hby at_122) (XS.icmpYes X115.here hx rfl (pc0 := 123) (pc' := 134) rfl (hb hby at_123) rfl (flt (by decide : ¬ ((2 : Int32) < (1 : Int32)))).2.2.2 (by decide) (by decide) kq))))))) ?_
    exact J134 _ _ _ _ f115 X115 e115 N115 Zs115 sz112 f117 V115 (fun j hj => by have hj' : j = 0 := (by omega); rcases hj' with rfl <;> simp [hf115, own_upd])
  · skip
    refine own_to T18 (mkF m 89 #[.val (.int i0), .val (.long q1), .second, .val (.int (Int32.ofNat (z))), .val (.int (2 : Int32)), .val (.int (Int32.ofNat (b))), .val (.int (Int32.ofNat (2 + b))), .val (.ref b7), .unset, .unset, .unset, .unset, .unset, .unset, .unset, .unset] [(.int (2 : Int32))]) (fun tq kq => XS.iload X18.here hx rfl (hb hby at_87) rfl kq) ?_
    obtain ⟨T118, h118, k118, X118, e118, E118, A118, st118⟩ := newP X18 hx hZ (own_w hw 0 rfl) e18 (g := (mkF m 89 #[.val (.int i0), .val (.long q1), .second, .val (.int (Int32.ofNat (z))), .val (.int (2 : Int32)), .val (.int (Int32.ofNat (b))), .val (.int (Int32.ofNat (2 + b))), .val (.ref b7), .unset, .unset, .unset, .unset, .unset, .unset, .unset, .unset] [(.int (2 : Int32))])) rfl (hb hby at_89) rfl (by decide) (cap := 3) (by decide) (by decide) (by decide) (by decide)
    obtain ⟨b118, g118⟩ : ∃ z, z = h18.size := ⟨_, rfl⟩
    rw [← g118] at A118 st118
    have ne_b7_b118 : b7 ≠ b118 := Nat.ne_of_lt (Nat.lt_of_lt_of_le Vb7.lt (Nat.le_of_eq g118.symm))
    have f119 := Vb7.ext E118
    have sz118 : n0 ≤ b118 := Nat.le_trans Zs18 (Nat.le_of_eq g118.symm)
    have Zs118 : n0 ≤ h118.size := Nat.le_trans Zs18 E118.1
    have V118 : DArr Z h118 b118 2 (fun _ => 0) := DArr.new A118 (by decide)
    refine own_to T118 (mkF m 104 #[.val (.int i0), .val (.long q1), .second, .val (.int (Int32.ofNat (z))), .val (.int (2 : Int32)), .val (.int (Int32.ofNat (b))), .val (.int (Int32.ofNat (2 + b))), .val (.ref b7), .val (.ref b118), .unset, .unset, .unset, .unset, .unset, .unset, .unset] [(.int (0 : Int32)), (.ref b7), (.int (0 : Int32)), (.ref b118)]) (fun tq kq => st118 _ (XS.astore X118.here hx rfl (hb hby at_91) rfl rfl (l' := #[.val (.int i0), .val (.long q1), .second, .val (.int (Int32.ofNat (z))), .val (.int (2 : Int32)), .val (.int (Int32.ofNat (b))), .val (.int (Int32.ofNat (2 + b))), .val (.ref b7), .val (.ref b118), .unset, .unset, .unset, .unset, .unset, .unset, .unset]) rfl (XS.iload X118.here hx rfl (hb hby at_93) rfl (XS.ifNo X118.here hx rfl (hb hby at_95) rfl ((if0 _ _).trans (tlt (by decide : (0 : Int32) < (2 : Int32))).2.2.2) (XS.aload X118.here hx rfl (hb hby at_98) rfl rfl (XS.iconst X118.here hx rfl (hb hby at_100) (XS.aload X118.here hx rfl (hb hby at_101) rfl rfl (XS.iconst X118.here hx rfl (hb hby at_103) kq)))))))) ?_
    obtain ⟨co120, Aro120, hszo120, hato120⟩ := id f119
    have hino120 : ¬ ((0 : Int32) < 0 ∨ co120.slots.size ≤ ((0 : Int32)).toNatClampNeg) := by rw [hszo120]; decide
    have hato120' : co120.slots[((0 : Int32)).toNatClampNeg]? = some (.double (fv (0))) := by rw [show ((0 : Int32)).toNatClampNeg = 0 from by decide]; exact hato120 _ (by omega)
    refine own_to T118 (mkF m 105 #[.val (.int i0), .val (.long q1), .second, .val (.int (Int32.ofNat (z))), .val (.int (2 : Int32)), .val (.int (Int32.ofNat (b))), .val (.int (Int32.ofNat (2 + b))), .val (.ref b7), .val (.ref b118), .unset, .unset, .unset, .unset, .unset, .unset, .unset] [(.double (fv (0))), (.int (0 : Int32)), (.ref b118)]) (fun tq kq => X118.daload hx (j := (0 : Int32)) (v := (.double (fv (0)))) (by rw [e118]; exact Aro120.1) (State.isArrayOf_alike hZ.alike Aro120.2.1) Aro120.2.2 hino120 hato120' (g := (mkF m 104 #[.val (.int i0), .val (.long q1), .second, .val (.int (Int32.ofNat (z))), .val (.int (2 : Int32)), .val (.int (Int32.ofNat (b))), .val (.int (Int32.ofNat (2 + b))), .val (.ref b7), .val (.ref b118), .unset, .unset, .unset, .unset, .unset, .unset, .unset] [(.int (0 : Int32)), (.ref b7), (.int (0 : Int32)), (.ref b118)])) rfl rfl (hb hby at_104) _ kq) ?_
    obtain ⟨co122, Aro122, hszo122, hato122⟩ := id V118
    obtain ⟨T121, h121, X121, e121, W121, st121⟩ := stD X118 hx hZ e118 Aro122 (j := (0 : Int32)) (by rw [hszo122]; decide) (g := (mkF m 105 #[.val (.int i0), .val (.long q1), .second, .val (.int (Int32.ofNat (z))), .val (.int (2 : Int32)), .val (.int (Int32.ofNat (b))), .val (.int (Int32.ofNat (2 + b))), .val (.ref b7), .val (.ref b118), .unset, .unset, .unset, .unset, .unset, .unset, .unset] [(.double (fv (0))), (.int (0 : Int32)), (.ref b118)])) rfl rfl (hb hby at_105)
    have f123 := f119.other W121 ne_b7_b118
    have N121 := Fr.snoc X121 N18 sz118
    have Zs121 : n0 ≤ h121.size := by rw [W121.size]; exact Zs118
    have V121 := DArr.set Aro122 hszo122 hato122 W121 (by decide : ((0 : Int32)).toNatClampNeg = 0)
    obtain ⟨f121, hf121⟩ : ∃ f', f' = own_upd (fun _ => 0) 0 (fv (0)) := ⟨_, rfl⟩
    rw [← hf121] at V121
    refine own_to T121 (mkF m 118 #[.val (.int i0), .val (.long q1), .second, .val (.int (Int32.ofNat (z))), .val (.int (2 : Int32)), .val (.int (Int32.ofNat (b))), .val (.int (Int32.ofNat (2 + b))), .val (.ref b7), .val (.ref b118), .unset, .unset, .unset, .unset, .unset, .unset, .unset] [(.int (1 : Int32)), (.ref b7), (.int (1 : Int32)), (.ref b118)]) (fun tq kq => st121 _ (XS.iload X121.here hx rfl (hb hby at_106) rfl (XS.iconst X121.here hx rfl (hb hby at_108) (XS.icmpNo X121.here hx rfl (hb hby at_109) rfl (tlt (by decide : (1 : Int32) < (2 : Int32))).2.2.2 (XS.aload X121.here hx rfl (hb hby at_112) rfl rfl (XS.iconst X121.here hx rfl (hb hby at_114) (XS.aload X121.here hx rfl (hb hby at_115) rfl rfl (XS.iconst X121.here hx rfl (hb hby at_117) kq)))))))) ?_
    obtain ⟨co124, Aro124, hszo124, hato124⟩ := id f123
    have hino124 : ¬ ((1 : Int32) < 0 ∨ co124.slots.size ≤ ((1 : Int32)).toNatClampNeg) := by rw [hszo124]; decide
    have hato124' : co124.slots[((1 : Int32)).toNatClampNeg]? = some (.double (fv (1))) := by rw [show ((1 : Int32)).toNatClampNeg = 1 from by decide]; exact hato124 _ (by omega)
    refine own_to T121 (mkF m 119 #[.val (.int i0), .val (.long q1), .second, .val (.int (Int32.ofNat (z))), .val (.int (2 : Int32)), .val (.int (Int32.ofNat (b))), .val (.int (Int32.ofNat (2 + b))), .val (.ref b7), .val (.ref b118), .unset, .unset, .unset, .unset, .unset, .unset, .unset] [(.double (fv (1))), (.int (1 : Int32)), (.ref b118)]) (fun tq kq => X121.daload hx (j := (1 : Int32)) (v := (.double (fv (1)))) (by rw [e121]; exact Aro124.1) (State.isArrayOf_alike hZ.alike Aro124.2.1) Aro124.2.2 hino124 hato124' (g := (mkF m 118 #[.val (.int i0), .val (.long q1), .second, .val (.int (Int32.ofNat (z))), .val (.int (2 : Int32)), .val (.int (Int32.ofNat (b))), .val (.int (Int32.ofNat (2 + b))), .val (.ref b7), .val (.ref b118), .unset, .unset, .unset, .unset, .unset, .unset, .unset] [(.int (1 : Int32)), (.ref b7), (.int (1 : Int32)), (.ref b118)])) rfl rfl (hb hby at_118) _ kq) ?_
    obtain ⟨co126, Aro126, hszo126, hato126⟩ := id V121
    obtain ⟨T125, h125, X125, e125, W125, st125⟩ := stD X121 hx hZ e121 Aro126 (j := (1 : Int32)) (by rw [hszo126]; decide) (g := (mkF m 119 #[.val (.int i0), .val (.long q1), .second, .val (.int (Int32.ofNat (z))), .val (.int (2 : Int32)), .val (.int (Int32.ofNat (b))), .val (.int (Int32.ofNat (2 + b))), .val (.ref b7), .val (.ref b118), .unset, .unset, .unset, .unset, .unset, .unset, .unset] [(.double (fv (1))), (.int (1 : Int32)), (.ref b118)])) rfl rfl (hb hby at_119)
    have f127 := f123.other W125 ne_b7_b118
    have N125 := Fr.snoc X125 N121 sz118
    have Zs125 : n0 ≤ h125.size := by rw [W125.size]; exact Zs121
    have V125 := DArr.set Aro126 hszo126 hato126 W125 (by decide : ((1 : Int32)).toNatClampNeg = 1)
    obtain ⟨f125, hf125⟩ : ∃ f', f' = own_upd f121 1 (fv (1)) := ⟨_, rfl⟩
    rw [← hf125] at V125
    refine own_to T125 (mkF m 134 #[.val (.int i0), .val (.long q1), .second, .val (.int (Int32.ofNat (z))), .val (.int (2 : Int32)), .val (.int (Int32.ofNat (b))), .val (.int (Int32.ofNat (2 + b))), .val (.ref b7), .val (.ref b118), .unset, .unset, .unset, .unset, .unset, .unset, .unset] []) (fun tq kq => st125 _ (XS.iload X125.here hx rfl (hb hby at_120) rfl (XS.iconst X125.here hx rfl (hb hby at_122) (XS.icmpYes X125.here hx rfl (pc0 := 123) (pc' := 134) rfl (hb hby at_123) rfl (flt (by decide : ¬ ((2 : Int32) < (2 : Int32)))).2.2.2 (by decide) (by decide) kq)))) ?_
    exact J134 _ _ _ _ f125 X125 e125 N125 Zs125 sz118 f127 V125 (fun j hj => by have hj' : j = 0 ∨ j = 1 := (by omega); rcases hj' with rfl | rfl <;> simp [hf121, hf125, own_upd])
  · skip
    refine own_to T18 (mkF m 89 #[.val (.int i0), .val (.long q1), .second, .val (.int (Int32.ofNat (z))), .val (.int (3 : Int32)), .val (.int (Int32.ofNat (b))), .val (.int (Int32.ofNat (3 + b))), .val (.ref b7), .unset, .unset, .unset, .unset, .unset, .unset, .unset, .unset] [(.int (3 : Int32))]) (fun tq kq => XS.iload X18.here hx rfl (hb hby at_87) rfl kq) ?_
    obtain ⟨T128, h128, k128, X128, e128, E128, A128, st128⟩ := newP X18 hx hZ (own_w hw 0 rfl) e18 (g := (mkF m 89 #[.val (.int i0), .val (.long q1), .second, .val (.int (Int32.ofNat (z))), .val (.int (3 : Int32)), .val (.int (Int32.ofNat (b))), .val (.int (Int32.ofNat (3 + b))), .val (.ref b7), .unset, .unset, .unset, .unset, .unset, .unset, .unset, .unset] [(.int (3 : Int32))])) rfl (hb hby at_89) rfl (by decide) (cap := 3) (by decide) (by decide) (by decide) (by decide)
    obtain ⟨b128, g128⟩ : ∃ z, z = h18.size := ⟨_, rfl⟩
    rw [← g128] at A128 st128
    have ne_b7_b128 : b7 ≠ b128 := Nat.ne_of_lt (Nat.lt_of_lt_of_le Vb7.lt (Nat.le_of_eq g128.symm))
    have f129 := Vb7.ext E128
    have sz128 : n0 ≤ b128 := Nat.le_trans Zs18 (Nat.le_of_eq g128.symm)
    have Zs128 : n0 ≤ h128.size := Nat.le_trans Zs18 E128.1
    have V128 : DArr Z h128 b128 3 (fun _ => 0) := DArr.new A128 (by decide)
    refine own_to T128 (mkF m 104 #[.val (.int i0), .val (.long q1), .second, .val (.int (Int32.ofNat (z))), .val (.int (3 : Int32)), .val (.int (Int32.ofNat (b))), .val (.int (Int32.ofNat (3 + b))), .val (.ref b7), .val (.ref b128), .unset, .unset, .unset, .unset, .unset, .unset, .unset] [(.int (0 : Int32)), (.ref b7), (.int (0 : Int32)), (.ref b128)]) (fun tq kq => st128 _ (XS.astore X128.here hx rfl (hb hby at_91) rfl rfl (l' := #[.val (.int i0), .val (.long q1), .second, .val (.int (Int32.ofNat (z))), .val (.int (3 : Int32)), .val (.int (Int32.ofNat (b))), .val (.int (Int32.ofNat (3 + b))), .val (.ref b7), .val (.ref b128), .unset, .unset, .unset, .unset, .unset, .unset, .unset]) rfl (XS.iload X128.here hx rfl (hb hby at_93) rfl (XS.ifNo X128.here hx rfl (hb hby at_95) rfl ((if0 _ _).trans (tlt (by decide : (0 : Int32) < (3 : Int32))).2.2.2) (XS.aload X128.here hx rfl (hb hby at_98) rfl rfl (XS.iconst X128.here hx rfl (hb hby at_100) (XS.aload X128.here hx rfl (hb hby at_101) rfl rfl (XS.iconst X128.here hx rfl (hb hby at_103) kq)))))))) ?_
    obtain ⟨co130, Aro130, hszo130, hato130⟩ := id f129
    have hino130 : ¬ ((0 : Int32) < 0 ∨ co130.slots.size ≤ ((0 : Int32)).toNatClampNeg) := by rw [hszo130]; decide
    have hato130' : co130.slots[((0 : Int32)).toNatClampNeg]? = some (.double (fv (0))) := by rw [show ((0 : Int32)).toNatClampNeg = 0 from by decide]; exact hato130 _ (by omega)
    refine own_to T128 (mkF m 105 #[.val (.int i0), .val (.long q1), .second, .val (.int (Int32.ofNat (z))), .val (.int (3 : Int32)), .val (.int (Int32.ofNat (b))), .val (.int (Int32.ofNat (3 + b))), .val (.ref b7), .val (.ref b128), .unset, .unset, .unset, .unset, .unset, .unset, .unset] [(.double (fv (0))), (.int (0 : Int32)), (.ref b128)]) (fun tq kq => X128.daload hx (j := (0 : Int32)) (v := (.double (fv (0)))) (by rw [e128]; exact Aro130.1) (State.isArrayOf_alike hZ.alike Aro130.2.1) Aro130.2.2 hino130 hato130' (g := (mkF m 104 #[.val (.int i0), .val (.long q1), .second, .val (.int (Int32.ofNat (z))), .val (.int (3 : Int32)), .val (.int (Int32.ofNat (b))), .val (.int (Int32.ofNat (3 + b))), .val (.ref b7), .val (.ref b128), .unset, .unset, .unset, .unset, .unset, .unset, .unset] [(.int (0 : Int32)), (.ref b7), (.int (0 : Int32)), (.ref b128)])) rfl rfl (hb hby at_104) _ kq) ?_
    obtain ⟨co132, Aro132, hszo132, hato132⟩ := id V128
    obtain ⟨T131, h131, X131, e131, W131, st131⟩ := stD X128 hx hZ e128 Aro132 (j := (0 : Int32)) (by rw [hszo132]; decide) (g := (mkF m 105 #[.val (.int i0), .val (.long q1), .second, .val (.int (Int32.ofNat (z))), .val (.int (3 : Int32)), .val (.int (Int32.ofNat (b))), .val (.int (Int32.ofNat (3 + b))), .val (.ref b7), .val (.ref b128), .unset, .unset, .unset, .unset, .unset, .unset, .unset] [(.double (fv (0))), (.int (0 : Int32)), (.ref b128)])) rfl rfl (hb hby at_105)
    have f133 := f129.other W131 ne_b7_b128
    have N131 := Fr.snoc X131 N18 sz128
    have Zs131 : n0 ≤ h131.size := by rw [W131.size]; exact Zs128
    have V131 := DArr.set Aro132 hszo132 hato132 W131 (by decide : ((0 : Int32)).toNatClampNeg = 0)
    obtain ⟨f131, hf131⟩ : ∃ f', f' = own_upd (fun _ => 0) 0 (fv (0)) := ⟨_, rfl⟩
    rw [← hf131] at V131
    refine own_to T131 (mkF m 118 #[.val (.int i0), .val (.long q1), .second, .val (.int (Int32.ofNat (z))), .val (.int (3 : Int32)), .val (.int (Int32.ofNat (b))), .val (.int (Int32.ofNat (3 + b))), .val (.ref b7), .val (.ref b128), .unset, .unset, .unset, .unset, .unset, .unset, .unset] [(.int (1 : Int32)), (.ref b7), (.int (1 : Int32)), (.ref b128)]) (fun tq kq => st131 _ (XS.iload X131.here hx rfl (hb hby at_106) rfl (XS.iconst X131.here hx rfl (hb hby at_108) (XS.icmpNo X131.here hx rfl (hb hby at_109) rfl (tlt (by decide : (1 : Int32) < (3 : Int32))).2.2.2 (XS.aload X131.here hx rfl (hb hby at_112) rfl rfl (XS.iconst X131.here hx rfl (hb hby at_114) (XS.aload X131.here hx rfl (hb hby at_115) rfl rfl (XS.iconst X131.here hx rfl (hb hby at_117) kq)))))))) ?_
    obtain ⟨co134, Aro134, hszo134, hato134⟩ := id f133
    have hino134 : ¬ ((1 : Int32) < 0 ∨ co134.slots.size ≤ ((1 : Int32)).toNatClampNeg) := by rw [hszo134]; decide
    have hato134' : co134.slots[((1 : Int32)).toNatClampNeg]? = some (.double (fv (1))) := by rw [show ((1 : Int32)).toNatClampNeg = 1 from by decide]; exact hato134 _ (by omega)
    refine own_to T131 (mkF m 119 #[.val (.int i0), .val (.long q1), .second, .val (.int (Int32.ofNat (z))), .val (.int (3 : Int32)), .val (.int (Int32.ofNat (b))), .val (.int (Int32.ofNat (3 + b))), .val (.ref b7), .val (.ref b128), .unset, .unset, .unset, .unset, .unset, .unset, .unset] [(.double (fv (1))), (.int (1 : Int32)), (.ref b128)]) (fun tq kq => X131.daload hx (j := (1 : Int32)) (v := (.double (fv (1)))) (by rw [e131]; exact Aro134.1) (State.isArrayOf_alike hZ.alike Aro134.2.1) Aro134.2.2 hino134 hato134' (g := (mkF m 118 #[.val (.int i0), .val (.long q1), .second, .val (.int (Int32.ofNat (z))), .val (.int (3 : Int32)), .val (.int (Int32.ofNat (b))), .val (.int (Int32.ofNat (3 + b))), .val (.ref b7), .val (.ref b128), .unset, .unset, .unset, .unset, .unset, .unset, .unset] [(.int (1 : Int32)), (.ref b7), (.int (1 : Int32)), (.ref b128)])) rfl rfl (hb hby at_118) _ kq) ?_
    obtain ⟨co136, Aro136, hszo136, hato136⟩ := id V131
    obtain ⟨T135, h135, X135, e135, W135, st135⟩ := stD X131 hx hZ e131 Aro136 (j := (1 : Int32)) (by rw [hszo136]; decide) (g := (mkF m 119 #[.val (.int i0), .val (.long q1), .second, .val (.int (Int32.ofNat (z))), .val (.int (3 : Int32)), .val (.int (Int32.ofNat (b))), .val (.int (Int32.ofNat (3 + b))), .val (.ref b7), .val (.ref b128), .unset, .unset, .unset, .unset, .unset, .unset, .unset] [(.double (fv (1))), (.int (1 : Int32)), (.ref b128)])) rfl rfl (hb hby at_119)
    have f137 := f133.other W135 ne_b7_b128
    have N135 := Fr.snoc X135 N131 sz128
    have Zs135 : n0 ≤ h135.size := by rw [W135.size]; exact Zs131
    have V135 := DArr.set Aro136 hszo136 hato136 W135 (by decide : ((1 : Int32)).toNatClampNeg = 1)
    obtain ⟨f135, hf135⟩ : ∃ f', f' = own_upd f131 1 (fv (1)) := ⟨_, rfl⟩
    rw [← hf135] at V135
    refine own_to T135 (mkF m 132 #[.val (.int i0), .val (.long q1), .second, .val (.int (Int32.ofNat (z))), .val (.int (3 : Int32)), .val (.int (Int32.ofNat (b))), .val (.int (Int32.ofNat (3 + b))), .val (.ref b7), .val (.ref b128), .unset, .unset, .unset, .unset, .unset, .unset, .unset] [(.int (2 : Int32)), (.ref b7), (.int (2 : Int32)), (.ref b128)]) (fun tq kq => st135 _ (XS.iload X135.here hx rfl (hb hby at_120) rfl (XS.iconst X135.here hx rfl (hb hby at_122) (XS.icmpNo X135.here hx rfl (hb hby at_123) rfl (tlt (by decide : (2 : Int32) < (3 : Int32))).2.2.2 (XS.aload X135.here hx rfl (hb hby at_126) rfl rfl (XS.iconst X135.here hx rfl (hb hby at_128) (XS.aload X135.here hx rfl (hb hby at_129) rfl rfl (XS.iconst X135.here hx rfl (hb hby at_131) kq)))))))) ?_
    obtain ⟨co138, Aro138, hszo138, hato138⟩ := id f137
    have hino138 : ¬ ((2 : Int32) < 0 ∨ co138.slots.size ≤ ((2 : Int32)).toNatClampNeg) := by rw [hszo138]; decide
    have hato138' : co138.slots[((2 : Int32)).toNatClampNeg]? = some (.double (fv (2))) := by rw [show ((2 : Int32)).toNatClampNeg = 2 from by decide]; exact hato138 _ (by omega)
    refine own_to T135 (mkF m 133 #[.val (.int i0), .val (.long q1), .second, .val (.int (Int32.ofNat (z))), .val (.int (3 : Int32)), .val (.int (Int32.ofNat (b))), .val (.int (Int32.ofNat (3 + b))), .val (.ref b7), .val (.ref b128), .unset, .unset, .unset, .unset, .unset, .unset, .unset] [(.double (fv (2))), (.int (2 : Int32)), (.ref b128)]) (fun tq kq => X135.daload hx (j := (2 : Int32)) (v := (.double (fv (2)))) (by rw [e135]; exact Aro138.1) (State.isArrayOf_alike hZ.alike Aro138.2.1) Aro138.2.2 hino138 hato138' (g := (mkF m 132 #[.val (.int i0), .val (.long q1), .second, .val (.int (Int32.ofNat (z))), .val (.int (3 : Int32)), .val (.int (Int32.ofNat (b))), .val (.int (Int32.ofNat (3 + b))), .val (.ref b7), .val (.ref b128), .unset, .unset, .unset, .unset, .unset, .unset, .unset] [(.int (2 : Int32)), (.ref b7), (.int (2 : Int32)), (.ref b128)])) rfl rfl (hb hby at_132) _ kq) ?_
    obtain ⟨co140, Aro140, hszo140, hato140⟩ := id V135
    obtain ⟨T139, h139, X139, e139, W139, st139⟩ := stD X135 hx hZ e135 Aro140 (j := (2 : Int32)) (by rw [hszo140]; decide) (g := (mkF m 133 #[.val (.int i0), .val (.long q1), .second, .val (.int (Int32.ofNat (z))), .val (.int (3 : Int32)), .val (.int (Int32.ofNat (b))), .val (.int (Int32.ofNat (3 + b))), .val (.ref b7), .val (.ref b128), .unset, .unset, .unset, .unset, .unset, .unset, .unset] [(.double (fv (2))), (.int (2 : Int32)), (.ref b128)])) rfl rfl (hb hby at_133)
    have f141 := f137.other W139 ne_b7_b128
    have N139 := Fr.snoc X139 N135 sz128
    have Zs139 : n0 ≤ h139.size := by rw [W139.size]; exact Zs135
    have V139 := DArr.set Aro140 hszo140 hato140 W139 (by decide : ((2 : Int32)).toNatClampNeg = 2)
    obtain ⟨f139, hf139⟩ : ∃ f', f' = own_upd f135 2 (fv (2)) := ⟨_, rfl⟩
    rw [← hf139] at V139
    refine own_to T139 (mkF m 134 #[.val (.int i0), .val (.long q1), .second, .val (.int (Int32.ofNat (z))), .val (.int (3 : Int32)), .val (.int (Int32.ofNat (b))), .val (.int (Int32.ofNat (3 + b))), .val (.ref b7), .val (.ref b128), .unset, .unset, .unset, .unset, .unset, .unset, .unset] []) (fun tq kq => st139 _ kq) ?_
    exact J134 _ _ _ _ f139 X139 e139 N139 Zs139 sz128 f141 V139 (fun j hj => by have hj' : j = 0 ∨ j = 1 ∨ j = 2 := (by omega); rcases hj' with rfl | rfl | rfl <;> simp [hf131, hf135, hf139, own_upd])
set_option maxRecDepth 65536 in
set_option maxHeartbeats 40000000 in
theorem comes_1 {Post : Tables → Env → Array Value → State → Outcome → State → Prop} (hpost : ∀ tb e args s v u, (limb_1_1.after args s (.returned v) u = true ∧ limb_1_2.after args s (.returned v) u = true ∧ True) → FrameEnd s (.returned v) u (Jvm.fieldLocs frame_1_writes args s ++ Jvm.arrayLocs frame_1_arrays args s ++ Jvm.staticLocs frame_1_statics s) 24 128 → Post tb e args s (.returned v) u) :
    ArmFor flags0 classFile x code maxLocals ret World_1 tables_1 room_1 Calls_1 rest_1 Pre_1 Post := by
  intro l hfl _ _ p e ha hc hk s m args below hf hA hF happ hP
  obtain ⟨hcalls, hrest, hpre⟩ := hP
  obtain ⟨-, -, -, hnamed, -, -, -, hat⟩ := (Spec.applies_iff hf).mp happ
  obtain ⟨hg, hn⟩ := and_e (Cond.before_iff.mp (show (Jvm.Cond.and given_1 narrow_1).before args s = true from hpre))
  obtain ⟨q1, q2⟩ := and_e hg
  obtain ⟨q3, q4⟩ := and_e q2
  obtain ⟨w0, w1, rfl⟩ : ∃ w0 w1 : Value, args = #[w0, w1] := by
    have hs : args.size = 2 := by simpa [Cond.value, given_1] using q1
    obtain ⟨L⟩ := args
    match L, hs with
    | [w0, w1], _ => exact ⟨w0, w1, rfl⟩
  have hw := fun d (hd : d ∈ tables_1) => atoms_spec (ws := Jvm.Cond.code x code maxLocals ret :: tables_1) hat d (List.mem_cons_of_mem _ hd)
  have hfit : Fit s := fun {y c} hc i hi => by
    obtain ⟨ha, rfl⟩ := Array.getElem?_eq_some_iff.mp hc
    have q := List.all_eq_true.mp ((Array.all_eq_true_iff_forall_mem.mp hF) _ (Array.getElem_mem ha)) i (List.mem_range.mpr hi)
    simpa [Array.getElem?_eq_getElem hi] using q
  obtain ⟨i0, ei0⟩ := is_v q3
  obtain rfl : w0 = (.int i0) := Option.some.inj ei0
  obtain ⟨i1, ei1⟩ := isL_v q4
  obtain rfl : w1 = (.long i1) := Option.some.inj ei1
  obtain ⟨n, o, h1, h2, h3, _, L, rfl, ⟨rfl, N⟩, hq⟩ := rm0 l s _ hw tables_1 i0 i1 s.heap s.heap.size (Nat.le_refl _)  p e ha hc hk s m _ below hf ((Spec.applies_iff_loose hf).mp happ).1 ⟨rfl, State.Warmed39.refl s, rfl⟩ trivial
  refine ⟨n, _, h1, h2, h3, hpost _ _ _ _ _ _ ⟨Cond.after_iff.mpr rfl, Cond.after_iff.mpr (eq_i res_at (Term.int_eval (1)) rfl), trivial⟩ ⟨hq.1, hq.2.1, (hq.2.2.sift fun y hy => Or.inr (N y hy)).mono (by decide) (by decide)⟩⟩
theorem main_1_1 : Claimed_1_1 := comes_1 fun _ _ _ _ _ _ h hF => ⟨h.1, hF⟩
theorem main_1_2 : Claimed_1_2 := comes_1 fun _ _ _ _ _ _ h hF => ⟨h.2.1, hF⟩
end Jvm.Pilot.@@N@@
namespace Jvm.Pilot.@@N@@
open Jvm Jvm.ClassFile Sem Op Lib Jvm.Free Jvm.Stand Jvm.Pilot.@@N@@.Jvm.D
/-! MADE BY PROGRAM (witnessworld.py) out of the Statement's table words and the real class files: 9 classes; the members and pool entries that the words name. The judged class is class 1, her method 1. -/
namespace start1
open Jvm.ClassFile
def u (s : String) : CpInfo := .utf8 (stringToUtf16 s)
/-- a pool by its gaps: so many unusable entries, then the entry; so many at the end -/
def gap : Nat → List CpInfo → List CpInfo
  | 0, r => r
  | n + 1, r => .unusable :: gap n r
def poolList (es : List (Nat × CpInfo)) (last : Nat) : List CpInfo := es.foldr (fun e r => gap e.1 (e.2 :: r)) (gap last [])
def pool (es : List (Nat × CpInfo)) (last : Nat) : Array CpInfo := ⟨poolList es last⟩
def fileOf (pool : Array CpInfo) (this : Nat) (attrs : Array Attribute := #[]) (ms : Array MethodInfo := #[]) (fl : Nat := 33) (sup : Nat := 0) (ifs : Array Nat := #[]) (fds : Array FieldInfo := #[]) : ClassFile where
  minorVersion := 0
  majorVersion := 65
  constantPool := pool
  accessFlags := fl
  thisClass := this
  superClass := sup
  interfaces := ifs
  fields := fds
  methods := ms
  attributes := attrs
def plain (name : String) (sup : Option ClassId) : Class where
  name := name
  kind := .ordinary
  loader := none
  accessFlags := 33
  super := sup
  interfaces := #[]
  cf := none
  fields := #[]
  methods := #[]
  instanceTypes := #[]
  staticTypes := #[]
  resolved := #[]
  callSites := []
  init := .initialized
  statics := none
  mirror := none

def pool0 : Array CpInfo := pool [(5, u "<init>"), (0, u "()V"), (1, .class_ 10), (1, u "java/lang/Object")] 113

def k0c0 : Code := { maxStack := 0, maxLocals := 1, code := object_method_1_code, exceptionTable := #[], attributes := #[] }
def k0m0 : Method := { name := "<init>", desc := "()V", sig := { parameters := [], returnType := none }, accessFlags := 1, code := some k0c0 }
/-- java/lang/Object -/
def k0 : Class := { plain "java/lang/Object" none with
  accessFlags := 33
  interfaces := #[]
  cf := some (fileOf pool0 8 #[] #[{ accessFlags := 1, nameIndex := 5, descriptorIndex := 6, attributes := #[] }] 33 0 #[] #[])
  fields := #[]
  methods := #[k0m0]
  instanceTypes := #[]
  staticTypes := #[]
  resolved := Array.replicate 124 none
  statics := none }

def pool1 : Array CpInfo := pool [(2, .class_ 4), (1, u "java/lang/Object"), (0, u "<init>"), (0, u "()V"), (0, .methodref 8 9), (0, .class_ 10), (0, .nameAndType 11 12), (0, u "com/example/tidemark/tidemark/policy/RateWindowAddPinLaw"), (0, u "val"), (0, u "(JI)D"), (0, .class_ 14), (0, u "com/example/tidemark/tidemark/policy/RateWindow"), (0, .methodref 13 16), (0, .nameAndType 5 17), (0, u "(I)V"), (0, .methodref 13 19), (0, .nameAndType 20 21), (0, u "isFull"), (0, u "()Z"), (0, .methodref 13 23), (0, .nameAndType 24 25), (0, u "add"), (0, u "([D)V"), (0, .methodref 13 27), (0, .nameAndType 28 29), (0, u "rates"), (0, u "()[D"), (0, .methodref 8 31), (0, .nameAndType 32 33), (0, u "at"), (0, u "([D[DIII)Z"), (0, .long 255), (3, u "law"), (0, u "(IJ)Z")] 5

def k1m0 : Method := { name := "<init>", desc := "()V", sig := { parameters := [], returnType := none }, accessFlags := 1, code := none }
def k1c1 : Code := { maxStack := 5, maxLocals := 16, code := code, exceptionTable := #[], attributes := #[] }
def k1m1 : Method := { name := "law", desc := "(IJ)Z", sig := { parameters := [.int, .long], returnType := some .boolean }, accessFlags := 9, code := some k1c1 }
def k1c2 : Code := { maxStack := 5, maxLocals := 5, code := method_3_code, exceptionTable := #[], attributes := #[] }
def k1m2 : Method := { name := "at", desc := "([D[DIII)Z", sig := { parameters := [(.array .double), (.array .double), .int, .int, .int], returnType := some .boolean }, accessFlags := 10, code := some k1c2 }
def k1c3 : Code := { maxStack := 4, maxLocals := 3, code := method_4_code, exceptionTable := #[], attributes := #[] }
def k1m3 : Method := { name := "val", desc := "(JI)D", sig := { parameters := [.long, .int], returnType := some .double }, accessFlags := 10, code := some k1c3 }
/-- com/example/tidemark/tidemark/policy/RateWindowAddPinLaw -/
def k1 : Class := { plain "com/example/tidemark/tidemark/policy/RateWindowAddPinLaw" (some 0) with
  accessFlags := 49
  interfaces := #[]
  cf := some (fileOf pool1 8 #[] #[{ accessFlags := 1, nameIndex := 5, descriptorIndex := 6, attributes := #[] }, { accessFlags := 9, nameIndex := 38, descriptorIndex := 39, attributes := #[] }, { accessFlags := 10, nameIndex := 32, descriptorIndex := 33, attributes := #[] }, { accessFlags := 10, nameIndex := 11, descriptorIndex := 12, attributes := #[] }] 49 2 #[] #[])
  fields := #[]
  methods := #[k1m0, k1m1, k1m2, k1m3]
  instanceTypes := #[]
  staticTypes := #[]
  resolved := Array.replicate 45 none
  statics := none }

def pool2 : Array CpInfo := pool [(3, .methodref 4 5), (0, .class_ 6), (0, .nameAndType 7 8), (0, u "java/lang/Object"), (0, u "<init>"), (0, u "()V"), (0, .fieldref 10 11), (0, .class_ 12), (0, .nameAndType 13 14), (0, u "com/example/tidemark/tidemark/policy/RateWindow"), (0, u "recent"), (0, u "[D"), (10, .fieldref 10 26), (0, .nameAndType 27 28), (0, u "seen"), (0, u "J"), (0, u "MAX_SAMPLES"), (0, u "I"), (2, u "(I)V"), (6, u "add"), (0, u "([D)V"), (2, u "isFull"), (0, u "()Z"), (0, u "rates"), (0, u "()[D")] 2

def k2c0 : Code := { maxStack := 2, maxLocals := 2, code := prog_39_method_1_code, exceptionTable := #[], attributes := #[] }
def k2m0 : Method := { name := "<init>", desc := "(I)V", sig := { parameters := [.int], returnType := none }, accessFlags := 0, code := some k2c0 }
def k2c1 : Code := { maxStack := 5, maxLocals := 7, code := prog_39_method_4_code, exceptionTable := #[], attributes := #[] }
def k2m1 : Method := { name := "add", desc := "([D)V", sig := { parameters := [(.array .double)], returnType := none }, accessFlags := 0, code := some k2c1 }
def k2c2 : Code := { maxStack := 4, maxLocals := 1, code := prog_39_method_5_code, exceptionTable := #[], attributes := #[] }
def k2m2 : Method := { name := "isFull", desc := "()Z", sig := { parameters := [], returnType := some .boolean }, accessFlags := 0, code := some k2c2 }
def k2c3 : Code := { maxStack := 7, maxLocals := 3, code := prog_39_method_6_code, exceptionTable := #[], attributes := #[] }
def k2m3 : Method := { name := "rates", desc := "()[D", sig := { parameters := [], returnType := some (.array .double) }, accessFlags := 0, code := some k2c3 }
/-- com/example/tidemark/tidemark/policy/RateWindow -/
def k2 : Class := { plain "com/example/tidemark/tidemark/policy/RateWindow" (some 0) with
  accessFlags := 48
  interfaces := #[]
  cf := some (fileOf pool2 10 #[] #[{ accessFlags := 0, nameIndex := 7, descriptorIndex := 33, attributes := #[] }, { accessFlags := 0, nameIndex := 40, descriptorIndex := 41, attributes := #[] }, { accessFlags := 0, nameIndex := 44, descriptorIndex := 45, attributes := #[] }, { accessFlags := 0, nameIndex := 46, descriptorIndex := 47, attributes := #[] }] 48 4 #[] #[{ accessFlags := 24, nameIndex := 29, descriptorIndex := 30, attributes := #[] }, { accessFlags := 18, nameIndex := 13, descriptorIndex := 14, attributes := #[] }, { accessFlags := 2, nameIndex := 27, descriptorIndex := 28, attributes := #[] }])
  fields := #[{ name := "MAX_SAMPLES", type := .int, accessFlags := 24, slot := 0, constantValue := 0 }, { name := "recent", type := (.array .double), accessFlags := 18, slot := 0, constantValue := 0 }, { name := "seen", type := .long, accessFlags := 2, slot := 1, constantValue := 0 }]
  methods := #[k2m0, k2m1, k2m2, k2m3]
  instanceTypes := #[(.array .double), .long]
  staticTypes := #[.int]
  resolved := Array.replicate 50 none
  statics := none }

def pool3 : Array CpInfo := pool [(1, u "java/lang/Cloneable"), (0, .class_ 1), (0, u "java/lang/Object"), (0, .class_ 3)] 3

/-- java/lang/Cloneable -/
def k3 : Class := { plain "java/lang/Cloneable" (some 0) with
  accessFlags := 1537
  interfaces := #[]
  cf := some (fileOf pool3 2 #[] #[] 1537 4 #[] #[])
  fields := #[]
  methods := #[]
  instanceTypes := #[]
  staticTypes := #[]
  resolved := Array.replicate 8 none
  statics := none }

def pool4 : Array CpInfo := pool [(1, u "java/io/Serializable"), (0, .class_ 1), (0, u "java/lang/Object"), (0, .class_ 3)] 3

/-- java/io/Serializable -/
def k4 : Class := { plain "java/io/Serializable" (some 0) with
  accessFlags := 1537
  interfaces := #[]
  cf := some (fileOf pool4 2 #[] #[] 1537 4 #[] #[])
  fields := #[]
  methods := #[]
  instanceTypes := #[]
  staticTypes := #[]
  resolved := Array.replicate 8 none
  statics := none }

/-- the primitive byte -/
def k5 : Class := { plain "byte" none with kind := .primitive 'B', accessFlags := 0x411 }
/-- [B -/
def k6 : Class := { plain "[B" (some 0) with kind := .array 5 .byte, interfaces := #[3, 4], accessFlags := 1041 }

/-- the primitive int -/
def k7 : Class := { plain "int" none with kind := .primitive 'I', accessFlags := 0x411 }
/-- [I -/
def k8 : Class := { plain "[I" (some 0) with kind := .array 7 .int, interfaces := #[3, 4], accessFlags := 1041 }

/-- the primitive double -/
def k9 : Class := { plain "double" none with kind := .primitive 'D', accessFlags := 0x411 }
/-- [D -/
def k10 : Class := { plain "[D" (some 0) with kind := .array 9 .double, interfaces := #[3, 4], accessFlags := 1041 }

def heap : Heap := #[]
def classes : Array Class := #[k0, k1, k2, k3, k4, k5, k6, k7, k8, k9, k10]
def interned : List (Array UInt16 × Addr) := []
def slotsUsed : Nat := 0
def theMethod : MethodId := ⟨1, 1⟩
def args0 : Array Value := #[.int 27, .long 5]
def aboutOver (below : List Frame) : State where
  vm := { classes := classes, interned := interned.toArray }
  heap := heap
  slotsUsed := slotsUsed
  threads := #[{ frames := .invoking theMethod args0 :: below }]
def below0 : List Frame := [.native { method := ⟨0, 0⟩, args := #[] }]
def about1 : State := aboutOver below0
def p0 : Program := .bare "" "" ""
def e0 : Env := launch0.env 0 0 0
theorem w_frames : about1.frames = Frame.invoking theMethod args0 :: below0 := rfl
set_option maxRecDepth 65536 in
theorem w_args : argsFit about1.vm theMethod args0 = true := by decide +kernel
set_option maxRecDepth 65536 in
theorem w_heap : heapFits about1 = true := by decide +kernel
set_option maxRecDepth 65536 in
theorem w_runnable : about1.curStatus? = some .runnable := by decide +kernel
set_option maxRecDepth 65536 in
theorem w_alone : about1.alone = true := by decide +kernel
set_option maxRecDepth 65536 in
theorem w_named : about1.methodNamed? x = some theMethod := by decide +kernel
set_option maxRecDepth 65536 in
theorem w_hears : about1.hears theMethod below0 = true := by decide +kernel
set_option maxRecDepth 65536 in
theorem w_ripe : about1.ripe theMethod args0 below0 = true := by decide +kernel
theorem w_running : about1.status = .running := rfl
set_option maxRecDepth 65536 in
theorem w_room : about1.hasRoom e0.platform room_1 = true :=
  launch0.hasRoom_least _ room_1 (by decide +kernel) (by decide +kernel) (by decide +kernel) (by decide +kernel) (by decide +kernel) (by decide +kernel)
theorem allAtoms_all (ts : List Jvm.Cond) (a : Array Jvm.Value) (st : Jvm.State) : (allAtoms ts).before a st = ts.all (fun c => c.before a st) := by
  induction ts with
  | nil => rfl
  | cons c t ih =>
    show (Jvm.Cond.and c (allAtoms t)).before a st = _
    rw [Jvm.Cond.before_and, ih, List.all_cons]
def words1 : List Jvm.Cond := Jvm.Cond.code x code maxLocals ret :: tables_1
/-- a 'code' word, met by the world's own term for the bytes: nothing is compared byte by byte -/
theorem code_word {y : MethodName} {bytes : ByteArray} {mx : Nat} {rt : Option FieldType} {a : Array Value} {s : State} {m : MethodId} {meth : Method} {c : Code} (h1 : s.methodNamed? y = some m) (h2 : s.vm.method? m = some meth) (h3 : meth.code = some c) (h4 : c.code = bytes)
    (h5 : (c.maxLocals == mx && c.exceptionTable.isEmpty && decide (c.maxStack ≤ mostOperands) && decide (meth.sig.returnType = rt) && !meth.locks && decide (parseMethodDescriptor y.desc = some meth.sig)) = true) : (Jvm.Cond.code y bytes mx rt).before a s = true := by
  simp only [Bool.and_eq_true, beq_iff_eq, Bool.not_eq_true', decide_eq_true_eq] at h5
  obtain ⟨⟨⟨⟨⟨g1, g2⟩, g3⟩, g4⟩, g5⟩, g6⟩ := h5
  simp [Cond.before, Cond.holds, Cond.value, h1, h2, h3, h4, g1, g2, g3, g4, g5, g6]
def isCode : Jvm.Cond → Bool
  | .code _ _ _ _ => true
  | _ => false
theorem all_split {L : List Jvm.Cond} {P : Jvm.Cond → Bool} (h1 : L.all (fun c => isCode c || P c) = true) (h2 : ∀ c ∈ L.filter isCode, P c = true) : L.all P = true := by
  refine List.all_eq_true.mpr fun c hc => ?_
  have h := List.all_eq_true.mp h1 c hc
  rcases Bool.eq_false_or_eq_true (isCode c) with hi | hi
  · exact h2 c (List.mem_filter.mpr ⟨hc, hi⟩)
  · simpa [hi] using h
set_option maxRecDepth 65536 in
theorem w_c0 : (Jvm.Cond.code x code maxLocals ret).before args0 about1 = true := code_word (m := ⟨1, 1⟩) (meth := k1m1) (c := k1c1) (by decide +kernel) rfl rfl rfl (by decide +kernel)
set_option maxRecDepth 65536 in
theorem w_c1 : (Jvm.Cond.code ({ cls := "com/example/tidemark/tidemark/policy/RateWindowAddPinLaw", name := "val", desc := "(JI)D" } : Jvm.MethodName) method_4_code (3 : Nat) (Option.some Jvm.ClassFile.FieldType.double)).before args0 about1 = true := code_word (m := ⟨1, 3⟩) (meth := k1m3) (c := k1c3) (by decide +kernel) rfl rfl rfl (by decide +kernel)
set_option maxRecDepth 65536 in
theorem w_c2 : (Jvm.Cond.code ({ cls := "com/example/tidemark/tidemark/policy/RateWindow", name := "<init>", desc := "(I)V" } : Jvm.MethodName) prog_39_method_1_code (2 : Nat) (Option.none : Option Jvm.ClassFile.FieldType)).before args0 about1 = true := code_word (m := ⟨2, 0⟩) (meth := k2m0) (c := k2c0) (by decide +kernel) rfl rfl rfl (by decide +kernel)
set_option maxRecDepth 65536 in
theorem w_c3 : (Jvm.Cond.code ({ cls := "java/lang/Object", name := "<init>", desc := "()V" } : Jvm.MethodName) object_method_1_code (1 : Nat) (Option.none : Option Jvm.ClassFile.FieldType)).before args0 about1 = true := code_word (m := ⟨0, 0⟩) (meth := k0m0) (c := k0c0) (by decide +kernel) rfl rfl rfl (by decide +kernel)
set_option maxRecDepth 65536 in
theorem w_c4 : (Jvm.Cond.code ({ cls := "com/example/tidemark/tidemark/policy/RateWindow", name := "isFull", desc := "()Z" } : Jvm.MethodName) prog_39_method_5_code (1 : Nat) (Option.some Jvm.ClassFile.FieldType.boolean)).before args0 about1 = true := code_word (m := ⟨2, 2⟩) (meth := k2m2) (c := k2c2) (by decide +kernel) rfl rfl rfl (by decide +kernel)
set_option maxRecDepth 65536 in
theorem w_c5 : (Jvm.Cond.code ({ cls := "com/example/tidemark/tidemark/policy/RateWindow", name := "add", desc := "([D)V" } : Jvm.MethodName) prog_39_method_4_code (7 : Nat) (Option.none : Option Jvm.ClassFile.FieldType)).before args0 about1 = true := code_word (m := ⟨2, 1⟩) (meth := k2m1) (c := k2c1) (by decide +kernel) rfl rfl rfl (by decide +kernel)
set_option maxRecDepth 65536 in
theorem w_c6 : (Jvm.Cond.code ({ cls := "com/example/tidemark/tidemark/policy/RateWindow", name := "rates", desc := "()[D" } : Jvm.MethodName) prog_39_method_6_code (3 : Nat) (Option.some (Jvm.ClassFile.FieldType.array Jvm.ClassFile.FieldType.double))).before args0 about1 = true := code_word (m := ⟨2, 3⟩) (meth := k2m3) (c := k2c3) (by decide +kernel) rfl rfl rfl (by decide +kernel)
set_option maxRecDepth 65536 in
theorem w_c7 : (Jvm.Cond.code ({ cls := "com/example/tidemark/tidemark/policy/RateWindowAddPinLaw", name := "at", desc := "([D[DIII)Z" } : Jvm.MethodName) method_3_code (5 : Nat) (Option.some Jvm.ClassFile.FieldType.boolean)).before args0 about1 = true := code_word (m := ⟨1, 2⟩) (meth := k1m2) (c := k1c2) (by decide +kernel) rfl rfl rfl (by decide +kernel)
def codes1 : List Jvm.Cond := [Jvm.Cond.code x code maxLocals ret, Jvm.Cond.code ({ cls := "com/example/tidemark/tidemark/policy/RateWindowAddPinLaw", name := "val", desc := "(JI)D" } : Jvm.MethodName) method_4_code (3 : Nat) (Option.some Jvm.ClassFile.FieldType.double), Jvm.Cond.code ({ cls := "com/example/tidemark/tidemark/policy/RateWindow", name := "<init>", desc := "(I)V" } : Jvm.MethodName) prog_39_method_1_code (2 : Nat) (Option.none : Option Jvm.ClassFile.FieldType), Jvm.Cond.code ({ cls := "java/lang/Object", name := "<init>", desc := "()V" } : Jvm.MethodName) object_method_1_code (1 : Nat) (Option.none : Option Jvm.ClassFile.FieldType), Jvm.Cond.code ({ cls := "com/example/tidemark/tidemark/policy/RateWindow", name := "isFull", desc := "()Z" } : Jvm.MethodName) prog_39_method_5_code (1 : Nat) (Option.some Jvm.ClassFile.FieldType.boolean), Jvm.Cond.code ({ cls := "com/example/tidemark/tidemark/policy/RateWindow", name := "add", desc := "([D)V" } : Jvm.MethodName) prog_39_method_4_code (7 : Nat) (Option.none : Option Jvm.ClassFile.FieldType), Jvm.Cond.code ({ cls := "com/example/tidemark/tidemark/policy/RateWindow", name := "rates", desc := "()[D" } : Jvm.MethodName) prog_39_method_6_code (3 : Nat) (Option.some (Jvm.ClassFile.FieldType.array Jvm.ClassFile.FieldType.double)), Jvm.Cond.code ({ cls := "com/example/tidemark/tidemark/policy/RateWindowAddPinLaw", name := "at", desc := "([D[DIII)Z" } : Jvm.MethodName) method_3_code (5 : Nat) (Option.some Jvm.ClassFile.FieldType.boolean)]
set_option maxRecDepth 65536 in
theorem codes_eq : words1.filter isCode = codes1 := rfl
theorem w_codes : ∀ c ∈ words1.filter isCode, c.before args0 about1 = true := by
  rw [codes_eq]
  intro c hc
  simp only [codes1, List.mem_cons, List.not_mem_nil, or_false] at hc
  rcases hc with rfl | rfl | rfl | rfl | rfl | rfl | rfl | rfl
  · exact w_c0
  · exact w_c1
  · exact w_c2
  · exact w_c3
  · exact w_c4
  · exact w_c5
  · exact w_c6
  · exact w_c7
set_option maxRecDepth 65536 in
theorem w_t1 : (words1.take 24).all (fun c => isCode c || c.before args0 about1) = true := by decide +kernel
set_option maxRecDepth 65536 in
theorem w_t2 : (words1.drop 24).all (fun c => isCode c || c.before args0 about1) = true := by decide +kernel
theorem w_tables : (allAtoms (Jvm.Cond.code x code maxLocals ret :: tables_1)).before args0 about1 = true := by
  rw [allAtoms_all]
  show words1.all (fun c => c.before args0 about1) = true
  refine all_split ?_ w_codes
  rw [← List.take_append_drop 24 words1, List.all_append, w_t1, w_t2]
  rfl
set_option maxRecDepth 65536 in
theorem w_case : (Jvm.Cond.and given_1 narrow_1).before args0 about1 = true := by decide +kernel
theorem w_applies : (headSpec (Jvm.Cond.code x code maxLocals ret :: tables_1) room_1).applies x e0.platform about1 = true :=
  (Spec.applies_iff w_frames).mpr ⟨w_running, w_runnable, w_alone, w_named, w_hears, w_ripe, w_room, w_tables⟩
theorem atStart : AtStart classFile x code maxLocals ret World_1 tables_1 room_1 Calls_1 rest_1 Pre_1 launch0 p0 e0 about1 theMethod args0 below0 :=
  ⟨lists_1, trivial, launch0.admits_env _ _ _, launch0.least_env, fairChoices_fair.cas, fairChoices_fair.clock, w_frames, w_args, w_heap, w_applies, trivial, trivial, w_case⟩
end start1
theorem witness_1 : WitnessClaimed_1 := ⟨start1.p0, start1.e0, start1.about1, start1.theMethod, start1.args0, start1.below0, start1.atStart⟩
end Jvm.Pilot.@@N@@
