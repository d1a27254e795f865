import JvmDerived
import JvmDerived.Pilot.@@N@@Statement
import JvmDerived.Pilot.@@N@@Code
set_option linter.unusedVariables false
set_option linter.unusedSimpArgs false
namespace Jvm.Pilot.@@N@@
open Jvm Jvm.ClassFile Sem Op Lib Jvm.Free Jvm.Stand Jvm.LawKit Jvm.RoadKit Bundle Jvm.Pilot.@@N@@.Jvm.D
/-! own kit: a walk as a chain of "from here the run ends well" -/
section OwnKit
/-- from T with the frame g on top the run goes on and ends as Q says -/
def Own (p : Program) (e : Env) (below : List Frame) (s : State) (kc ks : Nat) (Q : Option Value → Heap → List Loc → Prop) (T : State) (g : JFrame) : Prop :=
  ∃ s₂ o, Steps p.tables e below (T.setTop g) s₂ ∧ s₂.status = .running ∧ Ended s₂ below o ∧ ∃ v L, o = .returned v ∧ Q v s₂.heap L ∧ FrameEnd s o s₂ L kc ks
variable {p : Program} {l : Launch} {e : Env} {R : Room} {s : State} {m : MethodId} {args : Array Value} {below : List Frame} {meth : Method} {c : Code} {T T' : State} {locs : List Loc} {cells slots kc ks : Nat} {Q : Option Value → Heap → List Loc → Prop}
/-- unlike addresses, hidden from omega -/
def own_ne (a b : Addr) : Prop := a ≠ b
theorem own_staK {Z : State} {h h' : Heap} {C n d : String} {v : Value} (F : Sta Z h C n d v) (K : Keep h h' []) : Sta Z h' C n d v := by
  obtain ⟨cf, i, k, f, st, cell, h1, h2, h3, h4, h5, r⟩ := F
  exact ⟨cf, i, k, f, st, cell, h1, h2, h3, h4, K.2.1 _ _ h5 (by simp), r⟩
theorem own_go {g g' : JFrame} (h : ∀ t, Steps p.tables e below (T'.setTop g') t → Steps p.tables e below (T.setTop g) t) (k : Own p e below s kc ks Q T' g') : Own p e below s kc ks Q T g := by
  obtain ⟨s₂, o, h1, r⟩ := k
  exact ⟨s₂, o, h _ h1, r⟩
theorem own_to (T' : State) (g' : JFrame) {g : JFrame} (h : ∀ t, Steps p.tables e below (T'.setTop g') t → Steps p.tables e below (T.setTop g) t) (k : Own p e below s kc ks Q T' g') : Own p e below s kc ks Q T g := own_go h k
theorem own_ret (X : Stand p l e R s m args below meth c T locs cells slots) (hx : p.tables.exec = Jvm.exec) {pc : Nat} {Ls : Array Slot} {w : Value} {t : FieldType} {i : Instr} {rest : List Value} (hret : meth.sig.returnType = some t) (hlk : meth.locks = false) (hn : narrow t w = w)
    (hi : (i = .ireturn ∧ (t = .int ∨ t = .boolean ∨ t = .byte ∨ t = .char ∨ t = .short) ∧ ∃ z, w = .int z) ∨ (i = .lreturn ∧ t = .long ∧ ∃ z, w = .long z) ∨ (i = .dreturn ∧ t = .double ∧ ∃ z, w = .double z) ∨ (i = .freturn ∧ t = .float ∧ ∃ z, w = .float z) ∨ (i = .areturn ∧ t.isReference = true ∧ w.isRef = true))
    (hd : decode c.code pc = .ok (i, 1)) (hc : cells ≤ kc) (hs : slots ≤ ks) (q : Q (some w) T.heap locs) : Own p e below s kc ks Q T (mkF m pc Ls (w :: rest)) := by
  obtain ⟨fs, hr, hrun, hended, hW, hsame⟩ := X.leave (v := some w) (fun h => by rw [hret] at h; cases h) hlk
  exact ⟨_, _, retOut X hx hret hn hi hd hr, hrun, hended, _, locs, rfl, q, ⟨_, rfl⟩, hW, hsame.mono hc hs⟩
theorem own_retI (X : Stand p l e R s m args below meth c T locs cells slots) (hx : p.tables.exec = Jvm.exec) {pc : Nat} {Ls : Array Slot} {z : Int32} {rest : List Value} (hret : meth.sig.returnType = some .int) (hlk : meth.locks = false)
    (hd : decode c.code pc = .ok (.ireturn, 1)) (hc : cells ≤ kc) (hs : slots ≤ ks) (q : Q (some (.int z)) T.heap locs) : Own p e below s kc ks Q T (mkF m pc Ls (.int z :: rest)) :=
  own_ret X hx hret hlk rfl (Or.inl ⟨rfl, Or.inl rfl, _, rfl⟩) hd hc hs q
theorem own_retZ (X : Stand p l e R s m args below meth c T locs cells slots) (hx : p.tables.exec = Jvm.exec) {pc : Nat} {Ls : Array Slot} {z : Int32} {rest : List Value} (hret : meth.sig.returnType = some .boolean) (hlk : meth.locks = false)
    (hd : decode c.code pc = .ok (.ireturn, 1)) (hc : cells ≤ kc) (hs : slots ≤ ks) (hz : z = 0 ∨ z = 1) (q : Q (some (.int z)) T.heap locs) : Own p e below s kc ks Q T (mkF m pc Ls (.int z :: rest)) :=
  own_ret X hx hret hlk (by rcases hz with rfl | rfl <;> rfl) (Or.inl ⟨rfl, Or.inr (Or.inl rfl), _, rfl⟩) hd hc hs q
theorem own_retC (X : Stand p l e R s m args below meth c T locs cells slots) (hx : p.tables.exec = Jvm.exec) {pc : Nat} {Ls : Array Slot} {z : Int32} {rest : List Value} (hret : meth.sig.returnType = some .char) (hlk : meth.locks = false)
    (hd : decode c.code pc = .ok (.ireturn, 1)) (hc : cells ≤ kc) (hs : slots ≤ ks) (hz : z.toUInt32.toUInt16.toUInt32.toInt32 = z) (q : Q (some (.int z)) T.heap locs) : Own p e below s kc ks Q T (mkF m pc Ls (.int z :: rest)) :=
  own_ret X hx hret hlk (congrArg Value.int hz) (Or.inl ⟨rfl, Or.inr (Or.inr (Or.inr (Or.inl rfl))), _, rfl⟩) hd hc hs q
theorem own_retJ (X : Stand p l e R s m args below meth c T locs cells slots) (hx : p.tables.exec = Jvm.exec) {pc : Nat} {Ls : Array Slot} {z : Int64} {rest : List Value} (hret : meth.sig.returnType = some .long) (hlk : meth.locks = false)
    (hd : decode c.code pc = .ok (.lreturn, 1)) (hc : cells ≤ kc) (hs : slots ≤ ks) (q : Q (some (.long z)) T.heap locs) : Own p e below s kc ks Q T (mkF m pc Ls (.long z :: rest)) :=
  own_ret X hx hret hlk rfl (Or.inr (Or.inl ⟨rfl, rfl, _, rfl⟩)) hd hc hs q
theorem own_retD (X : Stand p l e R s m args below meth c T locs cells slots) (hx : p.tables.exec = Jvm.exec) {pc : Nat} {Ls : Array Slot} {z : UInt64} {rest : List Value} (hret : meth.sig.returnType = some .double) (hlk : meth.locks = false)
    (hd : decode c.code pc = .ok (.dreturn, 1)) (hc : cells ≤ kc) (hs : slots ≤ ks) (q : Q (some (.double z)) T.heap locs) : Own p e below s kc ks Q T (mkF m pc Ls (.double z :: rest)) :=
  own_ret X hx hret hlk rfl (Or.inr (Or.inr (Or.inl ⟨rfl, rfl, _, rfl⟩))) hd hc hs q
theorem own_retA (X : Stand p l e R s m args below meth c T locs cells slots) (hx : p.tables.exec = Jvm.exec) {pc : Nat} {Ls : Array Slot} {w : Value} {t : FieldType} {rest : List Value} (hret : meth.sig.returnType = some t) (hlk : meth.locks = false)
    (ht : t.isReference = true) (hw : w.isRef = true) (hd : decode c.code pc = .ok (.areturn, 1)) (hc : cells ≤ kc) (hs : slots ≤ ks) (q : Q (some w) T.heap locs) : Own p e below s kc ks Q T (mkF m pc Ls (w :: rest)) :=
  own_ret X hx hret hlk (by cases t <;> cases w <;> first | rfl | (cases ht; done) | (cases hw; done)) (Or.inr (Or.inr (Or.inr (Or.inr ⟨rfl, ht, hw⟩)))) hd hc hs q
theorem own_retV (X : Stand p l e R s m args below meth c T locs cells slots) (hx : p.tables.exec = Jvm.exec) {pc : Nat} {Ls : Array Slot} (hret : meth.sig.returnType = none) (hlk : meth.locks = false)
    (hd : decode c.code pc = .ok (.return_, 1)) (hc : cells ≤ kc) (hs : slots ≤ ks) (q : Q none T.heap locs) : Own p e below s kc ks Q T (mkF m pc Ls []) := by
  obtain ⟨fs, hr, hrun, hended, hW, hsame⟩ := X.leave (v := none) (fun _ => rfl) hlk
  exact ⟨_, _, X.returnOut hx hret hd hr, hrun, hended, _, locs, rfl, q, ⟨_, rfl⟩, hW, hsame.mono hc hs⟩
/-- a body's contract out of its walk -/
theorem own_met {Z : State} {h0 : Heap} {y : MethodName} {bytes : ByteArray} {ml : Nat} {ret : Option FieldType} {ws : List Jvm.Cond} {rm : Room} {as' : Array Value} (hp : plainFor y = true)
    (body : ∀ (p : Program) (e : Env) (s : State) (m : MethodId) (below : List Frame) (meth : Method) (c : Code) (s₁ : State), Stand p l e rm s m as' below meth c s₁ [] 0 0 → p.tables.exec = Jvm.exec → c.code = bytes → c.maxLocals = ml → meth.sig.returnType = ret → meth.locks = false →
      s.vm.findClass y.cls = some m.cls → meth.name = y.name → Z.Warmed39 s.vm → s₁.heap = h0 → Own p e below s rm.cells rm.slots Q s₁ (entryFrame m as' ml)) :
    MetFree l y (head1 (Jvm.Cond.code y bytes ml ret :: ws) rm) (fun a U => a = as' ∧ Z.Warmed39 U.vm ∧ U.heap = h0) (fun _ _ _ _ _ => True) (fun _ U o U' => ∃ v L, o = .returned v ∧ Q v U'.heap L ∧ FrameEnd U o U' L rm.cells rm.slots) := by
  refine MetFree.of_bodySF hp hisR ?_
  intro p e s m args below meth c s₁ Bd hml0 hP hK
  obtain ⟨rfl, hZ, hh⟩ := hP
  exact body p e s m below meth c s₁ (Stand.of_body Bd) Bd.exec Bd.bytes hml0 Bd.returns Bd.notSynchronized (findClass_of_methodNamed Bd.named) (name_of_methodNamed Bd.named Bd.method).1 hZ (by rw [← hh, Bd.state]; rfl)
theorem own_entry {g g' : JFrame} (q : g = g') (k : Own p e below s kc ks Q T g') : Own p e below s kc ks Q T g := q ▸ k
theorem own_mvMN {Z s : State} {a0 args : Array Value} {own host : String} {index : Nat} {y : MethodName} (hZ : Z.Warmed39 s.vm) (w : (Jvm.Cond.methodLinkNest own index y host).before a0 Z = true) : (Jvm.Cond.methodLinkNest own index y host).before args s = true := (Jvm.Cond.methodLinkNest_wide hZ w :)
theorem own_w {Z : State} {a0 : Array Value} (hw : ∀ d ∈ tables_1, d.before a0 Z = true) (i : Nat) {d : Jvm.Cond} (h : tables_1[i]? = some d) : d.before a0 Z = true := hw _ (List.mem_of_getElem? h)
end OwnKit
def own_upd (f : Nat → UInt64) (i : Nat) (x : UInt64) : Nat → UInt64 := fun j => if j = i then x else f j
def own_R (z : Nat) (w : Nat → UInt64) (g : Nat → UInt64) (n : Nat) : Prop := ∀ k, k < n → n ≤ k + z → g (k % z) = w k
theorem own_R0 (z : Nat) (w g : Nat → UInt64) : own_R z w g 0 := fun _ h => absurd h (Nat.not_lt_zero _)
theorem own_mod_ne {z n k : Nat} (hz : 0 < z) (h1 : k < n) (h2 : n < k + z) : k % z ≠ n % z := fun h => by
  have e1 := Nat.div_add_mod k z
  have e2 := Nat.div_add_mod n z
  rw [h] at e1
  have h3 : z * (n / z) < z * (k / z) + z := by omega
  have h4 : z * (k / z) < z * (n / z) := by omega
  have h5 : k / z < n / z := Nat.lt_of_mul_lt_mul_left h4
  have h6 : z * (k / z + 1) ≤ z * (n / z) := Nat.mul_le_mul_left z h5
  rw [Nat.mul_add] at h6
  omega
theorem own_R1 {z : Nat} (hz : 0 < z) {w g : Nat → UInt64} {n : Nat} (h : own_R z w g n) {x : UInt64} (hx : x = w n) : own_R z w (own_upd g (n % z) x) (n + 1) := fun k h1 h2 => by
  unfold own_upd
  by_cases e : k = n
  · rw [e, if_pos rfl, hx]
  · rw [if_neg (own_mod_ne hz (by omega) (by omega))]
    exact h k (by omega) (by omega)
theorem own_Rget {z : Nat} {w g : Nat → UInt64} {n i : Nat} (h : own_R z w g n) (hz : z ≤ n) (hi : i < z) : g ((n + i) % z) = w (n - z + i) := by
  have e : (n + i) % z = (n - z + i) % z := by
    rw [show n + i = (n - z + i) + z by omega, Nat.add_mod_right]
  rw [e]; exact h _ (by omega) (by omega)
theorem own_t64 {n : Nat} (h : n < 64) : (Int64.ofNat n).toInt = n := by
  have key : ∀ n : Fin 64, (Int64.ofNat n).toInt = (n : Nat) := by decide +kernel
  exact key ⟨n, h⟩
theorem own_i2l {n : Nat} (h : n < 64) : (Int32.ofNat n).toInt64 = Int64.ofNat n := by
  have key : ∀ n : Fin 64, (Int32.ofNat n).toInt64 = Int64.ofNat n := by decide +kernel
  exact key ⟨n, h⟩
theorem own_l2i {n : Nat} (h : n < 64) : (Int64.ofNat n).toInt32 = Int32.ofNat n := by
  have key : ∀ n : Fin 64, (Int64.ofNat n).toInt32 = Int32.ofNat n := by decide +kernel
  exact key ⟨n, h⟩
theorem own_lrem {a z : Nat} (ha : a < 64) (h0 : 0 < z) (hz : z < 8) : (Int64.ofNat a - (Int64.ofNat a / Int64.ofNat z) * Int64.ofNat z) = Int64.ofNat (a % z) := by
  have key : ∀ a : Fin 64, ∀ z : Fin 8, 0 < z.1 → (Int64.ofNat a - (Int64.ofNat a / Int64.ofNat z) * Int64.ofNat z) = Int64.ofNat (a % z) := by decide +kernel
  exact key ⟨a, ha⟩ ⟨z, hz⟩ h0
theorem own_lnz {z : Nat} (h0 : 0 < z) (hz : z < 8) : Int64.ofNat z ≠ 0 := by
  have key : ∀ z : Fin 8, 0 < z.1 → Int64.ofNat z ≠ 0 := by decide +kernel
  exact key ⟨z, hz⟩ h0
theorem own_ladd {a b : Nat} (ha : a < 48) (hb : b < 16) : Int64.ofNat a + Int64.ofNat b = Int64.ofNat (a + b) := by
  have key : ∀ a : Fin 48, ∀ b : Fin 16, Int64.ofNat a + Int64.ofNat b = Int64.ofNat (a + b) := by decide +kernel
  exact key ⟨a, ha⟩ ⟨b, hb⟩
theorem own_lltn {a b : Nat} (ha : a < 64) (hb : b < 64) : Int64.ofNat a < Int64.ofNat b ↔ a < b := by
  rw [Int64.lt_iff_toInt_lt, own_t64 ha, own_t64 hb]; omega
theorem own_addn (a b : Nat) (ha : a < 1000) (hb : b < 1000) : Int32.ofNat a + Int32.ofNat b = Int32.ofNat (a + b) := by
  rw [← Int32.toInt_inj, toInt_of (n := Int32.ofNat (a + b)) rfl (by omega)]
  have q := c_iadd (Int32.ofNat a) (Int32.ofNat b)
  rw [toInt_of (n := Int32.ofNat a) rfl (by omega), toInt_of (n := Int32.ofNat b) rfl (by omega)] at q
  have r := rng32 (Int32.ofNat a + Int32.ofNat b)
  omega
theorem own_subn (a b : Nat) (h : b ≤ a) (ha : a < 1000) : Int32.ofNat a - Int32.ofNat b = Int32.ofNat (a - b) := by
  rw [← Int32.toInt_inj, toInt_of (n := Int32.ofNat (a - b)) rfl (by omega)]
  have q := c_isub (Int32.ofNat a) (Int32.ofNat b)
  rw [toInt_of (n := Int32.ofNat a) rfl (by omega), toInt_of (n := Int32.ofNat b) rfl (by omega)] at q
  have r := rng32 (Int32.ofNat a - Int32.ofNat b)
  omega
theorem own_ltn {a b : Nat} (ha : a < 1000) (hb : b < 1000) : Int32.ofNat a < Int32.ofNat b ↔ a < b := by
  rw [Int32.lt_iff_toInt_lt, toInt_of (n := Int32.ofNat a) rfl (by omega), toInt_of (n := Int32.ofNat b) rfl (by omega)]
  omega
theorem own_eqn {a b : Nat} (ha : a < 1000) (hb : b < 1000) : Int32.ofNat a = Int32.ofNat b ↔ a = b := by
  rw [← Int32.toInt_inj, toInt_of (n := Int32.ofNat a) rfl (by omega), toInt_of (n := Int32.ofNat b) rfl (by omega)]
  omega
theorem own_nneg {n : Nat} (hn : n < 1000) : ¬ Int32.ofNat n < (0 : Int32) := by
  rw [Int32.lt_iff_toInt_lt, toInt_of rfl (by omega)]
  have z : (0 : Int32).toInt = 0 := by decide
  omega
theorem own_small (x m : Int32) (k : Nat) (hk : m.toInt = k) (hm : 0 ≤ m.toInt) : ∃ u, u ≤ k ∧ (x &&& m) = Int32.ofNat u := by
  have b := c_and x m hm
  generalize x &&& m = y at *
  have hn : ¬ y < 0 := by
    rw [Int32.lt_iff_toInt_lt]
    have z0 : (0 : Int32).toInt = 0 := by decide
    omega
  have q := nat_of hn
  exact ⟨y.toNatClampNeg, by omega, (back32 hn).1.symm⟩
theorem own_fill {g r : Nat → UInt64} {n z i : Nat} (hr : ∀ j, j < i → r j = g ((n + j) % z)) : ∀ j, j < i + 1 → own_upd r i (g ((n + i) % z)) j = g ((n + j) % z) := by
  intro j hj
  unfold own_upd
  split
  · rename_i q
    rw [q]
  · exact hr j (by omega)
def DArr (Z : State) (h : Heap) (a : Addr) (n : Nat) (f : Nat → UInt64) : Prop := ∃ c : Cell, Arr Z h a c .double ∧ c.slots.size = n ∧ ∀ i, i < n → c.slots[i]? = some (.double (f i))
theorem DArr.lt {Z : State} {h : Heap} {a : Addr} {n : Nat} {f : Nat → UInt64} (F : DArr Z h a n f) : a < h.size := by obtain ⟨c, A, -⟩ := F; exact A.lt
theorem DArr.ext {Z : State} {h h' : Heap} {a : Addr} {n : Nat} {f : Nat → UInt64} (F : DArr Z h a n f) (E : Ext h h') : DArr Z h' a n f := by obtain ⟨c, A, r⟩ := F; exact ⟨c, A.ext E, r⟩
theorem DArr.other {Z : State} {h h' : Heap} {a : Addr} {n : Nat} {f : Nat → UInt64} {b : Addr} {sl : Nat} {v : Value} (F : DArr Z h b n f) (W : Wr h h' a sl v) (q : b ≠ a) : DArr Z h' b n f := by obtain ⟨c, A, r⟩ := F; exact ⟨c, A.other W q, r⟩
theorem DArr.keep {Z : State} {h h' : Heap} {a : Addr} {n : Nat} {f : Nat → UInt64} {ws : List Addr} (F : DArr Z h a n f) (K : Keep h h' ws) (q : a ∉ ws) : DArr Z h' a n f := by obtain ⟨c, A, r⟩ := F; exact ⟨c, ⟨K.2.1 a c A.1 q, A.2⟩, r⟩
theorem DArr.new {Z : State} {h : Heap} {a : Addr} {k : ClassId} {z : Int32} {n : Nat} (A : Arr Z h a (newA k .double z) .double) (hz : z.toNatClampNeg = n) : DArr Z h a n (fun _ => 0) := by
  refine ⟨_, A, (sz_new _ _ _).trans hz, fun i hi => ?_⟩
  subst hz
  simp only [newA, Array.getElem?_replicate, if_pos hi]
  rfl
theorem DArr.set {Z : State} {h h' : Heap} {a : Addr} {n : Nat} {f : Nat → UInt64} {c : Cell} {j : Int32} {x : UInt64} (A : Arr Z h a c .double) (hs : c.slots.size = n) (hat : ∀ i, i < n → c.slots[i]? = some (.double (f i))) (W : Wr h h' a j.toNatClampNeg (.double x)) {i : Nat} (hj : j.toNatClampNeg = i) : DArr Z h' a n (own_upd f i (x)) := by
  subst hj
  refine ⟨_, A.same W, (sz_set _ _ _).trans hs, fun i hi => ?_⟩
  simp only [Cell.setSlot, Array.getElem?_setIfInBounds, own_upd]
  by_cases q : j.toNatClampNeg = i
  · subst q
    rw [if_pos rfl, if_pos (by rw [hs]; exact hi), if_pos rfl]
    first | rfl | done
  · rw [if_neg q, if_neg (fun z => q z.symm)]
    exact hat i hi
theorem DArr.eq {Z : State} {h : Heap} {a : Addr} {n : Nat} {f : Nat → UInt64} {g : Nat → UInt64} (F : DArr Z h a n f) (q : f = g) : DArr Z h a n g := q ▸ F
theorem d2_0 : decode prog_39_method_1_code 0 = .ok (.aload_n 0, 1) := by decide +kernel
theorem d2_1 : decode prog_39_method_1_code 1 = .ok (.invokespecial 3, 3) := by decide +kernel
theorem d2_4 : decode prog_39_method_1_code 4 = .ok (.aload_n 0, 1) := by decide +kernel
theorem d2_5 : decode prog_39_method_1_code 5 = .ok (.iload_n 1, 1) := by decide +kernel
theorem d2_6 : decode prog_39_method_1_code 6 = .ok (.newarray .double, 2) := by decide +kernel
theorem d2_8 : decode prog_39_method_1_code 8 = .ok (.putfield 9, 3) := by decide +kernel
theorem d2_11 : decode prog_39_method_1_code 11 = .ok (.return_, 1) := by decide +kernel
theorem pn_2 : plainName "com/example/tidemark/tidemark/policy/RateWindow" = true := by first | (simp [plainName, overriddenIn]; done) | decide +kernel
theorem ef_2_RI (m : MethodId) (x0 : Addr) (x1 : Int32) : entryFrame m #[(.ref x0), (.int x1)] 2 = mkF m 0 #[.val (.ref x0), .val (.int x1)] [] := by first | (simp [entryFrame, mkF, argsToLocals, Value.category]; done) | rfl
def Q_rmI (Z : State) (a1 : Addr) (z : Nat) (h0 : Heap) (n0 : Nat) (v : Option Value) (h : Heap) (L : List Loc) : Prop := v = none ∧ Fr n0 L ∧ Keep h0 h [a1] ∧ Exa Z h a1 "com/example/tidemark/tidemark/policy/RateWindow" ∧ ∃ rc, n0 ≤ rc ∧ h0.size ≤ rc ∧ own_ne a1 rc ∧ Fld Z h a1 "com/example/tidemark/tidemark/policy/RateWindow" "recent" "[D" (.ref rc) ∧ Fld Z h a1 "com/example/tidemark/tidemark/policy/RateWindow" "seen" "J" (.long (Int64.ofNat 0)) ∧ DArr Z h rc z (fun _ => 0)
theorem sn_seen_recent {Z : State} {a0 : Array Value} (hw : ∀ d ∈ tables_1, d.before a0 Z = true) : Jvm.RoadKit.slotOf Z "com/example/tidemark/tidemark/policy/RateWindow" "seen" "J" ≠ Jvm.RoadKit.slotOf Z "com/example/tidemark/tidemark/policy/RateWindow" "recent" "[D" := Jvm.RoadKit.slot_ne (a0 := a0) (Or.inl (own_w hw 26 rfl)) (Or.inr (own_w hw 19 rfl)) (by decide) (t := .long) (t' := (.array .double)) (by decide) (by decide)
set_option maxRecDepth 65536 in
set_option maxHeartbeats 40000000 in
theorem rmI (l : Launch) (Z : State) (a0 : Array Value) (hw : ∀ d ∈ tables_1, d.before a0 Z = true) (ws : List Jvm.Cond) (a1 : Addr) (z : Nat) (h0 : Heap) (n0 : Nat) (Z0 : n0 ≤ h0.size) (E1 : Exa Z h0 a1 "com/example/tidemark/tidemark/policy/RateWindow") (F1 : Fld Z h0 a1 "com/example/tidemark/tidemark/policy/RateWindow" "recent" "[D" .null) (F2 : Fld Z h0 a1 "com/example/tidemark/tidemark/policy/RateWindow" "seen" "J" (.long (Int64.ofNat 0))) (g_a1 : n0 ≤ a1) (hz : 0 < z) (hz4 : z ≤ 4) :
    MetFree l (⟨"com/example/tidemark/tidemark/policy/RateWindow", "<init>", "(I)V"⟩ : MethodName) (head1 (Jvm.Cond.code (⟨"com/example/tidemark/tidemark/policy/RateWindow", "<init>", "(I)V"⟩ : MethodName) prog_39_method_1_code 2 none :: ws) ({ frames := 1, cells := 1, slots := 4, locals := 12 } : Room)) (fun a U => a = #[(.ref a1), (.int (Int32.ofNat z))] ∧ Z.Warmed39 U.vm ∧ U.heap = h0) (fun _ _ _ _ _ => True) (fun _ U o U' => ∃ v L, o = .returned v ∧ Q_rmI Z a1 z h0 n0 v U'.heap L ∧ FrameEnd U o U' L ({ frames := 1, cells := 1, slots := 4, locals := 12 } : Room).cells ({ frames := 1, cells := 1, slots := 4, locals := 12 } : Room).slots) := by
  refine own_met (y := (⟨"com/example/tidemark/tidemark/policy/RateWindow", "<init>", "(I)V"⟩ : MethodName)) (Q := (Q_rmI Z a1 z h0 n0)) (plainFor_of_name pn_2) fun p e s m below meth c s₁ X0 hx hby hml hret hlk hown hnm hZ e0 => ?_
  refine own_entry (ef_2_RI m a1 (Int32.ofNat z)) ?_
  have K0 := Keep.refl h0 [a1]
  refine own_to s₁ (mkF m 1 #[.val (.ref a1), .val (.int (Int32.ofNat z))] [(.ref a1)]) (fun tq kq => XS.aloadN X0.here hx rfl (hb hby d2_0) rfl rfl kq) ?_
  obtain ⟨T1, X1, e1, st1⟩ := initO X0 hx hZ hown (own_w hw 15 rfl) (own_w hw 16 rfl) (own_w hw 17 rfl) e0 (g := (mkF m 1 #[.val (.ref a1), .val (.int (Int32.ofNat z))] [(.ref a1)])) rfl (by rw [hml]; rfl) rfl (hb hby d2_1) (by decide) (W := 0) (by show 2 * 0 + _ ≤ _; exact Nat.le_of_eq rfl) (by decide)
  refine own_to T1 (mkF m 6 #[.val (.ref a1), .val (.int (Int32.ofNat z))] [(.int (Int32.ofNat z)), (.ref a1)]) (fun tq kq => st1 _ (XS.aloadN X1.here hx rfl (hb hby d2_4) rfl rfl (XS.iloadN X1.here hx rfl (hb hby d2_5) rfl kq))) ?_
  obtain ⟨T2, h2, k2, X2, e2, E2, A2, st2⟩ := newP X1 hx hZ (own_w hw 1 rfl) e1 (g := (mkF m 6 #[.val (.ref a1), .val (.int (Int32.ofNat z))] [(.int (Int32.ofNat z)), (.ref a1)])) rfl (hb hby d2_6) rfl (own_nneg (by omega)) (cap := 4) (by rw [clamp_of rfl (by omega)]; omega) (by decide) (by decide) (by decide)
  obtain ⟨b2, g2⟩ : ∃ z, z = h0.size := ⟨_, rfl⟩
  rw [← g2] at A2 st2
  have ne_a1_b2 : own_ne a1 b2 := Nat.ne_of_lt (Nat.lt_of_lt_of_le E1.lt (Nat.le_of_eq g2.symm))
  have f3 := E1.ext E2
  have f4 := F1.ext E2
  have f5 := F2.ext E2
  have sz2 : n0 ≤ b2 := Nat.le_trans Z0 (Nat.le_of_eq g2.symm)
  have hs2 : h0.size ≤ b2 := Nat.le_trans K0.1 (Nat.le_of_eq g2.symm)
  have Zs2 : n0 ≤ h2.size := Nat.le_trans Z0 E2.1
  have K2 := K0.ext E2
  have V2 : DArr Z h2 b2 z (fun _ => 0) := DArr.new A2 (clamp_of rfl (by omega))
  refine own_to T2 (mkF m 8 #[.val (.ref a1), .val (.int (Int32.ofNat z))] [(.ref b2), (.ref a1)]) (fun tq kq => st2 _ kq) ?_
  obtain ⟨T6, h6, X6, e6, W6, st6⟩ := putF X2 hx hZ hown (host := "") (Or.inl (own_w hw 18 rfl)) Via.refl e2 f4 f3 (Or.inr ⟨(own_w hw 19 rfl), rfl, hnm⟩) (own_w hw 10 rfl) (ty := (.array .double)) (by decide) rfl rfl (g := (mkF m 8 #[.val (.ref a1), .val (.int (Int32.ofNat z))] [(.ref b2), (.ref a1)])) rfl rfl (hb hby d2_8)
  have f7 := f3.wr W6
  have f8 := f5.other W6 (Or.inr (sn_seen_recent hw))
  have f9 := V2.other W6 (Ne.symm ne_a1_b2)
  have f10 := f4.same W6
  have N6 := Fr.snoc X6 (Fr.nil n0) g_a1
  have Zs6 : n0 ≤ h6.size := by rw [W6.size]; exact Zs2
  have K6 := K2.wr W6 (Or.inl (List.mem_of_getElem? (i := 0) rfl))
  refine own_to T6 (mkF m 11 #[.val (.ref a1), .val (.int (Int32.ofNat z))] []) (fun tq kq => st6 _ kq) ?_
  exact own_retV X6 hx hret hlk (hb hby d2_11) (by decide) (by decide) (by rw [e6]; exact ⟨rfl, N6, K6, f7, b2, sz2, hs2, ne_a1_b2, f10, f8, f9⟩)
theorem d4_0 : decode prog_39_method_4_code 0 = .ok (.aload_n 1, 1) := by decide +kernel
theorem d4_1 : decode prog_39_method_4_code 1 = .ok (.astore_n 2, 1) := by decide +kernel
theorem d4_2 : decode prog_39_method_4_code 2 = .ok (.aload_n 2, 1) := by decide +kernel
theorem d4_3 : decode prog_39_method_4_code 3 = .ok (.arraylength, 1) := by decide +kernel
theorem d4_4 : decode prog_39_method_4_code 4 = .ok (.istore_n 3, 1) := by decide +kernel
theorem d4_5 : decode prog_39_method_4_code 5 = .ok (.iconst 0, 1) := by decide +kernel
theorem d4_6 : decode prog_39_method_4_code 6 = .ok (.istore 4, 2) := by decide +kernel
theorem d4_8 : decode prog_39_method_4_code 8 = .ok (.iload 4, 2) := by decide +kernel
theorem d4_10 : decode prog_39_method_4_code 10 = .ok (.iload_n 3, 1) := by decide +kernel
theorem d4_11 : decode prog_39_method_4_code 11 = .ok (.if_icmp .ge 44, 3) := by decide +kernel
theorem d4_14 : decode prog_39_method_4_code 14 = .ok (.aload_n 2, 1) := by decide +kernel
theorem d4_15 : decode prog_39_method_4_code 15 = .ok (.iload 4, 2) := by decide +kernel
theorem d4_17 : decode prog_39_method_4_code 17 = .ok (.daload, 1) := by decide +kernel
theorem d4_18 : decode prog_39_method_4_code 18 = .ok (.dstore 5, 2) := by decide +kernel
theorem d4_20 : decode prog_39_method_4_code 20 = .ok (.aload_n 0, 1) := by decide +kernel
theorem d4_21 : decode prog_39_method_4_code 21 = .ok (.getfield 9, 3) := by decide +kernel
theorem d4_24 : decode prog_39_method_4_code 24 = .ok (.aload_n 0, 1) := by decide +kernel
theorem d4_25 : decode prog_39_method_4_code 25 = .ok (.getfield 25, 3) := by decide +kernel
theorem d4_28 : decode prog_39_method_4_code 28 = .ok (.aload_n 0, 1) := by decide +kernel
theorem d4_29 : decode prog_39_method_4_code 29 = .ok (.getfield 9, 3) := by decide +kernel
theorem d4_32 : decode prog_39_method_4_code 32 = .ok (.arraylength, 1) := by decide +kernel
theorem d4_33 : decode prog_39_method_4_code 33 = .ok (.i2l, 1) := by decide +kernel
theorem d4_34 : decode prog_39_method_4_code 34 = .ok (.lrem, 1) := by decide +kernel
theorem d4_35 : decode prog_39_method_4_code 35 = .ok (.l2i, 1) := by decide +kernel
theorem d4_36 : decode prog_39_method_4_code 36 = .ok (.dload 5, 2) := by decide +kernel
theorem d4_38 : decode prog_39_method_4_code 38 = .ok (.dastore, 1) := by decide +kernel
theorem d4_39 : decode prog_39_method_4_code 39 = .ok (.aload_n 0, 1) := by decide +kernel
theorem d4_40 : decode prog_39_method_4_code 40 = .ok (.dup, 1) := by decide +kernel
theorem d4_41 : decode prog_39_method_4_code 41 = .ok (.getfield 25, 3) := by decide +kernel
theorem d4_44 : decode prog_39_method_4_code 44 = .ok (.lconst 1, 1) := by decide +kernel
theorem d4_45 : decode prog_39_method_4_code 45 = .ok (.ladd, 1) := by decide +kernel
theorem d4_46 : decode prog_39_method_4_code 46 = .ok (.putfield 25, 3) := by decide +kernel
theorem d4_49 : decode prog_39_method_4_code 49 = .ok (.iinc 4 1, 3) := by decide +kernel
theorem d4_52 : decode prog_39_method_4_code 52 = .ok (.goto (-44), 3) := by decide +kernel
theorem d4_55 : decode prog_39_method_4_code 55 = .ok (.return_, 1) := by decide +kernel
theorem ef_4_RR (m : MethodId) (x0 : Addr) (x1 : Addr) : entryFrame m #[(.ref x0), (.ref x1)] 7 = mkF m 0 #[.val (.ref x0), .val (.ref x1), .unset, .unset, .unset, .unset, .unset] [] := by first | (simp [entryFrame, mkF, argsToLocals, Value.category]; done) | rfl
def Q_rmA (Z : State) (a1 xs rc : Addr) (n z k0 : Nat) (w f g : Nat → UInt64) (h0 : Heap) (n0 : Nat) (v : Option Value) (h : Heap) (L : List Loc) : Prop := v = none ∧ Fr n0 L ∧ Keep h0 h [a1, rc] ∧ Exa Z h a1 "com/example/tidemark/tidemark/policy/RateWindow" ∧ Fld Z h a1 "com/example/tidemark/tidemark/policy/RateWindow" "recent" "[D" (.ref rc) ∧ Fld Z h a1 "com/example/tidemark/tidemark/policy/RateWindow" "seen" "J" (.long (Int64.ofNat (n + k0))) ∧ ∃ g', own_R z w g' (n + k0) ∧ DArr Z h rc z g'
theorem sn_recent_seen {Z : State} {a0 : Array Value} (hw : ∀ d ∈ tables_1, d.before a0 Z = true) : Jvm.RoadKit.slotOf Z "com/example/tidemark/tidemark/policy/RateWindow" "recent" "[D" ≠ Jvm.RoadKit.slotOf Z "com/example/tidemark/tidemark/policy/RateWindow" "seen" "J" := Jvm.RoadKit.slot_ne (a0 := a0) (Or.inr (own_w hw 19 rfl)) (Or.inl (own_w hw 26 rfl)) (by decide) (t := (.array .double)) (t' := .long) (by decide) (by decide)
set_option maxRecDepth 65536 in
set_option maxHeartbeats 40000000 in
theorem rmA (l : Launch) (Z : State) (a0 : Array Value) (hw : ∀ d ∈ tables_1, d.before a0 Z = true) (ws : List Jvm.Cond) (a1 xs rc : Addr) (n z k0 : Nat) (w f g : Nat → UInt64) (h0 : Heap) (n0 : Nat) (Z0 : n0 ≤ h0.size) (E1 : Exa Z h0 a1 "com/example/tidemark/tidemark/policy/RateWindow") (F1 : Fld Z h0 a1 "com/example/tidemark/tidemark/policy/RateWindow" "recent" "[D" (.ref rc)) (F2 : Fld Z h0 a1 "com/example/tidemark/tidemark/policy/RateWindow" "seen" "J" (.long (Int64.ofNat n))) (A1 : DArr Z h0 rc z g) (Ax : DArr Z h0 xs k0 f) (hR : own_R z w g n) (hf : ∀ j, j < k0 → f j = w (n + j)) (ne1 : a1 ≠ rc) (ne2 : a1 ≠ xs) (ne3 : xs ≠ rc) (g_a1 : n0 ≤ a1) (g_rc : n0 ≤ rc) (hz : 0 < z) (hz4 : z ≤ 4) (hn : n < 16) (hk : k0 < 16) :
    MetFree l (⟨"com/example/tidemark/tidemark/policy/RateWindow", "add", "([D)V"⟩ : MethodName) (head1 (Jvm.Cond.code (⟨"com/example/tidemark/tidemark/policy/RateWindow", "add", "([D)V"⟩ : MethodName) prog_39_method_4_code 7 none :: ws) ({ frames := 0, cells := 0, slots := 0, locals := 0 } : Room)) (fun a U => a = #[(.ref a1), (.ref xs)] ∧ Z.Warmed39 U.vm ∧ U.heap = h0) (fun _ _ _ _ _ => True) (fun _ U o U' => ∃ v L, o = .returned v ∧ Q_rmA Z a1 xs rc n z k0 w f g h0 n0 v U'.heap L ∧ FrameEnd U o U' L ({ frames := 0, cells := 0, slots := 0, locals := 0 } : Room).cells ({ frames := 0, cells := 0, slots := 0, locals := 0 } : Room).slots) := by
  refine own_met (y := (⟨"com/example/tidemark/tidemark/policy/RateWindow", "add", "([D)V"⟩ : MethodName)) (Q := (Q_rmA Z a1 xs rc n z k0 w f g h0 n0)) (plainFor_of_name pn_2) fun p e s m below meth c s₁ X0 hx hby hml hret hlk hown hnm hZ e0 => ?_
  refine own_entry (ef_4_RR m a1 xs) ?_
  obtain ⟨cx, Arx, hszx, hatx0⟩ := id Ax
  refine own_to s₁ (mkF m 4 #[.val (.ref a1), .val (.ref xs), .val (.ref xs), .unset, .unset, .unset, .unset] [(.int (cx.slots.size.toInt32))]) (fun tq kq => XS.aloadN X0.here hx rfl (hb hby d4_0) rfl rfl (XS.astoreN X0.here hx rfl (hb hby d4_1) rfl rfl (l' := #[.val (.ref a1), .val (.ref xs), .val (.ref xs), .unset, .unset, .unset, .unset]) rfl (XS.aloadN X0.here hx rfl (hb hby d4_2) rfl rfl (X0.arraylength hx (by rw [e0]; exact Arx.1) (State.isArrayOf_alike hZ.alike Arx.2.1) (g := (mkF m 3 #[.val (.ref a1), .val (.ref xs), .val (.ref xs), .unset, .unset, .unset, .unset] [(.ref xs)])) rfl rfl (hb hby d4_3) _ kq)))) ?_
  rw [show cx.slots.size.toInt32 = Int32.ofNat k0 from by rw [hszx] <;> rfl]
  refine own_to s₁ (mkF m 8 #[.val (.ref a1), .val (.ref xs), .val (.ref xs), .val (.int (Int32.ofNat k0)), .val (.int (0 : Int32)), .unset, .unset] []) (fun tq kq => XS.istoreN X0.here hx rfl (hb hby d4_4) rfl (l' := #[.val (.ref a1), .val (.ref xs), .val (.ref xs), .val (.int (Int32.ofNat k0)), .unset, .unset, .unset]) rfl (XS.iconst X0.here hx rfl (hb hby d4_5) (XS.istore X0.here hx rfl (hb hby d4_6) rfl (l' := #[.val (.ref a1), .val (.ref xs), .val (.ref xs), .val (.int (Int32.ofNat k0)), .val (.int (0 : Int32)), .unset, .unset]) rfl kq))) ?_
  have loop : ∀ (k i : Nat) (gg : Nat → UInt64) (T1 : State) (h1 : Heap) (L1 : List Loc) (s5 s6 : Slot), i + k = k0 → (s5 = .unset ∧ s6 = .unset ∨ ∃ d, s5 = .val (.double d) ∧ s6 = .second) → Stand p l e ({ frames := 0, cells := 0, slots := 0, locals := 0 } : Room) s m #[(.ref a1), (.ref xs)] below meth c T1 L1 0 0 → T1.heap = h1 → Fr n0 L1 → n0 ≤ h1.size → Keep h0 h1 [a1, rc] → Exa Z h1 a1 "com/example/tidemark/tidemark/policy/RateWindow" → Fld Z h1 a1 "com/example/tidemark/tidemark/policy/RateWindow" "recent" "[D" (.ref rc) → Fld Z h1 a1 "com/example/tidemark/tidemark/policy/RateWindow" "seen" "J" (.long (Int64.ofNat (n + i))) → DArr Z h1 rc z gg → DArr Z h1 xs k0 f → own_R z w gg (n + i) → Own p e below s ({ frames := 0, cells := 0, slots := 0, locals := 0 } : Room).cells ({ frames := 0, cells := 0, slots := 0, locals := 0 } : Room).slots (Q_rmA Z a1 xs rc n z k0 w f g h0 n0) T1 (mkF m 8 #[.val (.ref a1), .val (.ref xs), .val (.ref xs), .val (.int (Int32.ofNat k0)), .val (.int (Int32.ofNat i)), s5, s6] []) := by
    intro k
    induction k with
    | zero =>
      intro i gg T1 h1 L1 s5 s6 hik hs X1 e1 N1 Z1 K1 E1' F1' F2' A1' Ax' hR
      refine own_to T1 (mkF m 55 #[.val (.ref a1), .val (.ref xs), .val (.ref xs), .val (.int (Int32.ofNat k0)), .val (.int (Int32.ofNat i)), s5, s6] []) (fun tq kq => XS.iload X1.here hx rfl (hb hby d4_8) rfl (XS.iloadN X1.here hx rfl (hb hby d4_10) rfl (XS.icmpYes X1.here hx rfl (pc0 := 11) (pc' := 55) rfl (hb hby d4_11) rfl (flt (mt (own_ltn (by omega) (by omega)).mp (by omega))).2.1 (by decide) (by decide) kq))) ?_
      exact own_retV X1 hx hret hlk (hb hby d4_55) (by decide) (by decide) (by have e' : i = k0 := (by omega); subst e'; rw [e1]; exact ⟨rfl, N1, K1, E1', F1', F2', gg, hR, A1'⟩)
    | succ k ih =>
      intro i gg T1 h1 L1 s5 s6 hik hs X1 e1 N1 Z1 K1 E1' F1' F2' A1' Ax' hR
      obtain ⟨c1, Ar1, hsz1, hat1⟩ := id A1'
      obtain ⟨cy, Arx', hszx', hatx⟩ := id Ax'
      have hmod : (n + i) % z < z := Nat.mod_lt _ hz
      have hinx : ¬ ((Int32.ofNat i) < 0 ∨ cy.slots.size ≤ (Int32.ofNat i).toNatClampNeg) := by rw [hszx']; exact within rfl (by omega) (by omega)
      have hatx' : cy.slots[(Int32.ofNat i).toNatClampNeg]? = some (.double (f i)) := by rw [clamp_of rfl (by omega)]; exact hatx i (by omega)
      rcases hs with ⟨rfl, rfl⟩ | ⟨d, rfl, rfl⟩
      · skip
        refine own_to T1 (mkF m 21 #[.val (.ref a1), .val (.ref xs), .val (.ref xs), .val (.int (Int32.ofNat k0)), .val (.int (Int32.ofNat i)), .val (.double (f i)), .second] [(.ref a1)]) (fun tq kq => XS.iload X1.here hx rfl (hb hby d4_8) rfl (XS.iloadN X1.here hx rfl (hb hby d4_10) rfl (XS.icmpNo X1.here hx rfl (hb hby d4_11) rfl (tlt ((own_ltn (by omega) (by omega)).mpr (by omega))).2.1 (XS.aloadN X1.here hx rfl (hb hby d4_14) rfl rfl (XS.iload X1.here hx rfl (hb hby d4_15) rfl (X1.daload hx (j := (Int32.ofNat i)) (v := (.double (f i))) (by rw [e1]; exact Arx'.1) (State.isArrayOf_alike hZ.alike Arx'.2.1) Arx'.2.2 hinx hatx' (g := (mkF m 17 #[.val (.ref a1), .val (.ref xs), .val (.ref xs), .val (.int (Int32.ofNat k0)), .val (.int (Int32.ofNat i)), .unset, .unset] [(.int (Int32.ofNat i)), (.ref xs)])) rfl rfl (hb hby d4_17) _ (XS.dstore X1.here hx rfl (hb hby d4_18) rfl (l' := #[.val (.ref a1), .val (.ref xs), .val (.ref xs), .val (.int (Int32.ofNat k0)), .val (.int (Int32.ofNat i)), .val (.double (f i)), .second]) rfl (XS.aloadN X1.here hx rfl (hb hby d4_20) rfl rfl kq)))))))) ?_
        obtain ⟨T1, X1, e1, st1⟩ := getF X1 hx hZ hown (host := "") (Or.inl (own_w hw 18 rfl)) Via.refl e1 F1' (g := (mkF m 21 #[.val (.ref a1), .val (.ref xs), .val (.ref xs), .val (.int (Int32.ofNat k0)), .val (.int (Int32.ofNat i)), .val (.double (f i)), .second] [(.ref a1)])) rfl rfl (hb hby d4_21)
        refine own_to T1 (mkF m 25 #[.val (.ref a1), .val (.ref xs), .val (.ref xs), .val (.int (Int32.ofNat k0)), .val (.int (Int32.ofNat i)), .val (.double (f i)), .second] [(.ref a1), (.ref rc)]) (fun tq kq => st1 _ (XS.aloadN X1.here hx rfl (hb hby d4_24) rfl rfl kq)) ?_
        obtain ⟨T2, X2, e2, st2⟩ := getF X1 hx hZ hown (host := "") (Or.inl (own_w hw 25 rfl)) Via.refl e1 F2' (g := (mkF m 25 #[.val (.ref a1), .val (.ref xs), .val (.ref xs), .val (.int (Int32.ofNat k0)), .val (.int (Int32.ofNat i)), .val (.double (f i)), .second] [(.ref a1), (.ref rc)])) rfl rfl (hb hby d4_25)
        refine own_to T2 (mkF m 29 #[.val (.ref a1), .val (.ref xs), .val (.ref xs), .val (.int (Int32.ofNat k0)), .val (.int (Int32.ofNat i)), .val (.double (f i)), .second] [(.ref a1), (.long (Int64.ofNat (n + i))), (.ref rc)]) (fun tq kq => st2 _ (XS.aloadN X2.here hx rfl (hb hby d4_28) rfl rfl kq)) ?_
        obtain ⟨T3, X3, e3, st3⟩ := getF X2 hx hZ hown (host := "") (Or.inl (own_w hw 18 rfl)) Via.refl e2 F1' (g := (mkF m 29 #[.val (.ref a1), .val (.ref xs), .val (.ref xs), .val (.int (Int32.ofNat k0)), .val (.int (Int32.ofNat i)), .val (.double (f i)), .second] [(.ref a1), (.long (Int64.ofNat (n + i))), (.ref rc)])) rfl rfl (hb hby d4_29)
        refine own_to T3 (mkF m 33 #[.val (.ref a1), .val (.ref xs), .val (.ref xs), .val (.int (Int32.ofNat k0)), .val (.int (Int32.ofNat i)), .val (.double (f i)), .second] [(.int (c1.slots.size.toInt32)), (.long (Int64.ofNat (n + i))), (.ref rc)]) (fun tq kq => st3 _ (X3.arraylength hx (by rw [e3]; exact Ar1.1) (State.isArrayOf_alike hZ.alike Ar1.2.1) (g := (mkF m 32 #[.val (.ref a1), .val (.ref xs), .val (.ref xs), .val (.int (Int32.ofNat k0)), .val (.int (Int32.ofNat i)), .val (.double (f i)), .second] [(.ref rc), (.long (Int64.ofNat (n + i))), (.ref rc)])) rfl rfl (hb hby d4_32) _ kq)) ?_
        rw [show c1.slots.size.toInt32 = Int32.ofNat z from by rw [hsz1] <;> rfl]
        refine own_to T3 (mkF m 34 #[.val (.ref a1), .val (.ref xs), .val (.ref xs), .val (.int (Int32.ofNat k0)), .val (.int (Int32.ofNat i)), .val (.double (f i)), .second] [(.long ((Int32.ofNat z).toInt64)), (.long (Int64.ofNat (n + i))), (.ref rc)]) (fun tq kq => XS.i2l X3.here hx rfl (hb hby d4_33) rfl kq) ?_
        rw [show ((Int32.ofNat z).toInt64) = (Int64.ofNat z) from own_i2l (by omega)]
        refine own_to T3 (mkF m 35 #[.val (.ref a1), .val (.ref xs), .val (.ref xs), .val (.int (Int32.ofNat k0)), .val (.int (Int32.ofNat i)), .val (.double (f i)), .second] [(.long ((Int64.ofNat (n + i)) - ((Int64.ofNat (n + i)) / (Int64.ofNat z)) * (Int64.ofNat z))), (.ref rc)]) (fun tq kq => XS.lrem X3.here hx rfl (hb hby d4_34) rfl (own_lnz hz (by omega)) kq) ?_
        rw [show ((Int64.ofNat (n + i)) - ((Int64.ofNat (n + i)) / (Int64.ofNat z)) * (Int64.ofNat z)) = (Int64.ofNat ((n + i) % z)) from own_lrem (by omega) hz (by omega)]
        refine own_to T3 (mkF m 36 #[.val (.ref a1), .val (.ref xs), .val (.ref xs), .val (.int (Int32.ofNat k0)), .val (.int (Int32.ofNat i)), .val (.double (f i)), .second] [(.int ((Int64.ofNat ((n + i) % z)).toInt32)), (.ref rc)]) (fun tq kq => XS.l2i X3.here hx rfl (hb hby d4_35) rfl kq) ?_
        rw [show ((Int64.ofNat ((n + i) % z)).toInt32) = (Int32.ofNat ((n + i) % z)) from own_l2i (by have := Nat.mod_le (n + i) z; omega)]
        refine own_to T3 (mkF m 38 #[.val (.ref a1), .val (.ref xs), .val (.ref xs), .val (.int (Int32.ofNat k0)), .val (.int (Int32.ofNat i)), .val (.double (f i)), .second] [(.double (f i)), (.int (Int32.ofNat ((n + i) % z))), (.ref rc)]) (fun tq kq => XS.dload X3.here hx rfl (hb hby d4_36) rfl kq) ?_
        obtain ⟨T4, h4, X4, e4, W4, st4⟩ := stD X3 hx hZ e3 Ar1 (j := (Int32.ofNat ((n + i) % z))) (by rw [hsz1]; exact within rfl hmod (by omega)) (g := (mkF m 38 #[.val (.ref a1), .val (.ref xs), .val (.ref xs), .val (.int (Int32.ofNat k0)), .val (.int (Int32.ofNat i)), .val (.double (f i)), .second] [(.double (f i)), (.int (Int32.ofNat ((n + i) % z))), (.ref rc)])) rfl rfl (hb hby d4_38)
        have f5 := E1'.wr W4
        have f6 := F1'.other W4 (Or.inl ne1)
        have f7 := F2'.other W4 (Or.inl ne1)
        have f8 := Ax'.other W4 ne3
        have N4 := Fr.snoc X4 N1 g_rc
        have Zs4 : n0 ≤ h4.size := by rw [W4.size]; exact Z1
        have K4 := K1.wr W4 (Or.inl (List.mem_of_getElem? (i := 1) rfl))
        have V4 := DArr.set Ar1 hsz1 hat1 W4 (clamp_of rfl (by omega) : (Int32.ofNat ((n + i) % z)).toNatClampNeg = (n + i) % z)
        refine own_to T4 (mkF m 41 #[.val (.ref a1), .val (.ref xs), .val (.ref xs), .val (.int (Int32.ofNat k0)), .val (.int (Int32.ofNat i)), .val (.double (f i)), .second] [(.ref a1), (.ref a1)]) (fun tq kq => st4 _ (XS.aloadN X4.here hx rfl (hb hby d4_39) rfl rfl (XS.dup X4.here hx rfl (hb hby d4_40) rfl rfl kq))) ?_
        obtain ⟨T9, X9, e9, st9⟩ := getF X4 hx hZ hown (host := "") (Or.inl (own_w hw 25 rfl)) Via.refl e4 f7 (g := (mkF m 41 #[.val (.ref a1), .val (.ref xs), .val (.ref xs), .val (.int (Int32.ofNat k0)), .val (.int (Int32.ofNat i)), .val (.double (f i)), .second] [(.ref a1), (.ref a1)])) rfl rfl (hb hby d4_41)
        refine own_to T9 (mkF m 46 #[.val (.ref a1), .val (.ref xs), .val (.ref xs), .val (.int (Int32.ofNat k0)), .val (.int (Int32.ofNat i)), .val (.double (f i)), .second] [(.long ((Int64.ofNat (n + i)) + (1 : Int64))), (.ref a1)]) (fun tq kq => st9 _ (XS.lconst X9.here hx rfl (hb hby d4_44) (XS.ladd X9.here hx rfl (hb hby d4_45) rfl kq))) ?_
        rw [show ((Int64.ofNat (n + i)) + (1 : Int64)) = (Int64.ofNat (n + i + 1)) from own_ladd (b := 1) (by omega) (by decide)]
        obtain ⟨T10, h10, X10, e10, W10, st10⟩ := putF X9 hx hZ hown (host := "") (Or.inl (own_w hw 25 rfl)) Via.refl e9 f7 f5 (Or.inl (own_w hw 26 rfl)) (own_w hw 10 rfl) (ty := .long) (by decide) rfl rfl (g := (mkF m 46 #[.val (.ref a1), .val (.ref xs), .val (.ref xs), .val (.int (Int32.ofNat k0)), .val (.int (Int32.ofNat i)), .val (.double (f i)), .second] [(.long (Int64.ofNat (n + i + 1))), (.ref a1)])) rfl rfl (hb hby d4_46)
        have f11 := f5.wr W10
        have f12 := f6.other W10 (Or.inr (sn_recent_seen hw))
        have f13 := f8.other W10 (Ne.symm ne2)
        have f14 := V4.other W10 (Ne.symm ne1)
        have f15 := f7.same W10
        have N10 := Fr.snoc X10 N4 g_a1
        have Zs10 : n0 ≤ h10.size := by rw [W10.size]; exact Zs4
        have K10 := K4.wr W10 (Or.inl (List.mem_of_getElem? (i := 0) rfl))
        refine own_to T10 (mkF m 8 #[.val (.ref a1), .val (.ref xs), .val (.ref xs), .val (.int (Int32.ofNat k0)), .val (.int ((Int32.ofNat i) + (1 : Int32))), .val (.double (f i)), .second] []) (fun tq kq => st10 _ (XS.iinc X10.here hx rfl (hb hby d4_49) rfl (l' := #[.val (.ref a1), .val (.ref xs), .val (.ref xs), .val (.int (Int32.ofNat k0)), .val (.int ((Int32.ofNat i) + (1 : Int32))), .val (.double (f i)), .second]) rfl (XS.goto X10.here hx rfl (pc0 := 52) (pc' := 8) rfl (hb hby d4_52) (by decide) (by decide) kq))) ?_
        have hi1 : (Int32.ofNat i + (1 : Int32)) = Int32.ofNat (i + 1) := own_addn i 1 (by omega) (by decide)
        rw [hi1]
        exact ih (i + 1) _ _ _ _ _ _ (by omega) (Or.inr ⟨_, rfl, rfl⟩) X10 e10 N10 Zs10 K10 f11 f12 f15 f14 f13 (own_R1 hz hR (hf i (by omega)))
      · skip
        refine own_to T1 (mkF m 21 #[.val (.ref a1), .val (.ref xs), .val (.ref xs), .val (.int (Int32.ofNat k0)), .val (.int (Int32.ofNat i)), .val (.double (f i)), .second] [(.ref a1)]) (fun tq kq => XS.iload X1.here hx rfl (hb hby d4_8) rfl (XS.iloadN X1.here hx rfl (hb hby d4_10) rfl (XS.icmpNo X1.here hx rfl (hb hby d4_11) rfl (tlt ((own_ltn (by omega) (by omega)).mpr (by omega))).2.1 (XS.aloadN X1.here hx rfl (hb hby d4_14) rfl rfl (XS.iload X1.here hx rfl (hb hby d4_15) rfl (X1.daload hx (j := (Int32.ofNat i)) (v := (.double (f i))) (by rw [e1]; exact Arx'.1) (State.isArrayOf_alike hZ.alike Arx'.2.1) Arx'.2.2 hinx hatx' (g := (mkF m 17 #[.val (.ref a1), .val (.ref xs), .val (.ref xs), .val (.int (Int32.ofNat k0)), .val (.int (Int32.ofNat i)), .val (.double d), .second] [(.int (Int32.ofNat i)), (.ref xs)])) rfl rfl (hb hby d4_17) _ (XS.dstore X1.here hx rfl (hb hby d4_18) rfl (l' := #[.val (.ref a1), .val (.ref xs), .val (.ref xs), .val (.int (Int32.ofNat k0)), .val (.int (Int32.ofNat i)), .val (.double (f i)), .second]) rfl (XS.aloadN X1.here hx rfl (hb hby d4_20) rfl rfl kq)))))))) ?_
        obtain ⟨T16, X16, e16, st16⟩ := getF X1 hx hZ hown (host := "") (Or.inl (own_w hw 18 rfl)) Via.refl e1 F1' (g := (mkF m 21 #[.val (.ref a1), .val (.ref xs), .val (.ref xs), .val (.int (Int32.ofNat k0)), .val (.int (Int32.ofNat i)), .val (.double (f i)), .second] [(.ref a1)])) rfl rfl (hb hby d4_21)
        refine own_to T16 (mkF m 25 #[.val (.ref a1), .val (.ref xs), .val (.ref xs), .val (.int (Int32.ofNat k0)), .val (.int (Int32.ofNat i)), .val (.double (f i)), .second] [(.ref a1), (.ref rc)]) (fun tq kq => st16 _ (XS.aloadN X16.here hx rfl (hb hby d4_24) rfl rfl kq)) ?_
        obtain ⟨T17, X17, e17, st17⟩ := getF X16 hx hZ hown (host := "") (Or.inl (own_w hw 25 rfl)) Via.refl e16 F2' (g := (mkF m 25 #[.val (.ref a1), .val (.ref xs), .val (.ref xs), .val (.int (Int32.ofNat k0)), .val (.int (Int32.ofNat i)), .val (.double (f i)), .second] [(.ref a1), (.ref rc)])) rfl rfl (hb hby d4_25)
        refine own_to T17 (mkF m 29 #[.val (.ref a1), .val (.ref xs), .val (.ref xs), .val (.int (Int32.ofNat k0)), .val (.int (Int32.ofNat i)), .val (.double (f i)), .second] [(.ref a1), (.long (Int64.ofNat (n + i))), (.ref rc)]) (fun tq kq => st17 _ (XS.aloadN X17.here hx rfl (hb hby d4_28) rfl rfl kq)) ?_
        obtain ⟨T18, X18, e18, st18⟩ := getF X17 hx hZ hown (host := "") (Or.inl (own_w hw 18 rfl)) Via.refl e17 F1' (g := (mkF m 29 #[.val (.ref a1), .val (.ref xs), .val (.ref xs), .val (.int (Int32.ofNat k0)), .val (.int (Int32.ofNat i)), .val (.double (f i)), .second] [(.ref a1), (.long (Int64.ofNat (n + i))), (.ref rc)])) rfl rfl (hb hby d4_29)
        refine own_to T18 (mkF m 33 #[.val (.ref a1), .val (.ref xs), .val (.ref xs), .val (.int (Int32.ofNat k0)), .val (.int (Int32.ofNat i)), .val (.double (f i)), .second] [(.int (c1.slots.size.toInt32)), (.long (Int64.ofNat (n + i))), (.ref rc)]) (fun tq kq => st18 _ (X18.arraylength hx (by rw [e18]; exact Ar1.1) (State.isArrayOf_alike hZ.alike Ar1.2.1) (g := (mkF m 32 #[.val (.ref a1), .val (.ref xs), .val (.ref xs), .val (.int (Int32.ofNat k0)), .val (.int (Int32.ofNat i)), .val (.double (f i)), .second] [(.ref rc), (.long (Int64.ofNat (n + i))), (.ref rc)])) rfl rfl (hb hby d4_32) _ kq)) ?_
        rw [show c1.slots.size.toInt32 = Int32.ofNat z from by rw [hsz1] <;> rfl]
        refine own_to T18 (mkF m 34 #[.val (.ref a1), .val (.ref xs), .val (.ref xs), .val (.int (Int32.ofNat k0)), .val (.int (Int32.ofNat i)), .val (.double (f i)), .second] [(.long ((Int32.ofNat z).toInt64)), (.long (Int64.ofNat (n + i))), (.ref rc)]) (fun tq kq => XS.i2l X18.here hx rfl (hb hby d4_33) rfl kq) ?_
        rw [show ((Int32.ofNat z).toInt64) = (Int64.ofNat z) from own_i2l (by omega)]
        refine own_to T18 (mkF m 35 #[.val (.ref a1), .val (.ref xs), .val (.ref xs), .val (.int (Int32.ofNat k0)), .val (.int (Int32.ofNat i)), .val (.double (f i)), .second] [(.long ((Int64.ofNat (n + i)) - ((Int64.ofNat (n + i)) / (Int64.ofNat z)) * (Int64.ofNat z))), (.ref rc)]) (fun tq kq => XS.lrem X18.here hx rfl (hb hby d4_34) rfl (own_lnz hz (by omega)) kq) ?_
        rw [show ((Int64.ofNat (n + i)) - ((Int64.ofNat (n + i)) / (Int64.ofNat z)) * (Int64.ofNat z)) = (Int64.ofNat ((n + i) % z)) from own_lrem (by omega) hz (by omega)]
        refine own_to T18 (mkF m 36 #[.val (.ref a1), .val (.ref xs), .val (.ref xs), .val (.int (Int32.ofNat k0)), .val (.int (Int32.ofNat i)), .val (.double (f i)), .second] [(.int ((Int64.ofNat ((n + i) % z)).toInt32)), (.ref rc)]) (fun tq kq => XS.l2i X18.here hx rfl (hb hby d4_35) rfl kq) ?_
        rw [show ((Int64.ofNat ((n + i) % z)).toInt32) = (Int32.ofNat ((n + i) % z)) from own_l2i (by have := Nat.mod_le (n + i) z; omega)]
        refine own_to T18 (mkF m 38 #[.val (.ref a1), .val (.ref xs), .val (.ref xs), .val (.int (Int32.ofNat k0)), .val (.int (Int32.ofNat i)), .val (.double (f i)), .second] [(.double (f i)), (.int (Int32.ofNat ((n + i) % z))), (.ref rc)]) (fun tq kq => XS.dload X18.here hx rfl (hb hby d4_36) rfl kq) ?_
        obtain ⟨T19, h19, X19, e19, W19, st19⟩ := stD X18 hx hZ e18 Ar1 (j := (Int32.ofNat ((n + i) % z))) (by rw [hsz1]; exact within rfl hmod (by omega)) (g := (mkF m 38 #[.val (.ref a1), .val (.ref xs), .val (.ref xs), .val (.int (Int32.ofNat k0)), .val (.int (Int32.ofNat i)), .val (.double (f i)), .second] [(.double (f i)), (.int (Int32.ofNat ((n + i) % z))), (.ref rc)])) rfl rfl (hb hby d4_38)
        have f20 := E1'.wr W19
        have f21 := F1'.other W19 (Or.inl ne1)
        have f22 := F2'.other W19 (Or.inl ne1)
        have f23 := Ax'.other W19 ne3
        have N19 := Fr.snoc X19 N1 g_rc
        have Zs19 : n0 ≤ h19.size := by rw [W19.size]; exact Z1
        have K19 := K1.wr W19 (Or.inl (List.mem_of_getElem? (i := 1) rfl))
        have V19 := DArr.set Ar1 hsz1 hat1 W19 (clamp_of rfl (by omega) : (Int32.ofNat ((n + i) % z)).toNatClampNeg = (n + i) % z)
        refine own_to T19 (mkF m 41 #[.val (.ref a1), .val (.ref xs), .val (.ref xs), .val (.int (Int32.ofNat k0)), .val (.int (Int32.ofNat i)), .val (.double (f i)), .second] [(.ref a1), (.ref a1)]) (fun tq kq => st19 _ (XS.aloadN X19.here hx rfl (hb hby d4_39) rfl rfl (XS.dup X19.here hx rfl (hb hby d4_40) rfl rfl kq))) ?_
        obtain ⟨T24, X24, e24, st24⟩ := getF X19 hx hZ hown (host := "") (Or.inl (own_w hw 25 rfl)) Via.refl e19 f22 (g := (mkF m 41 #[.val (.ref a1), .val (.ref xs), .val (.ref xs), .val (.int (Int32.ofNat k0)), .val (.int (Int32.ofNat i)), .val (.double (f i)), .second] [(.ref a1), (.ref a1)])) rfl rfl (hb hby d4_41)
        refine own_to T24 (mkF m 46 #[.val (.ref a1), .val (.ref xs), .val (.ref xs), .val (.int (Int32.ofNat k0)), .val (.int (Int32.ofNat i)), .val (.double (f i)), .second] [(.long ((Int64.ofNat (n + i)) + (1 : Int64))), (.ref a1)]) (fun tq kq => st24 _ (XS.lconst X24.here hx rfl (hb hby d4_44) (XS.ladd X24.here hx rfl (hb hby d4_45) rfl kq))) ?_
        rw [show ((Int64.ofNat (n + i)) + (1 : Int64)) = (Int64.ofNat (n + i + 1)) from own_ladd (b := 1) (by omega) (by decide)]
        obtain ⟨T25, h25, X25, e25, W25, st25⟩ := putF X24 hx hZ hown (host := "") (Or.inl (own_w hw 25 rfl)) Via.refl e24 f22 f20 (Or.inl (own_w hw 26 rfl)) (own_w hw 10 rfl) (ty := .long) (by decide) rfl rfl (g := (mkF m 46 #[.val (.ref a1), .val (.ref xs), .val (.ref xs), .val (.int (Int32.ofNat k0)), .val (.int (Int32.ofNat i)), .val (.double (f i)), .second] [(.long (Int64.ofNat (n + i + 1))), (.ref a1)])) rfl rfl (hb hby d4_46)
        have f26 := f20.wr W25
        have f27 := f21.other W25 (Or.inr (sn_recent_seen hw))
        have f28 := f23.other W25 (Ne.symm ne2)
        have f29 := V19.other W25 (Ne.symm ne1)
        have f30 := f22.same W25
        have N25 := Fr.snoc X25 N19 g_a1
        have Zs25 : n0 ≤ h25.size := by rw [W25.size]; exact Zs19
        have K25 := K19.wr W25 (Or.inl (List.mem_of_getElem? (i := 0) rfl))
        refine own_to T25 (mkF m 8 #[.val (.ref a1), .val (.ref xs), .val (.ref xs), .val (.int (Int32.ofNat k0)), .val (.int ((Int32.ofNat i) + (1 : Int32))), .val (.double (f i)), .second] []) (fun tq kq => st25 _ (XS.iinc X25.here hx rfl (hb hby d4_49) rfl (l' := #[.val (.ref a1), .val (.ref xs), .val (.ref xs), .val (.int (Int32.ofNat k0)), .val (.int ((Int32.ofNat i) + (1 : Int32))), .val (.double (f i)), .second]) rfl (XS.goto X25.here hx rfl (pc0 := 52) (pc' := 8) rfl (hb hby d4_52) (by decide) (by decide) kq))) ?_
        have hi1 : (Int32.ofNat i + (1 : Int32)) = Int32.ofNat (i + 1) := own_addn i 1 (by omega) (by decide)
        rw [hi1]
        exact ih (i + 1) _ _ _ _ _ _ (by omega) (Or.inr ⟨_, rfl, rfl⟩) X25 e25 N25 Zs25 K25 f26 f27 f30 f29 f28 (own_R1 hz hR (hf i (by omega)))
  exact loop k0 0 g s₁ h0 [] .unset .unset (by omega) (Or.inl ⟨rfl, rfl⟩) X0 e0 (Fr.nil n0) Z0 (Keep.refl h0 [a1, rc]) E1 F1 F2 A1 Ax hR
theorem d5_0 : decode prog_39_method_6_code 0 = .ok (.aload_n 0, 1) := by decide +kernel
theorem d5_1 : decode prog_39_method_6_code 1 = .ok (.getfield 9, 3) := by decide +kernel
theorem d5_4 : decode prog_39_method_6_code 4 = .ok (.arraylength, 1) := by decide +kernel
theorem d5_5 : decode prog_39_method_6_code 5 = .ok (.newarray .double, 2) := by decide +kernel
theorem d5_7 : decode prog_39_method_6_code 7 = .ok (.astore_n 1, 1) := by decide +kernel
theorem d5_8 : decode prog_39_method_6_code 8 = .ok (.iconst 0, 1) := by decide +kernel
theorem d5_9 : decode prog_39_method_6_code 9 = .ok (.istore_n 2, 1) := by decide +kernel
theorem d5_10 : decode prog_39_method_6_code 10 = .ok (.iload_n 2, 1) := by decide +kernel
theorem d5_11 : decode prog_39_method_6_code 11 = .ok (.aload_n 1, 1) := by decide +kernel
theorem d5_12 : decode prog_39_method_6_code 12 = .ok (.arraylength, 1) := by decide +kernel
theorem d5_13 : decode prog_39_method_6_code 13 = .ok (.if_icmp .ge 32, 3) := by decide +kernel
theorem d5_16 : decode prog_39_method_6_code 16 = .ok (.aload_n 1, 1) := by decide +kernel
theorem d5_17 : decode prog_39_method_6_code 17 = .ok (.iload_n 2, 1) := by decide +kernel
theorem d5_18 : decode prog_39_method_6_code 18 = .ok (.aload_n 0, 1) := by decide +kernel
theorem d5_19 : decode prog_39_method_6_code 19 = .ok (.getfield 9, 3) := by decide +kernel
theorem d5_22 : decode prog_39_method_6_code 22 = .ok (.aload_n 0, 1) := by decide +kernel
theorem d5_23 : decode prog_39_method_6_code 23 = .ok (.getfield 25, 3) := by decide +kernel
theorem d5_26 : decode prog_39_method_6_code 26 = .ok (.iload_n 2, 1) := by decide +kernel
theorem d5_27 : decode prog_39_method_6_code 27 = .ok (.i2l, 1) := by decide +kernel
theorem d5_28 : decode prog_39_method_6_code 28 = .ok (.ladd, 1) := by decide +kernel
theorem d5_29 : decode prog_39_method_6_code 29 = .ok (.aload_n 0, 1) := by decide +kernel
theorem d5_30 : decode prog_39_method_6_code 30 = .ok (.getfield 9, 3) := by decide +kernel
theorem d5_33 : decode prog_39_method_6_code 33 = .ok (.arraylength, 1) := by decide +kernel
theorem d5_34 : decode prog_39_method_6_code 34 = .ok (.i2l, 1) := by decide +kernel
theorem d5_35 : decode prog_39_method_6_code 35 = .ok (.lrem, 1) := by decide +kernel
theorem d5_36 : decode prog_39_method_6_code 36 = .ok (.l2i, 1) := by decide +kernel
theorem d5_37 : decode prog_39_method_6_code 37 = .ok (.daload, 1) := by decide +kernel
theorem d5_38 : decode prog_39_method_6_code 38 = .ok (.dastore, 1) := by decide +kernel
theorem d5_39 : decode prog_39_method_6_code 39 = .ok (.iinc 2 1, 3) := by decide +kernel
theorem d5_42 : decode prog_39_method_6_code 42 = .ok (.goto (-32), 3) := by decide +kernel
theorem d5_45 : decode prog_39_method_6_code 45 = .ok (.aload_n 1, 1) := by decide +kernel
theorem d5_46 : decode prog_39_method_6_code 46 = .ok (.areturn, 1) := by decide +kernel
theorem ef_5_R (m : MethodId) (x0 : Addr) : entryFrame m #[(.ref x0)] 3 = mkF m 0 #[.val (.ref x0), .unset, .unset] [] := by first | (simp [entryFrame, mkF, argsToLocals, Value.category]; done) | rfl
def Q_rmR (Z : State) (a1 rc : Addr) (n z : Nat) (g : Nat → UInt64) (h0 : Heap) (n0 : Nat) (v : Option Value) (h : Heap) (L : List Loc) : Prop := ∃ b r, v = some (.ref b) ∧ Fr n0 L ∧ Keep h0 h [] ∧ n0 ≤ b ∧ DArr Z h b z r ∧ ∀ j, j < z → r j = g ((n + j) % z)
set_option maxRecDepth 65536 in
set_option maxHeartbeats 40000000 in
theorem rmR (l : Launch) (Z : State) (a0 : Array Value) (hw : ∀ d ∈ tables_1, d.before a0 Z = true) (ws : List Jvm.Cond) (a1 rc : Addr) (n z : Nat) (g : Nat → UInt64) (h0 : Heap) (n0 : Nat) (Z0 : n0 ≤ h0.size) (F1 : Fld Z h0 a1 "com/example/tidemark/tidemark/policy/RateWindow" "recent" "[D" (.ref rc)) (F2 : Fld Z h0 a1 "com/example/tidemark/tidemark/policy/RateWindow" "seen" "J" (.long (Int64.ofNat n))) (A1 : DArr Z h0 rc z g) (hz : 0 < z) (hz4 : z ≤ 4) (hn : n < 16) :
    MetFree l (⟨"com/example/tidemark/tidemark/policy/RateWindow", "rates", "()[D"⟩ : MethodName) (head1 (Jvm.Cond.code (⟨"com/example/tidemark/tidemark/policy/RateWindow", "rates", "()[D"⟩ : MethodName) prog_39_method_6_code 3 (some (.array .double)) :: ws) ({ frames := 0, cells := 1, slots := 4, locals := 0 } : Room)) (fun a U => a = #[(.ref a1)] ∧ Z.Warmed39 U.vm ∧ U.heap = h0) (fun _ _ _ _ _ => True) (fun _ U o U' => ∃ v L, o = .returned v ∧ Q_rmR Z a1 rc n z g h0 n0 v U'.heap L ∧ FrameEnd U o U' L ({ frames := 0, cells := 1, slots := 4, locals := 0 } : Room).cells ({ frames := 0, cells := 1, slots := 4, locals := 0 } : Room).slots) := by
  refine own_met (y := (⟨"com/example/tidemark/tidemark/policy/RateWindow", "rates", "()[D"⟩ : MethodName)) (Q := (Q_rmR Z a1 rc n z g h0 n0)) (plainFor_of_name pn_2) fun p e s m below meth c s₁ X0 hx hby hml hret hlk hown hnm hZ e0 => ?_
  refine own_entry (ef_5_R m a1) ?_
  obtain ⟨c1, Ar1, hsz1, hat1⟩ := id A1
  have K0 := Keep.refl h0 []
  refine own_to s₁ (mkF m 1 #[.val (.ref a1), .unset, .unset] [(.ref a1)]) (fun tq kq => XS.aloadN X0.here hx rfl (hb hby d5_0) rfl rfl kq) ?_
  obtain ⟨T1, X1, e1, st1⟩ := getF X0 hx hZ hown (host := "") (Or.inl (own_w hw 18 rfl)) Via.refl e0 F1 (g := (mkF m 1 #[.val (.ref a1), .unset, .unset] [(.ref a1)])) rfl rfl (hb hby d5_1)
  refine own_to T1 (mkF m 5 #[.val (.ref a1), .unset, .unset] [(.int (c1.slots.size.toInt32))]) (fun tq kq => st1 _ (X1.arraylength hx (by rw [e1]; exact Ar1.1) (State.isArrayOf_alike hZ.alike Ar1.2.1) (g := (mkF m 4 #[.val (.ref a1), .unset, .unset] [(.ref rc)])) rfl rfl (hb hby d5_4) _ kq)) ?_
  rw [show c1.slots.size.toInt32 = Int32.ofNat z from by rw [hsz1] <;> rfl]
  obtain ⟨T2, h2, k2, X2, e2, E2, A2, st2⟩ := newP X1 hx hZ (own_w hw 1 rfl) e1 (g := (mkF m 5 #[.val (.ref a1), .unset, .unset] [(.int (Int32.ofNat z))])) rfl (hb hby d5_5) rfl (own_nneg (by omega)) (cap := 4) (by rw [clamp_of rfl (by omega)]; omega) (by decide) (by decide) (by decide)
  obtain ⟨b2, g2⟩ : ∃ z, z = h0.size := ⟨_, rfl⟩
  rw [← g2] at A2 st2
  have ne_a1_b2 : own_ne a1 b2 := Nat.ne_of_lt (Nat.lt_of_lt_of_le F1.lt (Nat.le_of_eq g2.symm))
  have ne_rc_b2 : own_ne rc b2 := Nat.ne_of_lt (Nat.lt_of_lt_of_le A1.lt (Nat.le_of_eq g2.symm))
  have f3 := F1.ext E2
  have f4 := F2.ext E2
  have f5 := A1.ext E2
  have sz2 : n0 ≤ b2 := Nat.le_trans Z0 (Nat.le_of_eq g2.symm)
  have hs2 : h0.size ≤ b2 := Nat.le_trans K0.1 (Nat.le_of_eq g2.symm)
  have Zs2 : n0 ≤ h2.size := Nat.le_trans Z0 E2.1
  have K2 := K0.ext E2
  have V2 : DArr Z h2 b2 z (fun _ => 0) := DArr.new A2 (clamp_of rfl (by omega))
  refine own_to T2 (mkF m 10 #[.val (.ref a1), .val (.ref b2), .val (.int (0 : Int32))] []) (fun tq kq => st2 _ (XS.astoreN X2.here hx rfl (hb hby d5_7) rfl rfl (l' := #[.val (.ref a1), .val (.ref b2), .unset]) rfl (XS.iconst X2.here hx rfl (hb hby d5_8) (XS.istoreN X2.here hx rfl (hb hby d5_9) rfl (l' := #[.val (.ref a1), .val (.ref b2), .val (.int (0 : Int32))]) rfl kq)))) ?_
  have loop : ∀ (k i : Nat) (r : Nat → UInt64) (T1 : State) (h1 : Heap) (L1 : List Loc), i + k = z → (∀ j, j < i → r j = g ((n + j) % z)) → Stand p l e ({ frames := 0, cells := 1, slots := 4, locals := 0 } : Room) s m #[(.ref a1)] below meth c T1 L1 1 4 → T1.heap = h1 → Fr n0 L1 → n0 ≤ h1.size → Keep h0 h1 [] → Fld Z h1 a1 "com/example/tidemark/tidemark/policy/RateWindow" "recent" "[D" (.ref rc) → Fld Z h1 a1 "com/example/tidemark/tidemark/policy/RateWindow" "seen" "J" (.long (Int64.ofNat n)) → DArr Z h1 rc z g → DArr Z h1 b2 z r → Own p e below s ({ frames := 0, cells := 1, slots := 4, locals := 0 } : Room).cells ({ frames := 0, cells := 1, slots := 4, locals := 0 } : Room).slots (Q_rmR Z a1 rc n z g h0 n0) T1 (mkF m 10 #[.val (.ref a1), .val (.ref b2), .val (.int (Int32.ofNat i))] []) := by
    intro k
    induction k with
    | zero =>
      intro i r T1 h1 L1 hik hr X1 e1 N1 Z1 K1 F1' F2' A1' Ab'
      obtain ⟨cb, Arb, hszb, hatb⟩ := id Ab'
      refine own_to T1 (mkF m 13 #[.val (.ref a1), .val (.ref b2), .val (.int (Int32.ofNat i))] [(.int (cb.slots.size.toInt32)), (.int (Int32.ofNat i))]) (fun tq kq => XS.iloadN X1.here hx rfl (hb hby d5_10) rfl (XS.aloadN X1.here hx rfl (hb hby d5_11) rfl rfl (X1.arraylength hx (by rw [e1]; exact Arb.1) (State.isArrayOf_alike hZ.alike Arb.2.1) (g := (mkF m 12 #[.val (.ref a1), .val (.ref b2), .val (.int (Int32.ofNat i))] [(.ref b2), (.int (Int32.ofNat i))])) rfl rfl (hb hby d5_12) _ kq))) ?_
      rw [show cb.slots.size.toInt32 = Int32.ofNat z from by rw [hszb] <;> rfl]
      refine own_to T1 (mkF m 46 #[.val (.ref a1), .val (.ref b2), .val (.int (Int32.ofNat i))] [(.ref b2)]) (fun tq kq => XS.icmpYes X1.here hx rfl (pc0 := 13) (pc' := 45) rfl (hb hby d5_13) rfl (flt (mt (own_ltn (by omega) (by omega)).mp (by omega))).2.1 (by decide) (by decide) (XS.aloadN X1.here hx rfl (hb hby d5_45) rfl rfl kq)) ?_
      exact own_retA X1 hx hret hlk rfl rfl (hb hby d5_46) (by decide) (by decide) ⟨b2, r, rfl, N1, by rw [e1]; exact K1, sz2, by rw [e1]; exact Ab', fun j hj => hr j (by omega)⟩
    | succ k ih =>
      intro i r T1 h1 L1 hik hr X1 e1 N1 Z1 K1 F1' F2' A1' Ab'
      obtain ⟨cb, Arb, hszb, hatb⟩ := id Ab'
      obtain ⟨c1, Ar1, hsz1, hat1⟩ := id A1'
      have hmod : (n + i) % z < z := Nat.mod_lt _ hz
      have hin1 : ¬ ((Int32.ofNat ((n + i) % z)) < 0 ∨ c1.slots.size ≤ (Int32.ofNat ((n + i) % z)).toNatClampNeg) := by rw [hsz1]; exact within rfl hmod (by omega)
      have hat1' : c1.slots[(Int32.ofNat ((n + i) % z)).toNatClampNeg]? = some (.double (g ((n + i) % z))) := by rw [clamp_of rfl (by omega)]; exact hat1 _ hmod
      refine own_to T1 (mkF m 13 #[.val (.ref a1), .val (.ref b2), .val (.int (Int32.ofNat i))] [(.int (cb.slots.size.toInt32)), (.int (Int32.ofNat i))]) (fun tq kq => XS.iloadN X1.here hx rfl (hb hby d5_10) rfl (XS.aloadN X1.here hx rfl (hb hby d5_11) rfl rfl (X1.arraylength hx (by rw [e1]; exact Arb.1) (State.isArrayOf_alike hZ.alike Arb.2.1) (g := (mkF m 12 #[.val (.ref a1), .val (.ref b2), .val (.int (Int32.ofNat i))] [(.ref b2), (.int (Int32.ofNat i))])) rfl rfl (hb hby d5_12) _ kq))) ?_
      rw [show cb.slots.size.toInt32 = Int32.ofNat z from by rw [hszb] <;> rfl]
      refine own_to T1 (mkF m 19 #[.val (.ref a1), .val (.ref b2), .val (.int (Int32.ofNat i))] [(.ref a1), (.int (Int32.ofNat i)), (.ref b2)]) (fun tq kq => XS.icmpNo X1.here hx rfl (hb hby d5_13) rfl (tlt ((own_ltn (by omega) (by omega)).mpr (by omega))).2.1 (XS.aloadN X1.here hx rfl (hb hby d5_16) rfl rfl (XS.iloadN X1.here hx rfl (hb hby d5_17) rfl (XS.aloadN X1.here hx rfl (hb hby d5_18) rfl rfl kq)))) ?_
      obtain ⟨T6, X6, e6, st6⟩ := getF X1 hx hZ hown (host := "") (Or.inl (own_w hw 18 rfl)) Via.refl e1 F1' (g := (mkF m 19 #[.val (.ref a1), .val (.ref b2), .val (.int (Int32.ofNat i))] [(.ref a1), (.int (Int32.ofNat i)), (.ref b2)])) rfl rfl (hb hby d5_19)
      refine own_to T6 (mkF m 23 #[.val (.ref a1), .val (.ref b2), .val (.int (Int32.ofNat i))] [(.ref a1), (.ref rc), (.int (Int32.ofNat i)), (.ref b2)]) (fun tq kq => st6 _ (XS.aloadN X6.here hx rfl (hb hby d5_22) rfl rfl kq)) ?_
      obtain ⟨T7, X7, e7, st7⟩ := getF X6 hx hZ hown (host := "") (Or.inl (own_w hw 25 rfl)) Via.refl e6 F2' (g := (mkF m 23 #[.val (.ref a1), .val (.ref b2), .val (.int (Int32.ofNat i))] [(.ref a1), (.ref rc), (.int (Int32.ofNat i)), (.ref b2)])) rfl rfl (hb hby d5_23)
      refine own_to T7 (mkF m 28 #[.val (.ref a1), .val (.ref b2), .val (.int (Int32.ofNat i))] [(.long ((Int32.ofNat i).toInt64)), (.long (Int64.ofNat n)), (.ref rc), (.int (Int32.ofNat i)), (.ref b2)]) (fun tq kq => st7 _ (XS.iloadN X7.here hx rfl (hb hby d5_26) rfl (XS.i2l X7.here hx rfl (hb hby d5_27) rfl kq))) ?_
      rw [show ((Int32.ofNat i).toInt64) = (Int64.ofNat i) from own_i2l (by omega)]
      refine own_to T7 (mkF m 29 #[.val (.ref a1), .val (.ref b2), .val (.int (Int32.ofNat i))] [(.long ((Int64.ofNat n) + (Int64.ofNat i))), (.ref rc), (.int (Int32.ofNat i)), (.ref b2)]) (fun tq kq => XS.ladd X7.here hx rfl (hb hby d5_28) rfl kq) ?_
      rw [show ((Int64.ofNat n) + (Int64.ofNat i)) = (Int64.ofNat (n + i)) from own_ladd (by omega) (by omega)]
      refine own_to T7 (mkF m 30 #[.val (.ref a1), .val (.ref b2), .val (.int (Int32.ofNat i))] [(.ref a1), (.long (Int64.ofNat (n + i))), (.ref rc), (.int (Int32.ofNat i)), (.ref b2)]) (fun tq kq => XS.aloadN X7.here hx rfl (hb hby d5_29) rfl rfl kq) ?_
      obtain ⟨T8, X8, e8, st8⟩ := getF X7 hx hZ hown (host := "") (Or.inl (own_w hw 18 rfl)) Via.refl e7 F1' (g := (mkF m 30 #[.val (.ref a1), .val (.ref b2), .val (.int (Int32.ofNat i))] [(.ref a1), (.long (Int64.ofNat (n + i))), (.ref rc), (.int (Int32.ofNat i)), (.ref b2)])) rfl rfl (hb hby d5_30)
      refine own_to T8 (mkF m 34 #[.val (.ref a1), .val (.ref b2), .val (.int (Int32.ofNat i))] [(.int (c1.slots.size.toInt32)), (.long (Int64.ofNat (n + i))), (.ref rc), (.int (Int32.ofNat i)), (.ref b2)]) (fun tq kq => st8 _ (X8.arraylength hx (by rw [e8]; exact Ar1.1) (State.isArrayOf_alike hZ.alike Ar1.2.1) (g := (mkF m 33 #[.val (.ref a1), .val (.ref b2), .val (.int (Int32.ofNat i))] [(.ref rc), (.long (Int64.ofNat (n + i))), (.ref rc), (.int (Int32.ofNat i)), (.ref b2)])) rfl rfl (hb hby d5_33) _ kq)) ?_
      rw [show c1.slots.size.toInt32 = Int32.ofNat z from by rw [hsz1] <;> rfl]
      refine own_to T8 (mkF m 35 #[.val (.ref a1), .val (.ref b2), .val (.int (Int32.ofNat i))] [(.long ((Int32.ofNat z).toInt64)), (.long (Int64.ofNat (n + i))), (.ref rc), (.int (Int32.ofNat i)), (.ref b2)]) (fun tq kq => XS.i2l X8.here hx rfl (hb hby d5_34) rfl kq) ?_
      rw [show ((Int32.ofNat z).toInt64) = (Int64.ofNat z) from own_i2l (by omega)]
      refine own_to T8 (mkF m 36 #[.val (.ref a1), .val (.ref b2), .val (.int (Int32.ofNat i))] [(.long ((Int64.ofNat (n + i)) - ((Int64.ofNat (n + i)) / (Int64.ofNat z)) * (Int64.ofNat z))), (.ref rc), (.int (Int32.ofNat i)), (.ref b2)]) (fun tq kq => XS.lrem X8.here hx rfl (hb hby d5_35) rfl (own_lnz hz (by omega)) kq) ?_
      rw [show ((Int64.ofNat (n + i)) - ((Int64.ofNat (n + i)) / (Int64.ofNat z)) * (Int64.ofNat z)) = (Int64.ofNat ((n + i) % z)) from own_lrem (by omega) hz (by omega)]
      refine own_to T8 (mkF m 37 #[.val (.ref a1), .val (.ref b2), .val (.int (Int32.ofNat i))] [(.int ((Int64.ofNat ((n + i) % z)).toInt32)), (.ref rc), (.int (Int32.ofNat i)), (.ref b2)]) (fun tq kq => XS.l2i X8.here hx rfl (hb hby d5_36) rfl kq) ?_
      rw [show ((Int64.ofNat ((n + i) % z)).toInt32) = (Int32.ofNat ((n + i) % z)) from own_l2i (by have := Nat.mod_le (n + i) z; omega)]
      refine own_to T8 (mkF m 38 #[.val (.ref a1), .val (.ref b2), .val (.int (Int32.ofNat i))] [(.double (g ((n + i) % z))), (.int (Int32.ofNat i)), (.ref b2)]) (fun tq kq => X8.daload hx (j := (Int32.ofNat ((n + i) % z))) (v := (.double (g ((n + i) % z)))) (by rw [e8]; exact Ar1.1) (State.isArrayOf_alike hZ.alike Ar1.2.1) Ar1.2.2 hin1 hat1' (g := (mkF m 37 #[.val (.ref a1), .val (.ref b2), .val (.int (Int32.ofNat i))] [(.int (Int32.ofNat ((n + i) % z))), (.ref rc), (.int (Int32.ofNat i)), (.ref b2)])) rfl rfl (hb hby d5_37) _ kq) ?_
      obtain ⟨T9, h9, X9, e9, W9, st9⟩ := stD X8 hx hZ e8 Arb (j := (Int32.ofNat i)) (by rw [hszb]; exact within rfl (by omega) (by omega)) (g := (mkF m 38 #[.val (.ref a1), .val (.ref b2), .val (.int (Int32.ofNat i))] [(.double (g ((n + i) % z))), (.int (Int32.ofNat i)), (.ref b2)])) rfl rfl (hb hby d5_38)
      have f10 := F1'.other W9 (Or.inl ne_a1_b2)
      have f11 := F2'.other W9 (Or.inl ne_a1_b2)
      have f12 := A1'.other W9 ne_rc_b2
      have N9 := Fr.snoc X9 N1 sz2
      have Zs9 : n0 ≤ h9.size := by rw [W9.size]; exact Z1
      have K9 := K1.wr W9 (Or.inr hs2)
      have V9 := DArr.set Arb hszb hatb W9 (clamp_of rfl (by omega) : (Int32.ofNat i).toNatClampNeg = i)
      refine own_to T9 (mkF m 10 #[.val (.ref a1), .val (.ref b2), .val (.int ((Int32.ofNat i) + (1 : Int32)))] []) (fun tq kq => st9 _ (XS.iinc X9.here hx rfl (hb hby d5_39) rfl (l' := #[.val (.ref a1), .val (.ref b2), .val (.int ((Int32.ofNat i) + (1 : Int32)))]) rfl (XS.goto X9.here hx rfl (pc0 := 42) (pc' := 10) rfl (hb hby d5_42) (by decide) (by decide) kq))) ?_
      have hi1 : (Int32.ofNat i + (1 : Int32)) = Int32.ofNat (i + 1) := own_addn i 1 (by omega) (by decide)
      rw [hi1]
      exact ih (i + 1) _ _ _ _ (by omega) (own_fill hr) X9 e9 N9 Zs9 K9 f10 f11 f12 V9
  exact loop z 0 _ _ _ _ (by omega) (fun j hj => absurd hj (Nat.not_lt_zero j)) X2 e2 (Fr.nil n0) Zs2 K2 f3 f4 f5 V2
def own_sq (dd : Int64 → UInt64) (b : Int64) (k : Nat) : UInt64 := dd (b + Int64.ofNat k)
theorem own_nn {dd : Int64 → UInt64} (hdd : dd = FP.l2d) (b : Int64) (k : Nat) : Jvm.Free.Fl.NoNaN64 (own_sq dd b k) := by
  subst hdd
  exact (Jvm.Free.Fl.l2d_fin _).noNaN
theorem own_atc {z n i : Nat} {dd : Int64 → UInt64} (hdd : dd = FP.l2d) {b : Int64} {r g : Nat → UInt64} (hr : ∀ j, j < z → r j = g ((n + j) % z)) (R : own_R z (own_sq dd b) g n) (hf : z ≤ n) : z ≤ i ∨ (i < z ∧ r i = own_sq dd b (n - z + i) ∧ Jvm.Free.Fl.NoNaN64 (r i)) := by
  by_cases q : z ≤ i
  · exact Or.inl q
  · have e : r i = own_sq dd b (n - z + i) := by
      rw [hr i (by omega)]
      exact own_Rget R hf (by omega)
    exact Or.inr ⟨by omega, e, by rw [e]; exact own_nn hdd _ _⟩
theorem own_plus (b : Int64) (k j : Nat) (hk : k < 48) (hj : j < 16) : (b + Int64.ofNat k) + Int64.ofNat j = b + Int64.ofNat (k + j) := by
  rw [Int64.add_assoc, own_ladd hk hj]
theorem own_mul {u : Nat} (h : u ≤ 1) (j : Nat) (hj : j < 8) : Int64.ofNat j * (Int32.ofNat u).toInt64 = Int64.ofNat (j * u) := by
  have key : ∀ u : Fin 2, ∀ j : Fin 8, Int64.ofNat j * (Int32.ofNat u).toInt64 = Int64.ofNat (j * u) := by decide +kernel
  exact key ⟨u, by omega⟩ ⟨j, hj⟩
theorem own_minus (b : Int64) (k j : Nat) (h : j ≤ k) (hk : k < 48) (hj : j < 16) : (b + Int64.ofNat k) - Int64.ofNat j = b + Int64.ofNat (k - j) := by
  have e : b + Int64.ofNat k = (b + Int64.ofNat (k - j)) + Int64.ofNat j := by rw [own_plus b (k - j) j (by omega) hj, Nat.sub_add_cancel h]
  rw [e, Int64.add_sub_cancel]
theorem own_b0 (b : Int64) : b = b + Int64.ofNat 0 := (Int64.add_zero b).symm
theorem d1_0 : decode method_3_code 0 = .ok (.lload_n 0, 1) := by decide +kernel
theorem d1_1 : decode method_3_code 1 = .ok (.l2d, 1) := by decide +kernel
theorem d1_2 : decode method_3_code 2 = .ok (.dreturn, 1) := by decide +kernel
theorem pn_1 : plainName "com/example/tidemark/tidemark/policy/RateWindowRatesPinLaw" = true := by first | (simp [plainName, overriddenIn]; done) | decide +kernel
theorem ef_1_J (m : MethodId) (x0 : Int64) : entryFrame m #[(.long x0)] 2 = mkF m 0 #[.val (.long x0), .second] [] := by first | (simp [entryFrame, mkF, argsToLocals, Value.category]; done) | rfl
def Q_rmD (Z : State) (q0 : Int64) (dd : Int64 → UInt64) (h0 : Heap) (n0 : Nat) (v : Option Value) (h : Heap) (L : List Loc) : Prop := v = some (.double (dd q0)) ∧ Fr n0 L ∧ h = h0
set_option maxRecDepth 65536 in
set_option maxHeartbeats 40000000 in
theorem rmD (l : Launch) (Z : State) (a0 : Array Value) (hw : ∀ d ∈ tables_1, d.before a0 Z = true) (ws : List Jvm.Cond) (q0 : Int64) (dd : Int64 → UInt64) (h0 : Heap) (n0 : Nat) (Z0 : n0 ≤ h0.size) (hdd : dd = FP.l2d) :
    MetFree l (⟨"com/example/tidemark/tidemark/policy/RateWindowRatesPinLaw", "d", "(J)D"⟩ : MethodName) (head1 (Jvm.Cond.code (⟨"com/example/tidemark/tidemark/policy/RateWindowRatesPinLaw", "d", "(J)D"⟩ : MethodName) method_3_code 2 (some .double) :: ws) ({ frames := 0, cells := 0, slots := 0, locals := 0 } : Room)) (fun a U => a = #[(.long q0)] ∧ Z.Warmed39 U.vm ∧ U.heap = h0) (fun _ _ _ _ _ => True) (fun _ U o U' => ∃ v L, o = .returned v ∧ Q_rmD Z q0 dd h0 n0 v U'.heap L ∧ FrameEnd U o U' L ({ frames := 0, cells := 0, slots := 0, locals := 0 } : Room).cells ({ frames := 0, cells := 0, slots := 0, locals := 0 } : Room).slots) := by
  refine own_met (y := (⟨"com/example/tidemark/tidemark/policy/RateWindowRatesPinLaw", "d", "(J)D"⟩ : MethodName)) (Q := (Q_rmD Z q0 dd h0 n0)) (plainFor_of_name pn_1) fun p e s m below meth c s₁ X0 hx hby hml hret hlk hown hnm hZ e0 => ?_
  refine own_entry (ef_1_J m q0) ?_
  refine own_to s₁ (mkF m 2 #[.val (.long q0), .second] [(.double (FP.l2d q0))]) (fun tq kq => XS.lloadN X0.here hx rfl (hb hby d1_0) rfl (XS.l2dS X0.here hx rfl (hb hby d1_1) rfl rfl kq)) ?_
  exact own_retD X0 hx hret hlk (hb hby d1_2) (by decide) (by decide) ⟨by rw [hdd], (Fr.nil n0), e0⟩
theorem d6_0 : decode method_4_code 0 = .ok (.iload_n 1, 1) := by decide +kernel
theorem d6_1 : decode method_4_code 1 = .ok (.aload_n 0, 1) := by decide +kernel
theorem d6_2 : decode method_4_code 2 = .ok (.arraylength, 1) := by decide +kernel
theorem d6_3 : decode method_4_code 3 = .ok (.if_icmp .ge 17, 3) := by decide +kernel
theorem d6_6 : decode method_4_code 6 = .ok (.aload_n 0, 1) := by decide +kernel
theorem d6_7 : decode method_4_code 7 = .ok (.iload_n 1, 1) := by decide +kernel
theorem d6_8 : decode method_4_code 8 = .ok (.daload, 1) := by decide +kernel
theorem d6_9 : decode method_4_code 9 = .ok (.lload_n 2, 1) := by decide +kernel
theorem d6_10 : decode method_4_code 10 = .ok (.iload_n 1, 1) := by decide +kernel
theorem d6_11 : decode method_4_code 11 = .ok (.i2l, 1) := by decide +kernel
theorem d6_12 : decode method_4_code 12 = .ok (.ladd, 1) := by decide +kernel
theorem d6_13 : decode method_4_code 13 = .ok (.invokestatic 9, 3) := by decide +kernel
theorem d6_16 : decode method_4_code 16 = .ok (.dcmp .l, 1) := by decide +kernel
theorem d6_17 : decode method_4_code 17 = .ok (.ifCond .ne 7, 3) := by decide +kernel
theorem d6_20 : decode method_4_code 20 = .ok (.iconst 1, 1) := by decide +kernel
theorem d6_21 : decode method_4_code 21 = .ok (.goto 4, 3) := by decide +kernel
theorem d6_24 : decode method_4_code 24 = .ok (.iconst 0, 1) := by decide +kernel
theorem d6_25 : decode method_4_code 25 = .ok (.ireturn, 1) := by decide +kernel
theorem ef_6_RIJ (m : MethodId) (x0 : Addr) (x1 : Int32) (x2 : Int64) : entryFrame m #[(.ref x0), (.int x1), (.long x2)] 4 = mkF m 0 #[.val (.ref x0), .val (.int x1), .val (.long x2), .second] [] := by first | (simp [entryFrame, mkF, argsToLocals, Value.category]; done) | rfl
def Q_rmAt (Z : State) (a1 : Addr) (i z k : Nat) (b q : Int64) (r : Nat → UInt64) (dd : Int64 → UInt64) (h0 : Heap) (n0 : Nat) (v : Option Value) (h : Heap) (L : List Loc) : Prop := v = some (.int (1 : Int32)) ∧ Fr n0 L ∧ h = h0
theorem pd_0 : parseMethodDescriptor "(J)D" = some ⟨[.long], some .double⟩ := by decide +kernel
set_option maxRecDepth 65536 in
set_option maxHeartbeats 40000000 in
theorem rmAt (l : Launch) (Z : State) (a0 : Array Value) (hw : ∀ d ∈ tables_1, d.before a0 Z = true) (ws : List Jvm.Cond) (a1 : Addr) (i z k : Nat) (b q : Int64) (r : Nat → UInt64) (dd : Int64 → UInt64) (h0 : Heap) (n0 : Nat) (Z0 : n0 ≤ h0.size) (hdd : dd = FP.l2d) (hq : q = b + Int64.ofNat k) (A1 : DArr Z h0 a1 z r) (hi : i < 8) (hz4 : z ≤ 4) (hk : k < 32) (hc : z ≤ i ∨ (i < z ∧ r i = own_sq dd b (k + i) ∧ Jvm.Free.Fl.NoNaN64 (r i))) :
    MetFree l (⟨"com/example/tidemark/tidemark/policy/RateWindowRatesPinLaw", "at", "([DIJ)Z"⟩ : MethodName) (head1 (Jvm.Cond.code (⟨"com/example/tidemark/tidemark/policy/RateWindowRatesPinLaw", "at", "([DIJ)Z"⟩ : MethodName) method_4_code 4 (some .boolean) :: ws) ({ frames := 1, cells := 0, slots := 0, locals := 15 } : Room)) (fun a U => a = #[(.ref a1), (.int (Int32.ofNat i)), (.long q)] ∧ Z.Warmed39 U.vm ∧ U.heap = h0) (fun _ _ _ _ _ => True) (fun _ U o U' => ∃ v L, o = .returned v ∧ Q_rmAt Z a1 i z k b q r dd h0 n0 v U'.heap L ∧ FrameEnd U o U' L ({ frames := 1, cells := 0, slots := 0, locals := 15 } : Room).cells ({ frames := 1, cells := 0, slots := 0, locals := 15 } : Room).slots) := by
  refine own_met (y := (⟨"com/example/tidemark/tidemark/policy/RateWindowRatesPinLaw", "at", "([DIJ)Z"⟩ : MethodName)) (Q := (Q_rmAt Z a1 i z k b q r dd h0 n0)) (plainFor_of_name pn_1) fun p e s m below meth c s₁ X0 hx hby hml hret hlk hown hnm hZ e0 => ?_
  refine own_entry (ef_6_RIJ m a1 (Int32.ofNat i) q) ?_
  obtain ⟨c1, Ar1, hsz1, hat1⟩ := A1
  rcases hc with hc | ⟨hc, he, hnn⟩
  · skip
    refine own_to s₁ (mkF m 3 #[.val (.ref a1), .val (.int (Int32.ofNat i)), .val (.long q), .second] [(.int (c1.slots.size.toInt32)), (.int (Int32.ofNat i))]) (fun tq kq => XS.iloadN X0.here hx rfl (hb hby d6_0) rfl (XS.aloadN X0.here hx rfl (hb hby d6_1) rfl rfl (X0.arraylength hx (by rw [e0]; exact Ar1.1) (State.isArrayOf_alike hZ.alike Ar1.2.1) (g := (mkF m 2 #[.val (.ref a1), .val (.int (Int32.ofNat i)), .val (.long q), .second] [(.ref a1), (.int (Int32.ofNat i))])) rfl rfl (hb hby d6_2) _ kq))) ?_
    rw [show c1.slots.size.toInt32 = Int32.ofNat z from by rw [hsz1] <;> rfl]
    refine own_to s₁ (mkF m 25 #[.val (.ref a1), .val (.int (Int32.ofNat i)), .val (.long q), .second] [(.int (1 : Int32))]) (fun tq kq => XS.icmpYes X0.here hx rfl (pc0 := 3) (pc' := 20) rfl (hb hby d6_3) rfl (flt (mt (own_ltn (by omega) (by omega)).mp (by omega))).2.1 (by decide) (by decide) (XS.iconst X0.here hx rfl (hb hby d6_20) (XS.goto X0.here hx rfl (pc0 := 21) (pc' := 25) rfl (hb hby d6_21) (by decide) (by decide) kq))) ?_
    exact own_retZ X0 hx hret hlk (hb hby d6_25) (by decide) (by decide) (Or.inr rfl) ⟨rfl, (Fr.nil n0), e0⟩
  · skip
    have hin1 : ¬ ((Int32.ofNat i) < 0 ∨ c1.slots.size ≤ (Int32.ofNat i).toNatClampNeg) := by rw [hsz1]; exact within rfl hc (by omega)
    have hat1' : c1.slots[(Int32.ofNat i).toNatClampNeg]? = some (.double (r i)) := by rw [clamp_of rfl (by omega)]; exact hat1 _ hc
    refine own_to s₁ (mkF m 3 #[.val (.ref a1), .val (.int (Int32.ofNat i)), .val (.long q), .second] [(.int (c1.slots.size.toInt32)), (.int (Int32.ofNat i))]) (fun tq kq => XS.iloadN X0.here hx rfl (hb hby d6_0) rfl (XS.aloadN X0.here hx rfl (hb hby d6_1) rfl rfl (X0.arraylength hx (by rw [e0]; exact Ar1.1) (State.isArrayOf_alike hZ.alike Ar1.2.1) (g := (mkF m 2 #[.val (.ref a1), .val (.int (Int32.ofNat i)), .val (.long q), .second] [(.ref a1), (.int (Int32.ofNat i))])) rfl rfl (hb hby d6_2) _ kq))) ?_
    rw [show c1.slots.size.toInt32 = Int32.ofNat z from by rw [hsz1] <;> rfl]
    refine own_to s₁ (mkF m 12 #[.val (.ref a1), .val (.int (Int32.ofNat i)), .val (.long q), .second] [(.long ((Int32.ofNat i).toInt64)), (.long q), (.double (r i))]) (fun tq kq => XS.icmpNo X0.here hx rfl (hb hby d6_3) rfl (tlt ((own_ltn (by omega) (by omega)).mpr (by omega))).2.1 (XS.aloadN X0.here hx rfl (hb hby d6_6) rfl rfl (XS.iloadN X0.here hx rfl (hb hby d6_7) rfl (X0.daload hx (j := (Int32.ofNat i)) (v := (.double (r i))) (by rw [e0]; exact Ar1.1) (State.isArrayOf_alike hZ.alike Ar1.2.1) Ar1.2.2 hin1 hat1' (g := (mkF m 8 #[.val (.ref a1), .val (.int (Int32.ofNat i)), .val (.long q), .second] [(.int (Int32.ofNat i)), (.ref a1)])) rfl rfl (hb hby d6_8) _ (XS.lloadN X0.here hx rfl (hb hby d6_9) rfl (XS.iloadN X0.here hx rfl (hb hby d6_10) rfl (XS.i2l X0.here hx rfl (hb hby d6_11) rfl kq))))))) ?_
    rw [show ((Int32.ofNat i).toInt64) = (Int64.ofNat i) from own_i2l (by omega)]
    refine own_to s₁ (mkF m 13 #[.val (.ref a1), .val (.int (Int32.ofNat i)), .val (.long q), .second] [(.long (q + (Int64.ofNat i))), (.double (r i))]) (fun tq kq => XS.ladd X0.here hx rfl (hb hby d6_12) rfl kq) ?_
    rw [show (q + (Int64.ofNat i)) = (b + Int64.ofNat (k + i)) from by rw [hq]; exact own_plus b k i (by omega) (by omega)]
    obtain ⟨_, _, ⟨T1, L1, k1, n1⟩, -, X1, ⟨Lc1, hQ1, l1, y1, z1⟩, st1⟩ := Jvm.LawKit.callS X0 hx (y := (⟨"com/example/tidemark/tidemark/policy/RateWindowRatesPinLaw", "d", "(J)D"⟩ : MethodName)) hown (mvT hZ (own_w hw 2 rfl)) (mvT hZ (own_w hw 3 rfl)) (mvT hZ (own_w hw 4 rfl)) (mvT hZ (own_w hw 5 rfl)) (by decide) (backOf (W := 2) (rmD l Z a0 hw [] (b + Int64.ofNat (k + i)) dd h0 n0 Z0 hdd) hZ (own_w hw 5 rfl) (own_w hw 4 rfl) (by decide) (by decide)) (g := (mkF m 13 #[.val (.ref a1), .val (.int (Int32.ofNat i)), .val (.long q), .second] [(.long (b + Int64.ofNat (k + i))), (.double (r i))])) rfl (by rw [hml]; rfl) (argsL := [(.long (b + Int64.ofNat (k + i)))]) (rest := [(.double (r i))]) (lenOf pd_0 rfl) rfl (by show 2 * 0 + _ ≤ _; exact Nat.le_of_eq rfl) (hb hby d6_13) (fun _ _ => ⟨rfl, e0, (by decide : 0 + 0 ≤ _), (by decide : 0 + 0 ≤ _)⟩)
    dsimp only [Pt.U, Pt.locs, Pt.cells, Pt.slots] at X1 l1 y1 z1 st1 hQ1
    have l1y := l1.symm
    clear l1
    subst l1y
    obtain rfl : k1 = 0 := y1
    obtain rfl : n1 = 0 := z1
    obtain ⟨rfl, N1q, e1⟩ := hQ1
    have N1 := Fr.app (Fr.nil n0) N1q
    refine own_to T1 (mkF m 17 #[.val (.ref a1), .val (.int (Int32.ofNat i)), .val (.long q), .second] [(.int (cmpValue (FP.dcmp (r i) (dd (b + Int64.ofNat (k + i)))) .l))]) (fun tq kq => st1 _ (XS.dcmpS X1.here hx rfl (hb hby d6_16) rfl rfl kq)) ?_
    rw [dcmpV_eq (show r i = dd (b + Int64.ofNat (k + i)) from he) hnn]
    refine own_to T1 (mkF m 25 #[.val (.ref a1), .val (.int (Int32.ofNat i)), .val (.long q), .second] [(.int (1 : Int32))]) (fun tq kq => XS.ifNo X1.here hx rfl (hb hby d6_17) rfl ((if0 _ _).trans (teq (by decide : (0 : Int32) = (0 : Int32))).2) (XS.iconst X1.here hx rfl (hb hby d6_20) (XS.goto X1.here hx rfl (pc0 := 21) (pc' := 25) rfl (hb hby d6_21) (by decide) (by decide) kq))) ?_
    exact own_retZ X1 hx hret hlk (hb hby d6_25) (by decide) (by decide) (Or.inr rfl) ⟨rfl, N1, e1⟩
theorem ef_0_III (m : MethodId) (x0 : Int32) (x1 : Int32) (x2 : Int32) : entryFrame m #[(.int x0), (.int x1), (.int x2)] maxLocals = mkF m 0 #[.val (.int x0), .val (.int x1), .val (.int x2), .unset, .unset, .unset, .unset, .unset, .unset, .unset, .unset, .unset, .unset, .unset, .unset, .unset, .unset, .unset, .unset, .unset, .unset, .unset, .unset, .unset, .unset] [] := by first | (simp [entryFrame, mkF, argsToLocals, Value.category, maxLocals]; done) | rfl
def Q_rm0 (Z : State) (i0 i1 i2 : Int32) (dd : Int64 → UInt64) (h0 : Heap) (n0 : Nat) (v : Option Value) (h : Heap) (L : List Loc) : Prop := v = some (.int 1) ∧ Fr n0 L
theorem pd_1 : parseMethodDescriptor "(I)V" = some ⟨[.int], none⟩ := by decide +kernel
theorem pd_3 : parseMethodDescriptor "([D)V" = some ⟨[(.array .double)], none⟩ := by decide +kernel
theorem pd_4 : parseMethodDescriptor "()[D" = some ⟨[], some (.array .double)⟩ := by decide +kernel
theorem pd_5 : parseMethodDescriptor "([DIJ)Z" = some ⟨[(.array .double), .int, .long], some .boolean⟩ := by decide +kernel
set_option maxRecDepth 65536 in
set_option maxHeartbeats 40000000 in
theorem rm0 (l : Launch) (Z : State) (a0 : Array Value) (hw : ∀ d ∈ tables_1, d.before a0 Z = true) (ws : List Jvm.Cond) (i0 i1 i2 : Int32) (dd : Int64 → UInt64) (h0 : Heap) (n0 : Nat) (Z0 : n0 ≤ h0.size) (hdd : dd = FP.l2d) :
    MetFree l x (head1 (Jvm.Cond.code x code maxLocals ret :: ws) room_1) (fun a U => a = #[(.int i0), (.int i1), (.int i2)] ∧ Z.Warmed39 U.vm ∧ U.heap = h0) (fun _ _ _ _ _ => True) (fun _ U o U' => ∃ v L, o = .returned v ∧ Q_rm0 Z i0 i1 i2 dd h0 n0 v U'.heap L ∧ FrameEnd U o U' L room_1.cells room_1.slots) := by
  refine own_met (y := x) (Q := (Q_rm0 Z i0 i1 i2 dd h0 n0)) (plainFor_of_name pn_1) fun p e s m below meth c s₁ X0 hx hby hml hret hlk hown hnm hZ e0 => ?_
  refine own_entry (ef_0_III m i0 i1 i2) ?_
  refine own_to s₁ (mkF m 5 #[.val (.int i0), .val (.int i1), .val (.int i2), .unset, .unset, .unset, .unset, .unset, .unset, .unset, .unset, .unset, .unset, .unset, .unset, .unset, .unset, .unset, .unset, .unset, .unset, .unset, .unset, .unset, .unset] [(.int ((1 : Int32) + (i0 &&& (3 : Int32))))]) (fun tq kq => XS.iconst X0.here hx rfl (hb hby at_0) (XS.iloadN X0.here hx rfl (hb hby at_1) rfl (XS.iconst X0.here hx rfl (hb hby at_2) (XS.iand X0.here hx rfl (hb hby at_3) rfl (XS.iadd X0.here hx rfl (hb hby at_4) rfl kq))))) ?_
  obtain ⟨z', hz', hs3⟩ := own_small i0 (3 : Int32) 3 rfl (by decide)
  rw [hs3]
  obtain ⟨z, hzz⟩ : ∃ z, z = 1 + z' := ⟨_, rfl⟩
  rw [show ((1 : Int32) + (Int32.ofNat z')) = (Int32.ofNat (z)) from by rw [hzz]; exact own_addn 1 z' (by decide) (by omega)]
  have hz : 0 < z := by omega
  have hz4 : z ≤ 4 := by omega
  refine own_to s₁ (mkF m 9 #[.val (.int i0), .val (.int i1), .val (.int i2), .val (.int (Int32.ofNat (z))), .unset, .unset, .unset, .unset, .unset, .unset, .unset, .unset, .unset, .unset, .unset, .unset, .unset, .unset, .unset, .unset, .unset, .unset, .unset, .unset, .unset] [(.int (i1 &&& (1 : Int32)))]) (fun tq kq => XS.istoreN X0.here hx rfl (hb hby at_5) rfl (l' := #[.val (.int i0), .val (.int i1), .val (.int i2), .val (.int (Int32.ofNat (z))), .unset, .unset, .unset, .unset, .unset, .unset, .unset, .unset, .unset, .unset, .unset, .unset, .unset, .unset, .unset, .unset, .unset, .unset, .unset, .unset, .unset]) rfl (XS.iloadN X0.here hx rfl (hb hby at_6) rfl (XS.iconst X0.here hx rfl (hb hby at_7) (XS.iand X0.here hx rfl (hb hby at_8) rfl kq)))) ?_
  obtain ⟨u0, hu0, hsu0⟩ := own_small i1 (1 : Int32) 1 rfl (by decide)
  rw [hsu0]
  refine own_to s₁ (mkF m 16 #[.val (.int i0), .val (.int i1), .val (.int i2), .val (.int (Int32.ofNat (z))), .val (.int (Int32.ofNat (u0))), .unset, .unset, .unset, .unset, .unset, .unset, .unset, .unset, .unset, .unset, .unset, .unset, .unset, .unset, .unset, .unset, .unset, .unset, .unset, .unset] [(.int (((i1.toUInt32 >>> ((1 : Int32) &&& 31).toUInt32).toInt32) &&& (1 : Int32)))]) (fun tq kq => XS.istore X0.here hx rfl (hb hby at_9) rfl (l' := #[.val (.int i0), .val (.int i1), .val (.int i2), .val (.int (Int32.ofNat (z))), .val (.int (Int32.ofNat (u0))), .unset, .unset, .unset, .unset, .unset, .unset, .unset, .unset, .unset, .unset, .unset, .unset, .unset, .unset, .unset, .unset, .unset, .unset, .unset, .unset]) rfl (XS.iloadN X0.here hx rfl (hb hby at_11) rfl (XS.iconst X0.here hx rfl (hb hby at_12) (XS.iushr X0.here hx rfl (hb hby at_13) rfl (XS.iconst X0.here hx rfl (hb hby at_14) (XS.iand X0.here hx rfl (hb hby at_15) rfl kq)))))) ?_
  obtain ⟨u1, hu1, hsu1⟩ := own_small ((i1.toUInt32 >>> ((1 : Int32) &&& 31).toUInt32).toInt32) (1 : Int32) 1 rfl (by decide)
  rw [hsu1]
  refine own_to s₁ (mkF m 23 #[.val (.int i0), .val (.int i1), .val (.int i2), .val (.int (Int32.ofNat (z))), .val (.int (Int32.ofNat (u0))), .val (.int (Int32.ofNat (u1))), .unset, .unset, .unset, .unset, .unset, .unset, .unset, .unset, .unset, .unset, .unset, .unset, .unset, .unset, .unset, .unset, .unset, .unset, .unset] [(.int (((i1.toUInt32 >>> ((2 : Int32) &&& 31).toUInt32).toInt32) &&& (1 : Int32)))]) (fun tq kq => XS.istore X0.here hx rfl (hb hby at_16) rfl (l' := #[.val (.int i0), .val (.int i1), .val (.int i2), .val (.int (Int32.ofNat (z))), .val (.int (Int32.ofNat (u0))), .val (.int (Int32.ofNat (u1))), .unset, .unset, .unset, .unset, .unset, .unset, .unset, .unset, .unset, .unset, .unset, .unset, .unset, .unset, .unset, .unset, .unset, .unset, .unset]) rfl (XS.iloadN X0.here hx rfl (hb hby at_18) rfl (XS.iconst X0.here hx rfl (hb hby at_19) (XS.iushr X0.here hx rfl (hb hby at_20) rfl (XS.iconst X0.here hx rfl (hb hby at_21) (XS.iand X0.here hx rfl (hb hby at_22) rfl kq)))))) ?_
  obtain ⟨u2, hu2, hsu2⟩ := own_small ((i1.toUInt32 >>> ((2 : Int32) &&& 31).toUInt32).toInt32) (1 : Int32) 1 rfl (by decide)
  rw [hsu2]
  refine own_to s₁ (mkF m 31 #[.val (.int i0), .val (.int i1), .val (.int i2), .val (.int (Int32.ofNat (z))), .val (.int (Int32.ofNat (u0))), .val (.int (Int32.ofNat (u1))), .val (.int (Int32.ofNat (u2))), .unset, .unset, .unset, .unset, .unset, .unset, .unset, .unset, .unset, .unset, .unset, .unset, .unset, .unset, .unset, .unset, .unset, .unset] [(.long ((i2.toInt64) &&& (1048575 : Int64)))]) (fun tq kq => XS.istore X0.here hx rfl (hb hby at_23) rfl (l' := #[.val (.int i0), .val (.int i1), .val (.int i2), .val (.int (Int32.ofNat (z))), .val (.int (Int32.ofNat (u0))), .val (.int (Int32.ofNat (u1))), .val (.int (Int32.ofNat (u2))), .unset, .unset, .unset, .unset, .unset, .unset, .unset, .unset, .unset, .unset, .unset, .unset, .unset, .unset, .unset, .unset, .unset, .unset]) rfl (XS.iloadN X0.here hx rfl (hb hby at_25) rfl (XS.i2l X0.here hx rfl (hb hby at_26) rfl (X0.ldc2Long hx hown (mvT hZ (own_w hw 0 rfl)) (g := (mkF m 27 #[.val (.int i0), .val (.int i1), .val (.int i2), .val (.int (Int32.ofNat (z))), .val (.int (Int32.ofNat (u0))), .val (.int (Int32.ofNat (u1))), .val (.int (Int32.ofNat (u2))), .unset, .unset, .unset, .unset, .unset, .unset, .unset, .unset, .unset, .unset, .unset, .unset, .unset, .unset, .unset, .unset, .unset, .unset] [(.long (i2.toInt64))])) rfl (hb hby at_27) _ (XS.land X0.here hx rfl (hb hby at_30) rfl kq))))) ?_
  obtain ⟨b, hb⟩ : ∃ b, b = ((i2.toInt64) &&& (1048575 : Int64)) := ⟨_, rfl⟩
  rw [← hb]
  clear hb
  obtain ⟨qq1, hqq1⟩ : ∃ y0, y0 = b + Int64.ofNat (0) := ⟨_, rfl⟩
  rw [show b = qq1 from (own_b0 b).trans hqq1.symm]
  refine own_to s₁ (mkF m 34 #[.val (.int i0), .val (.int i1), .val (.int i2), .val (.int (Int32.ofNat (z))), .val (.int (Int32.ofNat (u0))), .val (.int (Int32.ofNat (u1))), .val (.int (Int32.ofNat (u2))), .val (.long qq1), .second, .unset, .unset, .unset, .unset, .unset, .unset, .unset, .unset, .unset, .unset, .unset, .unset, .unset, .unset, .unset, .unset] [(.int (4 : Int32))]) (fun tq kq => XS.lstore X0.here hx rfl (hb hby at_31) rfl (l' := #[.val (.int i0), .val (.int i1), .val (.int i2), .val (.int (Int32.ofNat (z))), .val (.int (Int32.ofNat (u0))), .val (.int (Int32.ofNat (u1))), .val (.int (Int32.ofNat (u2))), .val (.long qq1), .second, .unset, .unset, .unset, .unset, .unset, .unset, .unset, .unset, .unset, .unset, .unset, .unset, .unset, .unset, .unset, .unset]) rfl (XS.iconst X0.here hx rfl (hb hby at_33) kq)) ?_
  obtain ⟨T2, h2, k2, X2, e2, E2, A2, st2⟩ := newP X0 hx hZ (own_w hw 1 rfl) e0 (g := (mkF m 34 #[.val (.int i0), .val (.int i1), .val (.int i2), .val (.int (Int32.ofNat (z))), .val (.int (Int32.ofNat (u0))), .val (.int (Int32.ofNat (u1))), .val (.int (Int32.ofNat (u2))), .val (.long qq1), .second, .unset, .unset, .unset, .unset, .unset, .unset, .unset, .unset, .unset, .unset, .unset, .unset, .unset, .unset, .unset, .unset] [(.int (4 : Int32))])) rfl (hb hby at_34) rfl (by decide) (cap := 4) (by decide) (by decide) (by decide) (by decide)
  obtain ⟨b2, g2⟩ : ∃ z, z = h0.size := ⟨_, rfl⟩
  rw [← g2] at A2 st2
  have sz2 : n0 ≤ b2 := Nat.le_trans Z0 (Nat.le_of_eq g2.symm)
  have Zs2 : n0 ≤ h2.size := Nat.le_trans Z0 E2.1
  have V2 : DArr Z h2 b2 4 (fun _ => 0) := DArr.new A2 (by decide)
  refine own_to T2 (mkF m 40 #[.val (.int i0), .val (.int i1), .val (.int i2), .val (.int (Int32.ofNat (z))), .val (.int (Int32.ofNat (u0))), .val (.int (Int32.ofNat (u1))), .val (.int (Int32.ofNat (u2))), .val (.long qq1), .second, .unset, .unset, .unset, .unset, .unset, .unset, .unset, .unset, .unset, .unset, .unset, .unset, .unset, .unset, .unset, .unset] [(.long qq1), (.int (0 : Int32)), (.ref b2), (.ref b2)]) (fun tq kq => st2 _ (XS.dup X2.here hx rfl (hb hby at_36) rfl rfl (XS.iconst X2.here hx rfl (hb hby at_37) (XS.lload X2.here hx rfl (hb hby at_38) rfl kq)))) ?_
  obtain ⟨_, _, ⟨T3, L3, k3, n3⟩, -, X3, ⟨Lc3, hQ3, l3, y3, z3⟩, st3⟩ := Jvm.LawKit.callS X2 hx (y := (⟨"com/example/tidemark/tidemark/policy/RateWindowRatesPinLaw", "d", "(J)D"⟩ : MethodName)) hown (mvT hZ (own_w hw 2 rfl)) (mvT hZ (own_w hw 3 rfl)) (mvT hZ (own_w hw 4 rfl)) (mvT hZ (own_w hw 5 rfl)) (by decide) (backOf (W := 3) (rmD l Z a0 hw [] qq1 dd h2 n0 Zs2 hdd) hZ (own_w hw 5 rfl) (own_w hw 4 rfl) (by decide) (by decide)) (g := (mkF m 40 #[.val (.int i0), .val (.int i1), .val (.int i2), .val (.int (Int32.ofNat (z))), .val (.int (Int32.ofNat (u0))), .val (.int (Int32.ofNat (u1))), .val (.int (Int32.ofNat (u2))), .val (.long qq1), .second, .unset, .unset, .unset, .unset, .unset, .unset, .unset, .unset, .unset, .unset, .unset, .unset, .unset, .unset, .unset, .unset] [(.long qq1), (.int (0 : Int32)), (.ref b2), (.ref b2)])) rfl (by rw [hml]; rfl) (argsL := [(.long qq1)]) (rest := [(.int (0 : Int32)), (.ref b2), (.ref b2)]) (lenOf pd_0 rfl) rfl (by show 2 * 0 + _ ≤ _; exact Nat.le_of_eq rfl) (hb hby at_40) (fun _ _ => ⟨rfl, e2, (by decide : 1 + 0 ≤ _), (by decide : 4 + 0 ≤ _)⟩)
  dsimp only [Pt.U, Pt.locs, Pt.cells, Pt.slots] at X3 l3 y3 z3 st3 hQ3
  have l3y := l3.symm
  clear l3
  subst l3y
  obtain rfl : k3 = 1 := y3
  obtain rfl : n3 = 4 := z3
  obtain ⟨rfl, N3q, e3⟩ := hQ3
  have N3 := Fr.app (Fr.nil n0) N3q
  refine own_to T3 (mkF m 43 #[.val (.int i0), .val (.int i1), .val (.int i2), .val (.int (Int32.ofNat (z))), .val (.int (Int32.ofNat (u0))), .val (.int (Int32.ofNat (u1))), .val (.int (Int32.ofNat (u2))), .val (.long qq1), .second, .unset, .unset, .unset, .unset, .unset, .unset, .unset, .unset, .unset, .unset, .unset, .unset, .unset, .unset, .unset, .unset] [(.double (dd qq1)), (.int (0 : Int32)), (.ref b2), (.ref b2)]) (fun tq kq => st3 _ kq) ?_
  obtain ⟨co5, Aro5, hszo5, hato5⟩ := id V2
  obtain ⟨T4, h4, X4, e4, W4, st4⟩ := stD X3 hx hZ e3 Aro5 (j := (0 : Int32)) (by rw [hszo5]; decide) (g := (mkF m 43 #[.val (.int i0), .val (.int i1), .val (.int i2), .val (.int (Int32.ofNat (z))), .val (.int (Int32.ofNat (u0))), .val (.int (Int32.ofNat (u1))), .val (.int (Int32.ofNat (u2))), .val (.long qq1), .second, .unset, .unset, .unset, .unset, .unset, .unset, .unset, .unset, .unset, .unset, .unset, .unset, .unset, .unset, .unset, .unset] [(.double (dd qq1)), (.int (0 : Int32)), (.ref b2), (.ref b2)])) rfl rfl (hb hby at_43)
  have N4 := Fr.snoc X4 N3 sz2
  have Zs4 : n0 ≤ h4.size := by rw [W4.size]; exact Zs2
  have V4 := DArr.set Aro5 hszo5 hato5 W4 (by decide : ((0 : Int32)).toNatClampNeg = 0)
  obtain ⟨f4, hf4⟩ : ∃ f', f' = own_upd (fun _ => 0) 0 (dd qq1) := ⟨_, rfl⟩
  rw [← hf4] at V4
  refine own_to T4 (mkF m 50 #[.val (.int i0), .val (.int i1), .val (.int i2), .val (.int (Int32.ofNat (z))), .val (.int (Int32.ofNat (u0))), .val (.int (Int32.ofNat (u1))), .val (.int (Int32.ofNat (u2))), .val (.long qq1), .second, .unset, .unset, .unset, .unset, .unset, .unset, .unset, .unset, .unset, .unset, .unset, .unset, .unset, .unset, .unset, .unset] [(.long (qq1 + (1 : Int64))), (.int (1 : Int32)), (.ref b2), (.ref b2)]) (fun tq kq => st4 _ (XS.dup X4.here hx rfl (hb hby at_44) rfl rfl (XS.iconst X4.here hx rfl (hb hby at_45) (XS.lload X4.here hx rfl (hb hby at_46) rfl (XS.lconst X4.here hx rfl (hb hby at_48) (XS.ladd X4.here hx rfl (hb hby at_49) rfl kq)))))) ?_
  obtain ⟨qq6, hqq6⟩ : ∃ y0, y0 = b + Int64.ofNat (0 + 1) := ⟨_, rfl⟩
  rw [show (qq1 + (1 : Int64)) = qq6 from (show qq1 + (1 : Int64) = b + Int64.ofNat (0 + 1) from by rw [hqq1]; exact own_plus b (0) (1) (by omega) (by omega)).trans hqq6.symm]
  obtain ⟨_, _, ⟨T7, L7, k7, n7⟩, -, X7, ⟨Lc7, hQ7, l7, y7, z7⟩, st7⟩ := Jvm.LawKit.callS X4 hx (y := (⟨"com/example/tidemark/tidemark/policy/RateWindowRatesPinLaw", "d", "(J)D"⟩ : MethodName)) hown (mvT hZ (own_w hw 2 rfl)) (mvT hZ (own_w hw 3 rfl)) (mvT hZ (own_w hw 4 rfl)) (mvT hZ (own_w hw 5 rfl)) (by decide) (backOf (W := 3) (rmD l Z a0 hw [] qq6 dd h4 n0 Zs4 hdd) hZ (own_w hw 5 rfl) (own_w hw 4 rfl) (by decide) (by decide)) (g := (mkF m 50 #[.val (.int i0), .val (.int i1), .val (.int i2), .val (.int (Int32.ofNat (z))), .val (.int (Int32.ofNat (u0))), .val (.int (Int32.ofNat (u1))), .val (.int (Int32.ofNat (u2))), .val (.long qq1), .second, .unset, .unset, .unset, .unset, .unset, .unset, .unset, .unset, .unset, .unset, .unset, .unset, .unset, .unset, .unset, .unset] [(.long qq6), (.int (1 : Int32)), (.ref b2), (.ref b2)])) rfl (by rw [hml]; rfl) (argsL := [(.long qq6)]) (rest := [(.int (1 : Int32)), (.ref b2), (.ref b2)]) (lenOf pd_0 rfl) rfl (by show 2 * 0 + _ ≤ _; exact Nat.le_of_eq rfl) (hb hby at_50) (fun _ _ => ⟨rfl, e4, (by decide : 1 + 0 ≤ _), (by decide : 4 + 0 ≤ _)⟩)
  dsimp only [Pt.U, Pt.locs, Pt.cells, Pt.slots] at X7 l7 y7 z7 st7 hQ7
  have l7y := l7.symm
  clear l7
  subst l7y
  obtain rfl : k7 = 1 := y7
  obtain rfl : n7 = 4 := z7
  obtain ⟨rfl, N7q, e7⟩ := hQ7
  have N7 := Fr.app N4 N7q
  refine own_to T7 (mkF m 53 #[.val (.int i0), .val (.int i1), .val (.int i2), .val (.int (Int32.ofNat (z))), .val (.int (Int32.ofNat (u0))), .val (.int (Int32.ofNat (u1))), .val (.int (Int32.ofNat (u2))), .val (.long qq1), .second, .unset, .unset, .unset, .unset, .unset, .unset, .unset, .unset, .unset, .unset, .unset, .unset, .unset, .unset, .unset, .unset] [(.double (dd qq6)), (.int (1 : Int32)), (.ref b2), (.ref b2)]) (fun tq kq => st7 _ kq) ?_
  obtain ⟨co9, Aro9, hszo9, hato9⟩ := id V4
  obtain ⟨T8, h8, X8, e8, W8, st8⟩ := stD X7 hx hZ e7 Aro9 (j := (1 : Int32)) (by rw [hszo9]; decide) (g := (mkF m 53 #[.val (.int i0), .val (.int i1), .val (.int i2), .val (.int (Int32.ofNat (z))), .val (.int (Int32.ofNat (u0))), .val (.int (Int32.ofNat (u1))), .val (.int (Int32.ofNat (u2))), .val (.long qq1), .second, .unset, .unset, .unset, .unset, .unset, .unset, .unset, .unset, .unset, .unset, .unset, .unset, .unset, .unset, .unset, .unset] [(.double (dd qq6)), (.int (1 : Int32)), (.ref b2), (.ref b2)])) rfl rfl (hb hby at_53)
  have N8 := Fr.snoc X8 N7 sz2
  have Zs8 : n0 ≤ h8.size := by rw [W8.size]; exact Zs4
  have V8 := DArr.set Aro9 hszo9 hato9 W8 (by decide : ((1 : Int32)).toNatClampNeg = 1)
  obtain ⟨f8, hf8⟩ : ∃ f', f' = own_upd f4 1 (dd qq6) := ⟨_, rfl⟩
  rw [← hf8] at V8
  refine own_to T8 (mkF m 62 #[.val (.int i0), .val (.int i1), .val (.int i2), .val (.int (Int32.ofNat (z))), .val (.int (Int32.ofNat (u0))), .val (.int (Int32.ofNat (u1))), .val (.int (Int32.ofNat (u2))), .val (.long qq1), .second, .unset, .unset, .unset, .unset, .unset, .unset, .unset, .unset, .unset, .unset, .unset, .unset, .unset, .unset, .unset, .unset] [(.long (qq1 + (2 : Int64))), (.int (2 : Int32)), (.ref b2), (.ref b2)]) (fun tq kq => st8 _ (XS.dup X8.here hx rfl (hb hby at_54) rfl rfl (XS.iconst X8.here hx rfl (hb hby at_55) (XS.lload X8.here hx rfl (hb hby at_56) rfl (X8.ldc2Long hx hown (mvT hZ (own_w hw 6 rfl)) (g := (mkF m 58 #[.val (.int i0), .val (.int i1), .val (.int i2), .val (.int (Int32.ofNat (z))), .val (.int (Int32.ofNat (u0))), .val (.int (Int32.ofNat (u1))), .val (.int (Int32.ofNat (u2))), .val (.long qq1), .second, .unset, .unset, .unset, .unset, .unset, .unset, .unset, .unset, .unset, .unset, .unset, .unset, .unset, .unset, .unset, .unset] [(.long qq1), (.int (2 : Int32)), (.ref b2), (.ref b2)])) rfl (hb hby at_58) _ (XS.ladd X8.here hx rfl (hb hby at_61) rfl kq)))))) ?_
  obtain ⟨qq10, hqq10⟩ : ∃ y0, y0 = b + Int64.ofNat (0 + 2) := ⟨_, rfl⟩
  rw [show (qq1 + (2 : Int64)) = qq10 from (show qq1 + (2 : Int64) = b + Int64.ofNat (0 + 2) from by rw [hqq1]; exact own_plus b (0) (2) (by omega) (by omega)).trans hqq10.symm]
  obtain ⟨_, _, ⟨T11, L11, k11, n11⟩, -, X11, ⟨Lc11, hQ11, l11, y11, z11⟩, st11⟩ := Jvm.LawKit.callS X8 hx (y := (⟨"com/example/tidemark/tidemark/policy/RateWindowRatesPinLaw", "d", "(J)D"⟩ : MethodName)) hown (mvT hZ (own_w hw 2 rfl)) (mvT hZ (own_w hw 3 rfl)) (mvT hZ (own_w hw 4 rfl)) (mvT hZ (own_w hw 5 rfl)) (by decide) (backOf (W := 3) (rmD l Z a0 hw [] qq10 dd h8 n0 Zs8 hdd) hZ (own_w hw 5 rfl) (own_w hw 4 rfl) (by decide) (by decide)) (g := (mkF m 62 #[.val (.int i0), .val (.int i1), .val (.int i2), .val (.int (Int32.ofNat (z))), .val (.int (Int32.ofNat (u0))), .val (.int (Int32.ofNat (u1))), .val (.int (Int32.ofNat (u2))), .val (.long qq1), .second, .unset, .unset, .unset, .unset, .unset, .unset, .unset, .unset, .unset, .unset, .unset, .unset, .unset, .unset, .unset, .unset] [(.long qq10), (.int (2 : Int32)), (.ref b2), (.ref b2)])) rfl (by rw [hml]; rfl) (argsL := [(.long qq10)]) (rest := [(.int (2 : Int32)), (.ref b2), (.ref b2)]) (lenOf pd_0 rfl) rfl (by show 2 * 0 + _ ≤ _; exact Nat.le_of_eq rfl) (hb hby at_62) (fun _ _ => ⟨rfl, e8, (by decide : 1 + 0 ≤ _), (by decide : 4 + 0 ≤ _)⟩)
  dsimp only [Pt.U, Pt.locs, Pt.cells, Pt.slots] at X11 l11 y11 z11 st11 hQ11
  have l11y := l11.symm
  clear l11
  subst l11y
  obtain rfl : k11 = 1 := y11
  obtain rfl : n11 = 4 := z11
  obtain ⟨rfl, N11q, e11⟩ := hQ11
  have N11 := Fr.app N8 N11q
  refine own_to T11 (mkF m 65 #[.val (.int i0), .val (.int i1), .val (.int i2), .val (.int (Int32.ofNat (z))), .val (.int (Int32.ofNat (u0))), .val (.int (Int32.ofNat (u1))), .val (.int (Int32.ofNat (u2))), .val (.long qq1), .second, .unset, .unset, .unset, .unset, .unset, .unset, .unset, .unset, .unset, .unset, .unset, .unset, .unset, .unset, .unset, .unset] [(.double (dd qq10)), (.int (2 : Int32)), (.ref b2), (.ref b2)]) (fun tq kq => st11 _ kq) ?_
  obtain ⟨co13, Aro13, hszo13, hato13⟩ := id V8
  obtain ⟨T12, h12, X12, e12, W12, st12⟩ := stD X11 hx hZ e11 Aro13 (j := (2 : Int32)) (by rw [hszo13]; decide) (g := (mkF m 65 #[.val (.int i0), .val (.int i1), .val (.int i2), .val (.int (Int32.ofNat (z))), .val (.int (Int32.ofNat (u0))), .val (.int (Int32.ofNat (u1))), .val (.int (Int32.ofNat (u2))), .val (.long qq1), .second, .unset, .unset, .unset, .unset, .unset, .unset, .unset, .unset, .unset, .unset, .unset, .unset, .unset, .unset, .unset, .unset] [(.double (dd qq10)), (.int (2 : Int32)), (.ref b2), (.ref b2)])) rfl rfl (hb hby at_65)
  have N12 := Fr.snoc X12 N11 sz2
  have Zs12 : n0 ≤ h12.size := by rw [W12.size]; exact Zs8
  have V12 := DArr.set Aro13 hszo13 hato13 W12 (by decide : ((2 : Int32)).toNatClampNeg = 2)
  obtain ⟨f12, hf12⟩ : ∃ f', f' = own_upd f8 2 (dd qq10) := ⟨_, rfl⟩
  rw [← hf12] at V12
  refine own_to T12 (mkF m 74 #[.val (.int i0), .val (.int i1), .val (.int i2), .val (.int (Int32.ofNat (z))), .val (.int (Int32.ofNat (u0))), .val (.int (Int32.ofNat (u1))), .val (.int (Int32.ofNat (u2))), .val (.long qq1), .second, .unset, .unset, .unset, .unset, .unset, .unset, .unset, .unset, .unset, .unset, .unset, .unset, .unset, .unset, .unset, .unset] [(.long (qq1 + (3 : Int64))), (.int (3 : Int32)), (.ref b2), (.ref b2)]) (fun tq kq => st12 _ (XS.dup X12.here hx rfl (hb hby at_66) rfl rfl (XS.iconst X12.here hx rfl (hb hby at_67) (XS.lload X12.here hx rfl (hb hby at_68) rfl (X12.ldc2Long hx hown (mvT hZ (own_w hw 7 rfl)) (g := (mkF m 70 #[.val (.int i0), .val (.int i1), .val (.int i2), .val (.int (Int32.ofNat (z))), .val (.int (Int32.ofNat (u0))), .val (.int (Int32.ofNat (u1))), .val (.int (Int32.ofNat (u2))), .val (.long qq1), .second, .unset, .unset, .unset, .unset, .unset, .unset, .unset, .unset, .unset, .unset, .unset, .unset, .unset, .unset, .unset, .unset] [(.long qq1), (.int (3 : Int32)), (.ref b2), (.ref b2)])) rfl (hb hby at_70) _ (XS.ladd X12.here hx rfl (hb hby at_73) rfl kq)))))) ?_
  obtain ⟨qq14, hqq14⟩ : ∃ y0, y0 = b + Int64.ofNat (0 + 3) := ⟨_, rfl⟩
  rw [show (qq1 + (3 : Int64)) = qq14 from (show qq1 + (3 : Int64) = b + Int64.ofNat (0 + 3) from by rw [hqq1]; exact own_plus b (0) (3) (by omega) (by omega)).trans hqq14.symm]
  obtain ⟨_, _, ⟨T15, L15, k15, n15⟩, -, X15, ⟨Lc15, hQ15, l15, y15, z15⟩, st15⟩ := Jvm.LawKit.callS X12 hx (y := (⟨"com/example/tidemark/tidemark/policy/RateWindowRatesPinLaw", "d", "(J)D"⟩ : MethodName)) hown (mvT hZ (own_w hw 2 rfl)) (mvT hZ (own_w hw 3 rfl)) (mvT hZ (own_w hw 4 rfl)) (mvT hZ (own_w hw 5 rfl)) (by decide) (backOf (W := 3) (rmD l Z a0 hw [] qq14 dd h12 n0 Zs12 hdd) hZ (own_w hw 5 rfl) (own_w hw 4 rfl) (by decide) (by decide)) (g := (mkF m 74 #[.val (.int i0), .val (.int i1), .val (.int i2), .val (.int (Int32.ofNat (z))), .val (.int (Int32.ofNat (u0))), .val (.int (Int32.ofNat (u1))), .val (.int (Int32.ofNat (u2))), .val (.long qq1), .second, .unset, .unset, .unset, .unset, .unset, .unset, .unset, .unset, .unset, .unset, .unset, .unset, .unset, .unset, .unset, .unset] [(.long qq14), (.int (3 : Int32)), (.ref b2), (.ref b2)])) rfl (by rw [hml]; rfl) (argsL := [(.long qq14)]) (rest := [(.int (3 : Int32)), (.ref b2), (.ref b2)]) (lenOf pd_0 rfl) rfl (by show 2 * 0 + _ ≤ _; exact Nat.le_of_eq rfl) (hb hby at_74) (fun _ _ => ⟨rfl, e12, (by decide : 1 + 0 ≤ _), (by decide : 4 + 0 ≤ _)⟩)
  dsimp only [Pt.U, Pt.locs, Pt.cells, Pt.slots] at X15 l15 y15 z15 st15 hQ15
  have l15y := l15.symm
  clear l15
  subst l15y
  obtain rfl : k15 = 1 := y15
  obtain rfl : n15 = 4 := z15
  obtain ⟨rfl, N15q, e15⟩ := hQ15
  have N15 := Fr.app N12 N15q
  refine own_to T15 (mkF m 77 #[.val (.int i0), .val (.int i1), .val (.int i2), .val (.int (Int32.ofNat (z))), .val (.int (Int32.ofNat (u0))), .val (.int (Int32.ofNat (u1))), .val (.int (Int32.ofNat (u2))), .val (.long qq1), .second, .unset, .unset, .unset, .unset, .unset, .unset, .unset, .unset, .unset, .unset, .unset, .unset, .unset, .unset, .unset, .unset] [(.double (dd qq14)), (.int (3 : Int32)), (.ref b2), (.ref b2)]) (fun tq kq => st15 _ kq) ?_
  obtain ⟨co17, Aro17, hszo17, hato17⟩ := id V12
  obtain ⟨T16, h16, X16, e16, W16, st16⟩ := stD X15 hx hZ e15 Aro17 (j := (3 : Int32)) (by rw [hszo17]; decide) (g := (mkF m 77 #[.val (.int i0), .val (.int i1), .val (.int i2), .val (.int (Int32.ofNat (z))), .val (.int (Int32.ofNat (u0))), .val (.int (Int32.ofNat (u1))), .val (.int (Int32.ofNat (u2))), .val (.long qq1), .second, .unset, .unset, .unset, .unset, .unset, .unset, .unset, .unset, .unset, .unset, .unset, .unset, .unset, .unset, .unset, .unset] [(.double (dd qq14)), (.int (3 : Int32)), (.ref b2), (.ref b2)])) rfl rfl (hb hby at_77)
  have N16 := Fr.snoc X16 N15 sz2
  have Zs16 : n0 ≤ h16.size := by rw [W16.size]; exact Zs12
  have V16 := DArr.set Aro17 hszo17 hato17 W16 (by decide : ((3 : Int32)).toNatClampNeg = 3)
  obtain ⟨f16, hf16⟩ : ∃ f', f' = own_upd f12 3 (dd qq14) := ⟨_, rfl⟩
  rw [← hf16] at V16
  refine own_to T16 (mkF m 86 #[.val (.int i0), .val (.int i1), .val (.int i2), .val (.int (Int32.ofNat (z))), .val (.int (Int32.ofNat (u0))), .val (.int (Int32.ofNat (u1))), .val (.int (Int32.ofNat (u2))), .val (.long qq1), .second, .val (.ref b2), .unset, .unset, .unset, .unset, .unset, .unset, .unset, .unset, .unset, .unset, .unset, .unset, .unset, .unset, .unset] [(.long (qq1 + (4 : Int64)))]) (fun tq kq => st16 _ (XS.astore X16.here hx rfl (hb hby at_78) rfl rfl (l' := #[.val (.int i0), .val (.int i1), .val (.int i2), .val (.int (Int32.ofNat (z))), .val (.int (Int32.ofNat (u0))), .val (.int (Int32.ofNat (u1))), .val (.int (Int32.ofNat (u2))), .val (.long qq1), .second, .val (.ref b2), .unset, .unset, .unset, .unset, .unset, .unset, .unset, .unset, .unset, .unset, .unset, .unset, .unset, .unset, .unset]) rfl (XS.lload X16.here hx rfl (hb hby at_80) rfl (X16.ldc2Long hx hown (mvT hZ (own_w hw 8 rfl)) (g := (mkF m 82 #[.val (.int i0), .val (.int i1), .val (.int i2), .val (.int (Int32.ofNat (z))), .val (.int (Int32.ofNat (u0))), .val (.int (Int32.ofNat (u1))), .val (.int (Int32.ofNat (u2))), .val (.long qq1), .second, .val (.ref b2), .unset, .unset, .unset, .unset, .unset, .unset, .unset, .unset, .unset, .unset, .unset, .unset, .unset, .unset, .unset] [(.long qq1)])) rfl (hb hby at_82) _ (XS.ladd X16.here hx rfl (hb hby at_85) rfl kq))))) ?_
  obtain ⟨qq18, hqq18⟩ : ∃ y0, y0 = b + Int64.ofNat (0 + 4) := ⟨_, rfl⟩
  rw [show (qq1 + (4 : Int64)) = qq18 from (show qq1 + (4 : Int64) = b + Int64.ofNat (0 + 4) from by rw [hqq1]; exact own_plus b (0) (4) (by omega) (by omega)).trans hqq18.symm]
  refine own_to T16 (mkF m 89 #[.val (.int i0), .val (.int i1), .val (.int i2), .val (.int (Int32.ofNat (z))), .val (.int (Int32.ofNat (u0))), .val (.int (Int32.ofNat (u1))), .val (.int (Int32.ofNat (u2))), .val (.long qq1), .second, .val (.ref b2), .val (.long qq18), .second, .unset, .unset, .unset, .unset, .unset, .unset, .unset, .unset, .unset, .unset, .unset, .unset, .unset] [(.int (1 : Int32))]) (fun tq kq => XS.lstore X16.here hx rfl (hb hby at_86) rfl (l' := #[.val (.int i0), .val (.int i1), .val (.int i2), .val (.int (Int32.ofNat (z))), .val (.int (Int32.ofNat (u0))), .val (.int (Int32.ofNat (u1))), .val (.int (Int32.ofNat (u2))), .val (.long qq1), .second, .val (.ref b2), .val (.long qq18), .second, .unset, .unset, .unset, .unset, .unset, .unset, .unset, .unset, .unset, .unset, .unset, .unset, .unset]) rfl (XS.iconst X16.here hx rfl (hb hby at_88) kq)) ?_
  obtain ⟨T19, h19, k19, X19, e19, E19, A19, st19⟩ := newP X16 hx hZ (own_w hw 1 rfl) e16 (g := (mkF m 89 #[.val (.int i0), .val (.int i1), .val (.int i2), .val (.int (Int32.ofNat (z))), .val (.int (Int32.ofNat (u0))), .val (.int (Int32.ofNat (u1))), .val (.int (Int32.ofNat (u2))), .val (.long qq1), .second, .val (.ref b2), .val (.long qq18), .second, .unset, .unset, .unset, .unset, .unset, .unset, .unset, .unset, .unset, .unset, .unset, .unset, .unset] [(.int (1 : Int32))])) rfl (hb hby at_89) rfl (by decide) (cap := 1) (by decide) (by decide) (by decide) (by decide)
  obtain ⟨b19, g19⟩ : ∃ z, z = h16.size := ⟨_, rfl⟩
  rw [← g19] at A19 st19
  have ne_b2_b19 : own_ne b2 b19 := Nat.ne_of_lt (Nat.lt_of_lt_of_le V16.lt (Nat.le_of_eq g19.symm))
  have f20 := V16.ext E19
  have sz19 : n0 ≤ b19 := Nat.le_trans Zs16 (Nat.le_of_eq g19.symm)
  have Zs19 : n0 ≤ h19.size := Nat.le_trans Zs16 E19.1
  have V19 : DArr Z h19 b19 1 (fun _ => 0) := DArr.new A19 (by decide)
  refine own_to T19 (mkF m 95 #[.val (.int i0), .val (.int i1), .val (.int i2), .val (.int (Int32.ofNat (z))), .val (.int (Int32.ofNat (u0))), .val (.int (Int32.ofNat (u1))), .val (.int (Int32.ofNat (u2))), .val (.long qq1), .second, .val (.ref b2), .val (.long qq18), .second, .unset, .unset, .unset, .unset, .unset, .unset, .unset, .unset, .unset, .unset, .unset, .unset, .unset] [(.long qq18), (.int (0 : Int32)), (.ref b19), (.ref b19)]) (fun tq kq => st19 _ (XS.dup X19.here hx rfl (hb hby at_91) rfl rfl (XS.iconst X19.here hx rfl (hb hby at_92) (XS.lload X19.here hx rfl (hb hby at_93) rfl kq)))) ?_
  obtain ⟨_, _, ⟨T21, L21, k21, n21⟩, -, X21, ⟨Lc21, hQ21, l21, y21, z21⟩, st21⟩ := Jvm.LawKit.callS X19 hx (y := (⟨"com/example/tidemark/tidemark/policy/RateWindowRatesPinLaw", "d", "(J)D"⟩ : MethodName)) hown (mvT hZ (own_w hw 2 rfl)) (mvT hZ (own_w hw 3 rfl)) (mvT hZ (own_w hw 4 rfl)) (mvT hZ (own_w hw 5 rfl)) (by decide) (backOf (W := 3) (rmD l Z a0 hw [] qq18 dd h19 n0 Zs19 hdd) hZ (own_w hw 5 rfl) (own_w hw 4 rfl) (by decide) (by decide)) (g := (mkF m 95 #[.val (.int i0), .val (.int i1), .val (.int i2), .val (.int (Int32.ofNat (z))), .val (.int (Int32.ofNat (u0))), .val (.int (Int32.ofNat (u1))), .val (.int (Int32.ofNat (u2))), .val (.long qq1), .second, .val (.ref b2), .val (.long qq18), .second, .unset, .unset, .unset, .unset, .unset, .unset, .unset, .unset, .unset, .unset, .unset, .unset, .unset] [(.long qq18), (.int (0 : Int32)), (.ref b19), (.ref b19)])) rfl (by rw [hml]; rfl) (argsL := [(.long qq18)]) (rest := [(.int (0 : Int32)), (.ref b19), (.ref b19)]) (lenOf pd_0 rfl) rfl (by show 2 * 0 + _ ≤ _; exact Nat.le_of_eq rfl) (hb hby at_95) (fun _ _ => ⟨rfl, e19, (by decide : 2 + 0 ≤ _), (by decide : 5 + 0 ≤ _)⟩)
  dsimp only [Pt.U, Pt.locs, Pt.cells, Pt.slots] at X21 l21 y21 z21 st21 hQ21
  have l21y := l21.symm
  clear l21
  subst l21y
  obtain rfl : k21 = 2 := y21
  obtain rfl : n21 = 5 := z21
  obtain ⟨rfl, N21q, e21⟩ := hQ21
  have N21 := Fr.app N16 N21q
  refine own_to T21 (mkF m 98 #[.val (.int i0), .val (.int i1), .val (.int i2), .val (.int (Int32.ofNat (z))), .val (.int (Int32.ofNat (u0))), .val (.int (Int32.ofNat (u1))), .val (.int (Int32.ofNat (u2))), .val (.long qq1), .second, .val (.ref b2), .val (.long qq18), .second, .unset, .unset, .unset, .unset, .unset, .unset, .unset, .unset, .unset, .unset, .unset, .unset, .unset] [(.double (dd qq18)), (.int (0 : Int32)), (.ref b19), (.ref b19)]) (fun tq kq => st21 _ kq) ?_
  obtain ⟨co23, Aro23, hszo23, hato23⟩ := id V19
  obtain ⟨T22, h22, X22, e22, W22, st22⟩ := stD X21 hx hZ e21 Aro23 (j := (0 : Int32)) (by rw [hszo23]; decide) (g := (mkF m 98 #[.val (.int i0), .val (.int i1), .val (.int i2), .val (.int (Int32.ofNat (z))), .val (.int (Int32.ofNat (u0))), .val (.int (Int32.ofNat (u1))), .val (.int (Int32.ofNat (u2))), .val (.long qq1), .second, .val (.ref b2), .val (.long qq18), .second, .unset, .unset, .unset, .unset, .unset, .unset, .unset, .unset, .unset, .unset, .unset, .unset, .unset] [(.double (dd qq18)), (.int (0 : Int32)), (.ref b19), (.ref b19)])) rfl rfl (hb hby at_98)
  have f24 := f20.other W22 ne_b2_b19
  have N22 := Fr.snoc X22 N21 sz19
  have Zs22 : n0 ≤ h22.size := by rw [W22.size]; exact Zs19
  have V22 := DArr.set Aro23 hszo23 hato23 W22 (by decide : ((0 : Int32)).toNatClampNeg = 0)
  obtain ⟨f22, hf22⟩ : ∃ f', f' = own_upd (fun _ => 0) 0 (dd qq18) := ⟨_, rfl⟩
  rw [← hf22] at V22
  refine own_to T22 (mkF m 106 #[.val (.int i0), .val (.int i1), .val (.int i2), .val (.int (Int32.ofNat (z))), .val (.int (Int32.ofNat (u0))), .val (.int (Int32.ofNat (u1))), .val (.int (Int32.ofNat (u2))), .val (.long qq1), .second, .val (.ref b2), .val (.long qq18), .second, .val (.ref b19), .unset, .unset, .unset, .unset, .unset, .unset, .unset, .unset, .unset, .unset, .unset, .unset] [(.long ((Int32.ofNat (u0)).toInt64)), (.long qq18)]) (fun tq kq => st22 _ (XS.astore X22.here hx rfl (hb hby at_99) rfl rfl (l' := #[.val (.int i0), .val (.int i1), .val (.int i2), .val (.int (Int32.ofNat (z))), .val (.int (Int32.ofNat (u0))), .val (.int (Int32.ofNat (u1))), .val (.int (Int32.ofNat (u2))), .val (.long qq1), .second, .val (.ref b2), .val (.long qq18), .second, .val (.ref b19), .unset, .unset, .unset, .unset, .unset, .unset, .unset, .unset, .unset, .unset, .unset, .unset]) rfl (XS.lload X22.here hx rfl (hb hby at_101) rfl (XS.iload X22.here hx rfl (hb hby at_103) rfl (XS.i2l X22.here hx rfl (hb hby at_105) rfl kq))))) ?_
  rw [show ((Int32.ofNat (u0)).toInt64) = (Int64.ofNat (u0)) from own_i2l (by omega)]
  refine own_to T22 (mkF m 107 #[.val (.int i0), .val (.int i1), .val (.int i2), .val (.int (Int32.ofNat (z))), .val (.int (Int32.ofNat (u0))), .val (.int (Int32.ofNat (u1))), .val (.int (Int32.ofNat (u2))), .val (.long qq1), .second, .val (.ref b2), .val (.long qq18), .second, .val (.ref b19), .unset, .unset, .unset, .unset, .unset, .unset, .unset, .unset, .unset, .unset, .unset, .unset] [(.long (qq18 + (Int64.ofNat (u0))))]) (fun tq kq => XS.ladd X22.here hx rfl (hb hby at_106) rfl kq) ?_
  obtain ⟨qq25, hqq25⟩ : ∃ y0, y0 = b + Int64.ofNat (0 + 4 + u0) := ⟨_, rfl⟩
  rw [show (qq18 + (Int64.ofNat (u0))) = qq25 from (show qq18 + (Int64.ofNat (u0)) = b + Int64.ofNat (0 + 4 + u0) from by rw [hqq18]; exact own_plus b (0 + 4) (u0) (by omega) (by omega)).trans hqq25.symm]
  refine own_to T22 (mkF m 110 #[.val (.int i0), .val (.int i1), .val (.int i2), .val (.int (Int32.ofNat (z))), .val (.int (Int32.ofNat (u0))), .val (.int (Int32.ofNat (u1))), .val (.int (Int32.ofNat (u2))), .val (.long qq1), .second, .val (.ref b2), .val (.long qq18), .second, .val (.ref b19), .val (.long qq25), .second, .unset, .unset, .unset, .unset, .unset, .unset, .unset, .unset, .unset, .unset] [(.int (2 : Int32))]) (fun tq kq => XS.lstore X22.here hx rfl (hb hby at_107) rfl (l' := #[.val (.int i0), .val (.int i1), .val (.int i2), .val (.int (Int32.ofNat (z))), .val (.int (Int32.ofNat (u0))), .val (.int (Int32.ofNat (u1))), .val (.int (Int32.ofNat (u2))), .val (.long qq1), .second, .val (.ref b2), .val (.long qq18), .second, .val (.ref b19), .val (.long qq25), .second, .unset, .unset, .unset, .unset, .unset, .unset, .unset, .unset, .unset, .unset]) rfl (XS.iconst X22.here hx rfl (hb hby at_109) kq)) ?_
  obtain ⟨T26, h26, k26, X26, e26, E26, A26, st26⟩ := newP X22 hx hZ (own_w hw 1 rfl) e22 (g := (mkF m 110 #[.val (.int i0), .val (.int i1), .val (.int i2), .val (.int (Int32.ofNat (z))), .val (.int (Int32.ofNat (u0))), .val (.int (Int32.ofNat (u1))), .val (.int (Int32.ofNat (u2))), .val (.long qq1), .second, .val (.ref b2), .val (.long qq18), .second, .val (.ref b19), .val (.long qq25), .second, .unset, .unset, .unset, .unset, .unset, .unset, .unset, .unset, .unset, .unset] [(.int (2 : Int32))])) rfl (hb hby at_110) rfl (by decide) (cap := 2) (by decide) (by decide) (by decide) (by decide)
  obtain ⟨b26, g26⟩ : ∃ z, z = h22.size := ⟨_, rfl⟩
  rw [← g26] at A26 st26
  have ne_b2_b26 : own_ne b2 b26 := Nat.ne_of_lt (Nat.lt_of_lt_of_le f24.lt (Nat.le_of_eq g26.symm))
  have ne_b19_b26 : own_ne b19 b26 := Nat.ne_of_lt (Nat.lt_of_lt_of_le V22.lt (Nat.le_of_eq g26.symm))
  have f27 := f24.ext E26
  have f28 := V22.ext E26
  have sz26 : n0 ≤ b26 := Nat.le_trans Zs22 (Nat.le_of_eq g26.symm)
  have Zs26 : n0 ≤ h26.size := Nat.le_trans Zs22 E26.1
  have V26 : DArr Z h26 b26 2 (fun _ => 0) := DArr.new A26 (by decide)
  refine own_to T26 (mkF m 116 #[.val (.int i0), .val (.int i1), .val (.int i2), .val (.int (Int32.ofNat (z))), .val (.int (Int32.ofNat (u0))), .val (.int (Int32.ofNat (u1))), .val (.int (Int32.ofNat (u2))), .val (.long qq1), .second, .val (.ref b2), .val (.long qq18), .second, .val (.ref b19), .val (.long qq25), .second, .unset, .unset, .unset, .unset, .unset, .unset, .unset, .unset, .unset, .unset] [(.long qq25), (.int (0 : Int32)), (.ref b26), (.ref b26)]) (fun tq kq => st26 _ (XS.dup X26.here hx rfl (hb hby at_112) rfl rfl (XS.iconst X26.here hx rfl (hb hby at_113) (XS.lload X26.here hx rfl (hb hby at_114) rfl kq)))) ?_
  obtain ⟨_, _, ⟨T29, L29, k29, n29⟩, -, X29, ⟨Lc29, hQ29, l29, y29, z29⟩, st29⟩ := Jvm.LawKit.callS X26 hx (y := (⟨"com/example/tidemark/tidemark/policy/RateWindowRatesPinLaw", "d", "(J)D"⟩ : MethodName)) hown (mvT hZ (own_w hw 2 rfl)) (mvT hZ (own_w hw 3 rfl)) (mvT hZ (own_w hw 4 rfl)) (mvT hZ (own_w hw 5 rfl)) (by decide) (backOf (W := 3) (rmD l Z a0 hw [] qq25 dd h26 n0 Zs26 hdd) hZ (own_w hw 5 rfl) (own_w hw 4 rfl) (by decide) (by decide)) (g := (mkF m 116 #[.val (.int i0), .val (.int i1), .val (.int i2), .val (.int (Int32.ofNat (z))), .val (.int (Int32.ofNat (u0))), .val (.int (Int32.ofNat (u1))), .val (.int (Int32.ofNat (u2))), .val (.long qq1), .second, .val (.ref b2), .val (.long qq18), .second, .val (.ref b19), .val (.long qq25), .second, .unset, .unset, .unset, .unset, .unset, .unset, .unset, .unset, .unset, .unset] [(.long qq25), (.int (0 : Int32)), (.ref b26), (.ref b26)])) rfl (by rw [hml]; rfl) (argsL := [(.long qq25)]) (rest := [(.int (0 : Int32)), (.ref b26), (.ref b26)]) (lenOf pd_0 rfl) rfl (by show 2 * 0 + _ ≤ _; exact Nat.le_of_eq rfl) (hb hby at_116) (fun _ _ => ⟨rfl, e26, (by decide : 3 + 0 ≤ _), (by decide : 7 + 0 ≤ _)⟩)
  dsimp only [Pt.U, Pt.locs, Pt.cells, Pt.slots] at X29 l29 y29 z29 st29 hQ29
  have l29y := l29.symm
  clear l29
  subst l29y
  obtain rfl : k29 = 3 := y29
  obtain rfl : n29 = 7 := z29
  obtain ⟨rfl, N29q, e29⟩ := hQ29
  have N29 := Fr.app N22 N29q
  refine own_to T29 (mkF m 119 #[.val (.int i0), .val (.int i1), .val (.int i2), .val (.int (Int32.ofNat (z))), .val (.int (Int32.ofNat (u0))), .val (.int (Int32.ofNat (u1))), .val (.int (Int32.ofNat (u2))), .val (.long qq1), .second, .val (.ref b2), .val (.long qq18), .second, .val (.ref b19), .val (.long qq25), .second, .unset, .unset, .unset, .unset, .unset, .unset, .unset, .unset, .unset, .unset] [(.double (dd qq25)), (.int (0 : Int32)), (.ref b26), (.ref b26)]) (fun tq kq => st29 _ kq) ?_
  obtain ⟨co31, Aro31, hszo31, hato31⟩ := id V26
  obtain ⟨T30, h30, X30, e30, W30, st30⟩ := stD X29 hx hZ e29 Aro31 (j := (0 : Int32)) (by rw [hszo31]; decide) (g := (mkF m 119 #[.val (.int i0), .val (.int i1), .val (.int i2), .val (.int (Int32.ofNat (z))), .val (.int (Int32.ofNat (u0))), .val (.int (Int32.ofNat (u1))), .val (.int (Int32.ofNat (u2))), .val (.long qq1), .second, .val (.ref b2), .val (.long qq18), .second, .val (.ref b19), .val (.long qq25), .second, .unset, .unset, .unset, .unset, .unset, .unset, .unset, .unset, .unset, .unset] [(.double (dd qq25)), (.int (0 : Int32)), (.ref b26), (.ref b26)])) rfl rfl (hb hby at_119)
  have f32 := f27.other W30 ne_b2_b26
  have f33 := f28.other W30 ne_b19_b26
  have N30 := Fr.snoc X30 N29 sz26
  have Zs30 : n0 ≤ h30.size := by rw [W30.size]; exact Zs26
  have V30 := DArr.set Aro31 hszo31 hato31 W30 (by decide : ((0 : Int32)).toNatClampNeg = 0)
  obtain ⟨f30, hf30⟩ : ∃ f', f' = own_upd (fun _ => 0) 0 (dd qq25) := ⟨_, rfl⟩
  rw [← hf30] at V30
  refine own_to T30 (mkF m 126 #[.val (.int i0), .val (.int i1), .val (.int i2), .val (.int (Int32.ofNat (z))), .val (.int (Int32.ofNat (u0))), .val (.int (Int32.ofNat (u1))), .val (.int (Int32.ofNat (u2))), .val (.long qq1), .second, .val (.ref b2), .val (.long qq18), .second, .val (.ref b19), .val (.long qq25), .second, .unset, .unset, .unset, .unset, .unset, .unset, .unset, .unset, .unset, .unset] [(.long (qq25 + (1 : Int64))), (.int (1 : Int32)), (.ref b26), (.ref b26)]) (fun tq kq => st30 _ (XS.dup X30.here hx rfl (hb hby at_120) rfl rfl (XS.iconst X30.here hx rfl (hb hby at_121) (XS.lload X30.here hx rfl (hb hby at_122) rfl (XS.lconst X30.here hx rfl (hb hby at_124) (XS.ladd X30.here hx rfl (hb hby at_125) rfl kq)))))) ?_
  obtain ⟨qq34, hqq34⟩ : ∃ y0, y0 = b + Int64.ofNat (0 + 4 + u0 + 1) := ⟨_, rfl⟩
  rw [show (qq25 + (1 : Int64)) = qq34 from (show qq25 + (1 : Int64) = b + Int64.ofNat (0 + 4 + u0 + 1) from by rw [hqq25]; exact own_plus b (0 + 4 + u0) (1) (by omega) (by omega)).trans hqq34.symm]
  obtain ⟨_, _, ⟨T35, L35, k35, n35⟩, -, X35, ⟨Lc35, hQ35, l35, y35, z35⟩, st35⟩ := Jvm.LawKit.callS X30 hx (y := (⟨"com/example/tidemark/tidemark/policy/RateWindowRatesPinLaw", "d", "(J)D"⟩ : MethodName)) hown (mvT hZ (own_w hw 2 rfl)) (mvT hZ (own_w hw 3 rfl)) (mvT hZ (own_w hw 4 rfl)) (mvT hZ (own_w hw 5 rfl)) (by decide) (backOf (W := 3) (rmD l Z a0 hw [] qq34 dd h30 n0 Zs30 hdd) hZ (own_w hw 5 rfl) (own_w hw 4 rfl) (by decide) (by decide)) (g := (mkF m 126 #[.val (.int i0), .val (.int i1), .val (.int i2), .val (.int (Int32.ofNat (z))), .val (.int (Int32.ofNat (u0))), .val (.int (Int32.ofNat (u1))), .val (.int (Int32.ofNat (u2))), .val (.long qq1), .second, .val (.ref b2), .val (.long qq18), .second, .val (.ref b19), .val (.long qq25), .second, .unset, .unset, .unset, .unset, .unset, .unset, .unset, .unset, .unset, .unset] [(.long qq34), (.int (1 : Int32)), (.ref b26), (.ref b26)])) rfl (by rw [hml]; rfl) (argsL := [(.long qq34)]) (rest := [(.int (1 : Int32)), (.ref b26), (.ref b26)]) (lenOf pd_0 rfl) rfl (by show 2 * 0 + _ ≤ _; exact Nat.le_of_eq rfl) (hb hby at_126) (fun _ _ => ⟨rfl, e30, (by decide : 3 + 0 ≤ _), (by decide : 7 + 0 ≤ _)⟩)
  dsimp only [Pt.U, Pt.locs, Pt.cells, Pt.slots] at X35 l35 y35 z35 st35 hQ35
  have l35y := l35.symm
  clear l35
  subst l35y
  obtain rfl : k35 = 3 := y35
  obtain rfl : n35 = 7 := z35
  obtain ⟨rfl, N35q, e35⟩ := hQ35
  have N35 := Fr.app N30 N35q
  refine own_to T35 (mkF m 129 #[.val (.int i0), .val (.int i1), .val (.int i2), .val (.int (Int32.ofNat (z))), .val (.int (Int32.ofNat (u0))), .val (.int (Int32.ofNat (u1))), .val (.int (Int32.ofNat (u2))), .val (.long qq1), .second, .val (.ref b2), .val (.long qq18), .second, .val (.ref b19), .val (.long qq25), .second, .unset, .unset, .unset, .unset, .unset, .unset, .unset, .unset, .unset, .unset] [(.double (dd qq34)), (.int (1 : Int32)), (.ref b26), (.ref b26)]) (fun tq kq => st35 _ kq) ?_
  obtain ⟨co37, Aro37, hszo37, hato37⟩ := id V30
  obtain ⟨T36, h36, X36, e36, W36, st36⟩ := stD X35 hx hZ e35 Aro37 (j := (1 : Int32)) (by rw [hszo37]; decide) (g := (mkF m 129 #[.val (.int i0), .val (.int i1), .val (.int i2), .val (.int (Int32.ofNat (z))), .val (.int (Int32.ofNat (u0))), .val (.int (Int32.ofNat (u1))), .val (.int (Int32.ofNat (u2))), .val (.long qq1), .second, .val (.ref b2), .val (.long qq18), .second, .val (.ref b19), .val (.long qq25), .second, .unset, .unset, .unset, .unset, .unset, .unset, .unset, .unset, .unset, .unset] [(.double (dd qq34)), (.int (1 : Int32)), (.ref b26), (.ref b26)])) rfl rfl (hb hby at_129)
  have f38 := f32.other W36 ne_b2_b26
  have f39 := f33.other W36 ne_b19_b26
  have N36 := Fr.snoc X36 N35 sz26
  have Zs36 : n0 ≤ h36.size := by rw [W36.size]; exact Zs30
  have V36 := DArr.set Aro37 hszo37 hato37 W36 (by decide : ((1 : Int32)).toNatClampNeg = 1)
  obtain ⟨f36, hf36⟩ : ∃ f', f' = own_upd f30 1 (dd qq34) := ⟨_, rfl⟩
  rw [← hf36] at V36
  refine own_to T36 (mkF m 141 #[.val (.int i0), .val (.int i1), .val (.int i2), .val (.int (Int32.ofNat (z))), .val (.int (Int32.ofNat (u0))), .val (.int (Int32.ofNat (u1))), .val (.int (Int32.ofNat (u2))), .val (.long qq1), .second, .val (.ref b2), .val (.long qq18), .second, .val (.ref b19), .val (.long qq25), .second, .val (.ref b26), .unset, .unset, .unset, .unset, .unset, .unset, .unset, .unset, .unset] [(.long ((2 : Int64) * ((Int32.ofNat (u1)).toInt64))), (.long qq25)]) (fun tq kq => st36 _ (XS.astore X36.here hx rfl (hb hby at_130) rfl rfl (l' := #[.val (.int i0), .val (.int i1), .val (.int i2), .val (.int (Int32.ofNat (z))), .val (.int (Int32.ofNat (u0))), .val (.int (Int32.ofNat (u1))), .val (.int (Int32.ofNat (u2))), .val (.long qq1), .second, .val (.ref b2), .val (.long qq18), .second, .val (.ref b19), .val (.long qq25), .second, .val (.ref b26), .unset, .unset, .unset, .unset, .unset, .unset, .unset, .unset, .unset]) rfl (XS.lload X36.here hx rfl (hb hby at_132) rfl (X36.ldc2Long hx hown (mvT hZ (own_w hw 6 rfl)) (g := (mkF m 134 #[.val (.int i0), .val (.int i1), .val (.int i2), .val (.int (Int32.ofNat (z))), .val (.int (Int32.ofNat (u0))), .val (.int (Int32.ofNat (u1))), .val (.int (Int32.ofNat (u2))), .val (.long qq1), .second, .val (.ref b2), .val (.long qq18), .second, .val (.ref b19), .val (.long qq25), .second, .val (.ref b26), .unset, .unset, .unset, .unset, .unset, .unset, .unset, .unset, .unset] [(.long qq25)])) rfl (hb hby at_134) _ (XS.iload X36.here hx rfl (hb hby at_137) rfl (XS.i2l X36.here hx rfl (hb hby at_139) rfl (XS.lmul X36.here hx rfl (hb hby at_140) rfl kq))))))) ?_
  rw [show ((2 : Int64) * ((Int32.ofNat (u1)).toInt64)) = (Int64.ofNat (2 * u1)) from own_mul hu1 2 (by decide)]
  refine own_to T36 (mkF m 142 #[.val (.int i0), .val (.int i1), .val (.int i2), .val (.int (Int32.ofNat (z))), .val (.int (Int32.ofNat (u0))), .val (.int (Int32.ofNat (u1))), .val (.int (Int32.ofNat (u2))), .val (.long qq1), .second, .val (.ref b2), .val (.long qq18), .second, .val (.ref b19), .val (.long qq25), .second, .val (.ref b26), .unset, .unset, .unset, .unset, .unset, .unset, .unset, .unset, .unset] [(.long (qq25 + (Int64.ofNat (2 * u1))))]) (fun tq kq => XS.ladd X36.here hx rfl (hb hby at_141) rfl kq) ?_
  obtain ⟨qq40, hqq40⟩ : ∃ y0, y0 = b + Int64.ofNat (0 + 4 + u0 + 2 * u1) := ⟨_, rfl⟩
  rw [show (qq25 + (Int64.ofNat (2 * u1))) = qq40 from (show qq25 + (Int64.ofNat (2 * u1)) = b + Int64.ofNat (0 + 4 + u0 + 2 * u1) from by rw [hqq25]; exact own_plus b (0 + 4 + u0) (2 * u1) (by omega) (by omega)).trans hqq40.symm]
  refine own_to T36 (mkF m 145 #[.val (.int i0), .val (.int i1), .val (.int i2), .val (.int (Int32.ofNat (z))), .val (.int (Int32.ofNat (u0))), .val (.int (Int32.ofNat (u1))), .val (.int (Int32.ofNat (u2))), .val (.long qq1), .second, .val (.ref b2), .val (.long qq18), .second, .val (.ref b19), .val (.long qq25), .second, .val (.ref b26), .val (.long qq40), .second, .unset, .unset, .unset, .unset, .unset, .unset, .unset] [(.int (4 : Int32))]) (fun tq kq => XS.lstore X36.here hx rfl (hb hby at_142) rfl (l' := #[.val (.int i0), .val (.int i1), .val (.int i2), .val (.int (Int32.ofNat (z))), .val (.int (Int32.ofNat (u0))), .val (.int (Int32.ofNat (u1))), .val (.int (Int32.ofNat (u2))), .val (.long qq1), .second, .val (.ref b2), .val (.long qq18), .second, .val (.ref b19), .val (.long qq25), .second, .val (.ref b26), .val (.long qq40), .second, .unset, .unset, .unset, .unset, .unset, .unset, .unset]) rfl (XS.iconst X36.here hx rfl (hb hby at_144) kq)) ?_
  obtain ⟨T41, h41, k41, X41, e41, E41, A41, st41⟩ := newP X36 hx hZ (own_w hw 1 rfl) e36 (g := (mkF m 145 #[.val (.int i0), .val (.int i1), .val (.int i2), .val (.int (Int32.ofNat (z))), .val (.int (Int32.ofNat (u0))), .val (.int (Int32.ofNat (u1))), .val (.int (Int32.ofNat (u2))), .val (.long qq1), .second, .val (.ref b2), .val (.long qq18), .second, .val (.ref b19), .val (.long qq25), .second, .val (.ref b26), .val (.long qq40), .second, .unset, .unset, .unset, .unset, .unset, .unset, .unset] [(.int (4 : Int32))])) rfl (hb hby at_145) rfl (by decide) (cap := 4) (by decide) (by decide) (by decide) (by decide)
  obtain ⟨b41, g41⟩ : ∃ z, z = h36.size := ⟨_, rfl⟩
  rw [← g41] at A41 st41
  have ne_b2_b41 : own_ne b2 b41 := Nat.ne_of_lt (Nat.lt_of_lt_of_le f38.lt (Nat.le_of_eq g41.symm))
  have ne_b19_b41 : own_ne b19 b41 := Nat.ne_of_lt (Nat.lt_of_lt_of_le f39.lt (Nat.le_of_eq g41.symm))
  have ne_b26_b41 : own_ne b26 b41 := Nat.ne_of_lt (Nat.lt_of_lt_of_le V36.lt (Nat.le_of_eq g41.symm))
  have f42 := f38.ext E41
  have f43 := f39.ext E41
  have f44 := V36.ext E41
  have sz41 : n0 ≤ b41 := Nat.le_trans Zs36 (Nat.le_of_eq g41.symm)
  have Zs41 : n0 ≤ h41.size := Nat.le_trans Zs36 E41.1
  have V41 : DArr Z h41 b41 4 (fun _ => 0) := DArr.new A41 (by decide)
  refine own_to T41 (mkF m 151 #[.val (.int i0), .val (.int i1), .val (.int i2), .val (.int (Int32.ofNat (z))), .val (.int (Int32.ofNat (u0))), .val (.int (Int32.ofNat (u1))), .val (.int (Int32.ofNat (u2))), .val (.long qq1), .second, .val (.ref b2), .val (.long qq18), .second, .val (.ref b19), .val (.long qq25), .second, .val (.ref b26), .val (.long qq40), .second, .unset, .unset, .unset, .unset, .unset, .unset, .unset] [(.long qq40), (.int (0 : Int32)), (.ref b41), (.ref b41)]) (fun tq kq => st41 _ (XS.dup X41.here hx rfl (hb hby at_147) rfl rfl (XS.iconst X41.here hx rfl (hb hby at_148) (XS.lload X41.here hx rfl (hb hby at_149) rfl kq)))) ?_
  obtain ⟨_, _, ⟨T45, L45, k45, n45⟩, -, X45, ⟨Lc45, hQ45, l45, y45, z45⟩, st45⟩ := Jvm.LawKit.callS X41 hx (y := (⟨"com/example/tidemark/tidemark/policy/RateWindowRatesPinLaw", "d", "(J)D"⟩ : MethodName)) hown (mvT hZ (own_w hw 2 rfl)) (mvT hZ (own_w hw 3 rfl)) (mvT hZ (own_w hw 4 rfl)) (mvT hZ (own_w hw 5 rfl)) (by decide) (backOf (W := 3) (rmD l Z a0 hw [] qq40 dd h41 n0 Zs41 hdd) hZ (own_w hw 5 rfl) (own_w hw 4 rfl) (by decide) (by decide)) (g := (mkF m 151 #[.val (.int i0), .val (.int i1), .val (.int i2), .val (.int (Int32.ofNat (z))), .val (.int (Int32.ofNat (u0))), .val (.int (Int32.ofNat (u1))), .val (.int (Int32.ofNat (u2))), .val (.long qq1), .second, .val (.ref b2), .val (.long qq18), .second, .val (.ref b19), .val (.long qq25), .second, .val (.ref b26), .val (.long qq40), .second, .unset, .unset, .unset, .unset, .unset, .unset, .unset] [(.long qq40), (.int (0 : Int32)), (.ref b41), (.ref b41)])) rfl (by rw [hml]; rfl) (argsL := [(.long qq40)]) (rest := [(.int (0 : Int32)), (.ref b41), (.ref b41)]) (lenOf pd_0 rfl) rfl (by show 2 * 0 + _ ≤ _; exact Nat.le_of_eq rfl) (hb hby at_151) (fun _ _ => ⟨rfl, e41, (by decide : 4 + 0 ≤ _), (by decide : 11 + 0 ≤ _)⟩)
  dsimp only [Pt.U, Pt.locs, Pt.cells, Pt.slots] at X45 l45 y45 z45 st45 hQ45
  have l45y := l45.symm
  clear l45
  subst l45y
  obtain rfl : k45 = 4 := y45
  obtain rfl : n45 = 11 := z45
  obtain ⟨rfl, N45q, e45⟩ := hQ45
  have N45 := Fr.app N36 N45q
  refine own_to T45 (mkF m 154 #[.val (.int i0), .val (.int i1), .val (.int i2), .val (.int (Int32.ofNat (z))), .val (.int (Int32.ofNat (u0))), .val (.int (Int32.ofNat (u1))), .val (.int (Int32.ofNat (u2))), .val (.long qq1), .second, .val (.ref b2), .val (.long qq18), .second, .val (.ref b19), .val (.long qq25), .second, .val (.ref b26), .val (.long qq40), .second, .unset, .unset, .unset, .unset, .unset, .unset, .unset] [(.double (dd qq40)), (.int (0 : Int32)), (.ref b41), (.ref b41)]) (fun tq kq => st45 _ kq) ?_
  obtain ⟨co47, Aro47, hszo47, hato47⟩ := id V41
  obtain ⟨T46, h46, X46, e46, W46, st46⟩ := stD X45 hx hZ e45 Aro47 (j := (0 : Int32)) (by rw [hszo47]; decide) (g := (mkF m 154 #[.val (.int i0), .val (.int i1), .val (.int i2), .val (.int (Int32.ofNat (z))), .val (.int (Int32.ofNat (u0))), .val (.int (Int32.ofNat (u1))), .val (.int (Int32.ofNat (u2))), .val (.long qq1), .second, .val (.ref b2), .val (.long qq18), .second, .val (.ref b19), .val (.long qq25), .second, .val (.ref b26), .val (.long qq40), .second, .unset, .unset, .unset, .unset, .unset, .unset, .unset] [(.double (dd qq40)), (.int (0 : Int32)), (.ref b41), (.ref b41)])) rfl rfl (hb hby at_154)
  have f48 := f42.other W46 ne_b2_b41
  have f49 := f43.other W46 ne_b19_b41
  have f50 := f44.other W46 ne_b26_b41
  have N46 := Fr.snoc X46 N45 sz41
  have Zs46 : n0 ≤ h46.size := by rw [W46.size]; exact Zs41
  have V46 := DArr.set Aro47 hszo47 hato47 W46 (by decide : ((0 : Int32)).toNatClampNeg = 0)
  obtain ⟨f46, hf46⟩ : ∃ f', f' = own_upd (fun _ => 0) 0 (dd qq40) := ⟨_, rfl⟩
  rw [← hf46] at V46
  refine own_to T46 (mkF m 161 #[.val (.int i0), .val (.int i1), .val (.int i2), .val (.int (Int32.ofNat (z))), .val (.int (Int32.ofNat (u0))), .val (.int (Int32.ofNat (u1))), .val (.int (Int32.ofNat (u2))), .val (.long qq1), .second, .val (.ref b2), .val (.long qq18), .second, .val (.ref b19), .val (.long qq25), .second, .val (.ref b26), .val (.long qq40), .second, .unset, .unset, .unset, .unset, .unset, .unset, .unset] [(.long (qq40 + (1 : Int64))), (.int (1 : Int32)), (.ref b41), (.ref b41)]) (fun tq kq => st46 _ (XS.dup X46.here hx rfl (hb hby at_155) rfl rfl (XS.iconst X46.here hx rfl (hb hby at_156) (XS.lload X46.here hx rfl (hb hby at_157) rfl (XS.lconst X46.here hx rfl (hb hby at_159) (XS.ladd X46.here hx rfl (hb hby at_160) rfl kq)))))) ?_
  obtain ⟨qq51, hqq51⟩ : ∃ y0, y0 = b + Int64.ofNat (0 + 4 + u0 + 2 * u1 + 1) := ⟨_, rfl⟩
  rw [show (qq40 + (1 : Int64)) = qq51 from (show qq40 + (1 : Int64) = b + Int64.ofNat (0 + 4 + u0 + 2 * u1 + 1) from by rw [hqq40]; exact own_plus b (0 + 4 + u0 + 2 * u1) (1) (by omega) (by omega)).trans hqq51.symm]
  obtain ⟨_, _, ⟨T52, L52, k52, n52⟩, -, X52, ⟨Lc52, hQ52, l52, y52, z52⟩, st52⟩ := Jvm.LawKit.callS X46 hx (y := (⟨"com/example/tidemark/tidemark/policy/RateWindowRatesPinLaw", "d", "(J)D"⟩ : MethodName)) hown (mvT hZ (own_w hw 2 rfl)) (mvT hZ (own_w hw 3 rfl)) (mvT hZ (own_w hw 4 rfl)) (mvT hZ (own_w hw 5 rfl)) (by decide) (backOf (W := 3) (rmD l Z a0 hw [] qq51 dd h46 n0 Zs46 hdd) hZ (own_w hw 5 rfl) (own_w hw 4 rfl) (by decide) (by decide)) (g := (mkF m 161 #[.val (.int i0), .val (.int i1), .val (.int i2), .val (.int (Int32.ofNat (z))), .val (.int (Int32.ofNat (u0))), .val (.int (Int32.ofNat (u1))), .val (.int (Int32.ofNat (u2))), .val (.long qq1), .second, .val (.ref b2), .val (.long qq18), .second, .val (.ref b19), .val (.long qq25), .second, .val (.ref b26), .val (.long qq40), .second, .unset, .unset, .unset, .unset, .unset, .unset, .unset] [(.long qq51), (.int (1 : Int32)), (.ref b41), (.ref b41)])) rfl (by rw [hml]; rfl) (argsL := [(.long qq51)]) (rest := [(.int (1 : Int32)), (.ref b41), (.ref b41)]) (lenOf pd_0 rfl) rfl (by show 2 * 0 + _ ≤ _; exact Nat.le_of_eq rfl) (hb hby at_161) (fun _ _ => ⟨rfl, e46, (by decide : 4 + 0 ≤ _), (by decide : 11 + 0 ≤ _)⟩)
  dsimp only [Pt.U, Pt.locs, Pt.cells, Pt.slots] at X52 l52 y52 z52 st52 hQ52
  have l52y := l52.symm
  clear l52
  subst l52y
  obtain rfl : k52 = 4 := y52
  obtain rfl : n52 = 11 := z52
  obtain ⟨rfl, N52q, e52⟩ := hQ52
  have N52 := Fr.app N46 N52q
  refine own_to T52 (mkF m 164 #[.val (.int i0), .val (.int i1), .val (.int i2), .val (.int (Int32.ofNat (z))), .val (.int (Int32.ofNat (u0))), .val (.int (Int32.ofNat (u1))), .val (.int (Int32.ofNat (u2))), .val (.long qq1), .second, .val (.ref b2), .val (.long qq18), .second, .val (.ref b19), .val (.long qq25), .second, .val (.ref b26), .val (.long qq40), .second, .unset, .unset, .unset, .unset, .unset, .unset, .unset] [(.double (dd qq51)), (.int (1 : Int32)), (.ref b41), (.ref b41)]) (fun tq kq => st52 _ kq) ?_
  obtain ⟨co54, Aro54, hszo54, hato54⟩ := id V46
  obtain ⟨T53, h53, X53, e53, W53, st53⟩ := stD X52 hx hZ e52 Aro54 (j := (1 : Int32)) (by rw [hszo54]; decide) (g := (mkF m 164 #[.val (.int i0), .val (.int i1), .val (.int i2), .val (.int (Int32.ofNat (z))), .val (.int (Int32.ofNat (u0))), .val (.int (Int32.ofNat (u1))), .val (.int (Int32.ofNat (u2))), .val (.long qq1), .second, .val (.ref b2), .val (.long qq18), .second, .val (.ref b19), .val (.long qq25), .second, .val (.ref b26), .val (.long qq40), .second, .unset, .unset, .unset, .unset, .unset, .unset, .unset] [(.double (dd qq51)), (.int (1 : Int32)), (.ref b41), (.ref b41)])) rfl rfl (hb hby at_164)
  have f55 := f48.other W53 ne_b2_b41
  have f56 := f49.other W53 ne_b19_b41
  have f57 := f50.other W53 ne_b26_b41
  have N53 := Fr.snoc X53 N52 sz41
  have Zs53 : n0 ≤ h53.size := by rw [W53.size]; exact Zs46
  have V53 := DArr.set Aro54 hszo54 hato54 W53 (by decide : ((1 : Int32)).toNatClampNeg = 1)
  obtain ⟨f53, hf53⟩ : ∃ f', f' = own_upd f46 1 (dd qq51) := ⟨_, rfl⟩
  rw [← hf53] at V53
  refine own_to T53 (mkF m 173 #[.val (.int i0), .val (.int i1), .val (.int i2), .val (.int (Int32.ofNat (z))), .val (.int (Int32.ofNat (u0))), .val (.int (Int32.ofNat (u1))), .val (.int (Int32.ofNat (u2))), .val (.long qq1), .second, .val (.ref b2), .val (.long qq18), .second, .val (.ref b19), .val (.long qq25), .second, .val (.ref b26), .val (.long qq40), .second, .unset, .unset, .unset, .unset, .unset, .unset, .unset] [(.long (qq40 + (2 : Int64))), (.int (2 : Int32)), (.ref b41), (.ref b41)]) (fun tq kq => st53 _ (XS.dup X53.here hx rfl (hb hby at_165) rfl rfl (XS.iconst X53.here hx rfl (hb hby at_166) (XS.lload X53.here hx rfl (hb hby at_167) rfl (X53.ldc2Long hx hown (mvT hZ (own_w hw 6 rfl)) (g := (mkF m 169 #[.val (.int i0), .val (.int i1), .val (.int i2), .val (.int (Int32.ofNat (z))), .val (.int (Int32.ofNat (u0))), .val (.int (Int32.ofNat (u1))), .val (.int (Int32.ofNat (u2))), .val (.long qq1), .second, .val (.ref b2), .val (.long qq18), .second, .val (.ref b19), .val (.long qq25), .second, .val (.ref b26), .val (.long qq40), .second, .unset, .unset, .unset, .unset, .unset, .unset, .unset] [(.long qq40), (.int (2 : Int32)), (.ref b41), (.ref b41)])) rfl (hb hby at_169) _ (XS.ladd X53.here hx rfl (hb hby at_172) rfl kq)))))) ?_
  obtain ⟨qq58, hqq58⟩ : ∃ y0, y0 = b + Int64.ofNat (0 + 4 + u0 + 2 * u1 + 2) := ⟨_, rfl⟩
  rw [show (qq40 + (2 : Int64)) = qq58 from (show qq40 + (2 : Int64) = b + Int64.ofNat (0 + 4 + u0 + 2 * u1 + 2) from by rw [hqq40]; exact own_plus b (0 + 4 + u0 + 2 * u1) (2) (by omega) (by omega)).trans hqq58.symm]
  obtain ⟨_, _, ⟨T59, L59, k59, n59⟩, -, X59, ⟨Lc59, hQ59, l59, y59, z59⟩, st59⟩ := Jvm.LawKit.callS X53 hx (y := (⟨"com/example/tidemark/tidemark/policy/RateWindowRatesPinLaw", "d", "(J)D"⟩ : MethodName)) hown (mvT hZ (own_w hw 2 rfl)) (mvT hZ (own_w hw 3 rfl)) (mvT hZ (own_w hw 4 rfl)) (mvT hZ (own_w hw 5 rfl)) (by decide) (backOf (W := 3) (rmD l Z a0 hw [] qq58 dd h53 n0 Zs53 hdd) hZ (own_w hw 5 rfl) (own_w hw 4 rfl) (by decide) (by decide)) (g := (mkF m 173 #[.val (.int i0), .val (.int i1), .val (.int i2), .val (.int (Int32.ofNat (z))), .val (.int (Int32.ofNat (u0))), .val (.int (Int32.ofNat (u1))), .val (.int (Int32.ofNat (u2))), .val (.long qq1), .second, .val (.ref b2), .val (.long qq18), .second, .val (.ref b19), .val (.long qq25), .second, .val (.ref b26), .val (.long qq40), .second, .unset, .unset, .unset, .unset, .unset, .unset, .unset] [(.long qq58), (.int (2 : Int32)), (.ref b41), (.ref b41)])) rfl (by rw [hml]; rfl) (argsL := [(.long qq58)]) (rest := [(.int (2 : Int32)), (.ref b41), (.ref b41)]) (lenOf pd_0 rfl) rfl (by show 2 * 0 + _ ≤ _; exact Nat.le_of_eq rfl) (hb hby at_173) (fun _ _ => ⟨rfl, e53, (by decide : 4 + 0 ≤ _), (by decide : 11 + 0 ≤ _)⟩)
  dsimp only [Pt.U, Pt.locs, Pt.cells, Pt.slots] at X59 l59 y59 z59 st59 hQ59
  have l59y := l59.symm
  clear l59
  subst l59y
  obtain rfl : k59 = 4 := y59
  obtain rfl : n59 = 11 := z59
  obtain ⟨rfl, N59q, e59⟩ := hQ59
  have N59 := Fr.app N53 N59q
  refine own_to T59 (mkF m 176 #[.val (.int i0), .val (.int i1), .val (.int i2), .val (.int (Int32.ofNat (z))), .val (.int (Int32.ofNat (u0))), .val (.int (Int32.ofNat (u1))), .val (.int (Int32.ofNat (u2))), .val (.long qq1), .second, .val (.ref b2), .val (.long qq18), .second, .val (.ref b19), .val (.long qq25), .second, .val (.ref b26), .val (.long qq40), .second, .unset, .unset, .unset, .unset, .unset, .unset, .unset] [(.double (dd qq58)), (.int (2 : Int32)), (.ref b41), (.ref b41)]) (fun tq kq => st59 _ kq) ?_
  obtain ⟨co61, Aro61, hszo61, hato61⟩ := id V53
  obtain ⟨T60, h60, X60, e60, W60, st60⟩ := stD X59 hx hZ e59 Aro61 (j := (2 : Int32)) (by rw [hszo61]; decide) (g := (mkF m 176 #[.val (.int i0), .val (.int i1), .val (.int i2), .val (.int (Int32.ofNat (z))), .val (.int (Int32.ofNat (u0))), .val (.int (Int32.ofNat (u1))), .val (.int (Int32.ofNat (u2))), .val (.long qq1), .second, .val (.ref b2), .val (.long qq18), .second, .val (.ref b19), .val (.long qq25), .second, .val (.ref b26), .val (.long qq40), .second, .unset, .unset, .unset, .unset, .unset, .unset, .unset] [(.double (dd qq58)), (.int (2 : Int32)), (.ref b41), (.ref b41)])) rfl rfl (hb hby at_176)
  have f62 := f55.other W60 ne_b2_b41
  have f63 := f56.other W60 ne_b19_b41
  have f64 := f57.other W60 ne_b26_b41
  have N60 := Fr.snoc X60 N59 sz41
  have Zs60 : n0 ≤ h60.size := by rw [W60.size]; exact Zs53
  have V60 := DArr.set Aro61 hszo61 hato61 W60 (by decide : ((2 : Int32)).toNatClampNeg = 2)
  obtain ⟨f60, hf60⟩ : ∃ f', f' = own_upd f53 2 (dd qq58) := ⟨_, rfl⟩
  rw [← hf60] at V60
  refine own_to T60 (mkF m 185 #[.val (.int i0), .val (.int i1), .val (.int i2), .val (.int (Int32.ofNat (z))), .val (.int (Int32.ofNat (u0))), .val (.int (Int32.ofNat (u1))), .val (.int (Int32.ofNat (u2))), .val (.long qq1), .second, .val (.ref b2), .val (.long qq18), .second, .val (.ref b19), .val (.long qq25), .second, .val (.ref b26), .val (.long qq40), .second, .unset, .unset, .unset, .unset, .unset, .unset, .unset] [(.long (qq40 + (3 : Int64))), (.int (3 : Int32)), (.ref b41), (.ref b41)]) (fun tq kq => st60 _ (XS.dup X60.here hx rfl (hb hby at_177) rfl rfl (XS.iconst X60.here hx rfl (hb hby at_178) (XS.lload X60.here hx rfl (hb hby at_179) rfl (X60.ldc2Long hx hown (mvT hZ (own_w hw 7 rfl)) (g := (mkF m 181 #[.val (.int i0), .val (.int i1), .val (.int i2), .val (.int (Int32.ofNat (z))), .val (.int (Int32.ofNat (u0))), .val (.int (Int32.ofNat (u1))), .val (.int (Int32.ofNat (u2))), .val (.long qq1), .second, .val (.ref b2), .val (.long qq18), .second, .val (.ref b19), .val (.long qq25), .second, .val (.ref b26), .val (.long qq40), .second, .unset, .unset, .unset, .unset, .unset, .unset, .unset] [(.long qq40), (.int (3 : Int32)), (.ref b41), (.ref b41)])) rfl (hb hby at_181) _ (XS.ladd X60.here hx rfl (hb hby at_184) rfl kq)))))) ?_
  obtain ⟨qq65, hqq65⟩ : ∃ y0, y0 = b + Int64.ofNat (0 + 4 + u0 + 2 * u1 + 3) := ⟨_, rfl⟩
  rw [show (qq40 + (3 : Int64)) = qq65 from (show qq40 + (3 : Int64) = b + Int64.ofNat (0 + 4 + u0 + 2 * u1 + 3) from by rw [hqq40]; exact own_plus b (0 + 4 + u0 + 2 * u1) (3) (by omega) (by omega)).trans hqq65.symm]
  obtain ⟨_, _, ⟨T66, L66, k66, n66⟩, -, X66, ⟨Lc66, hQ66, l66, y66, z66⟩, st66⟩ := Jvm.LawKit.callS X60 hx (y := (⟨"com/example/tidemark/tidemark/policy/RateWindowRatesPinLaw", "d", "(J)D"⟩ : MethodName)) hown (mvT hZ (own_w hw 2 rfl)) (mvT hZ (own_w hw 3 rfl)) (mvT hZ (own_w hw 4 rfl)) (mvT hZ (own_w hw 5 rfl)) (by decide) (backOf (W := 3) (rmD l Z a0 hw [] qq65 dd h60 n0 Zs60 hdd) hZ (own_w hw 5 rfl) (own_w hw 4 rfl) (by decide) (by decide)) (g := (mkF m 185 #[.val (.int i0), .val (.int i1), .val (.int i2), .val (.int (Int32.ofNat (z))), .val (.int (Int32.ofNat (u0))), .val (.int (Int32.ofNat (u1))), .val (.int (Int32.ofNat (u2))), .val (.long qq1), .second, .val (.ref b2), .val (.long qq18), .second, .val (.ref b19), .val (.long qq25), .second, .val (.ref b26), .val (.long qq40), .second, .unset, .unset, .unset, .unset, .unset, .unset, .unset] [(.long qq65), (.int (3 : Int32)), (.ref b41), (.ref b41)])) rfl (by rw [hml]; rfl) (argsL := [(.long qq65)]) (rest := [(.int (3 : Int32)), (.ref b41), (.ref b41)]) (lenOf pd_0 rfl) rfl (by show 2 * 0 + _ ≤ _; exact Nat.le_of_eq rfl) (hb hby at_185) (fun _ _ => ⟨rfl, e60, (by decide : 4 + 0 ≤ _), (by decide : 11 + 0 ≤ _)⟩)
  dsimp only [Pt.U, Pt.locs, Pt.cells, Pt.slots] at X66 l66 y66 z66 st66 hQ66
  have l66y := l66.symm
  clear l66
  subst l66y
  obtain rfl : k66 = 4 := y66
  obtain rfl : n66 = 11 := z66
  obtain ⟨rfl, N66q, e66⟩ := hQ66
  have N66 := Fr.app N60 N66q
  refine own_to T66 (mkF m 188 #[.val (.int i0), .val (.int i1), .val (.int i2), .val (.int (Int32.ofNat (z))), .val (.int (Int32.ofNat (u0))), .val (.int (Int32.ofNat (u1))), .val (.int (Int32.ofNat (u2))), .val (.long qq1), .second, .val (.ref b2), .val (.long qq18), .second, .val (.ref b19), .val (.long qq25), .second, .val (.ref b26), .val (.long qq40), .second, .unset, .unset, .unset, .unset, .unset, .unset, .unset] [(.double (dd qq65)), (.int (3 : Int32)), (.ref b41), (.ref b41)]) (fun tq kq => st66 _ kq) ?_
  obtain ⟨co68, Aro68, hszo68, hato68⟩ := id V60
  obtain ⟨T67, h67, X67, e67, W67, st67⟩ := stD X66 hx hZ e66 Aro68 (j := (3 : Int32)) (by rw [hszo68]; decide) (g := (mkF m 188 #[.val (.int i0), .val (.int i1), .val (.int i2), .val (.int (Int32.ofNat (z))), .val (.int (Int32.ofNat (u0))), .val (.int (Int32.ofNat (u1))), .val (.int (Int32.ofNat (u2))), .val (.long qq1), .second, .val (.ref b2), .val (.long qq18), .second, .val (.ref b19), .val (.long qq25), .second, .val (.ref b26), .val (.long qq40), .second, .unset, .unset, .unset, .unset, .unset, .unset, .unset] [(.double (dd qq65)), (.int (3 : Int32)), (.ref b41), (.ref b41)])) rfl rfl (hb hby at_188)
  have f69 := f62.other W67 ne_b2_b41
  have f70 := f63.other W67 ne_b19_b41
  have f71 := f64.other W67 ne_b26_b41
  have N67 := Fr.snoc X67 N66 sz41
  have Zs67 : n0 ≤ h67.size := by rw [W67.size]; exact Zs60
  have V67 := DArr.set Aro68 hszo68 hato68 W67 (by decide : ((3 : Int32)).toNatClampNeg = 3)
  obtain ⟨f67, hf67⟩ : ∃ f', f' = own_upd f60 3 (dd qq65) := ⟨_, rfl⟩
  rw [← hf67] at V67
  refine own_to T67 (mkF m 200 #[.val (.int i0), .val (.int i1), .val (.int i2), .val (.int (Int32.ofNat (z))), .val (.int (Int32.ofNat (u0))), .val (.int (Int32.ofNat (u1))), .val (.int (Int32.ofNat (u2))), .val (.long qq1), .second, .val (.ref b2), .val (.long qq18), .second, .val (.ref b19), .val (.long qq25), .second, .val (.ref b26), .val (.long qq40), .second, .val (.ref b41), .unset, .unset, .unset, .unset, .unset, .unset] [(.long ((4 : Int64) * ((Int32.ofNat (u2)).toInt64))), (.long qq40)]) (fun tq kq => st67 _ (XS.astore X67.here hx rfl (hb hby at_189) rfl rfl (l' := #[.val (.int i0), .val (.int i1), .val (.int i2), .val (.int (Int32.ofNat (z))), .val (.int (Int32.ofNat (u0))), .val (.int (Int32.ofNat (u1))), .val (.int (Int32.ofNat (u2))), .val (.long qq1), .second, .val (.ref b2), .val (.long qq18), .second, .val (.ref b19), .val (.long qq25), .second, .val (.ref b26), .val (.long qq40), .second, .val (.ref b41), .unset, .unset, .unset, .unset, .unset, .unset]) rfl (XS.lload X67.here hx rfl (hb hby at_191) rfl (X67.ldc2Long hx hown (mvT hZ (own_w hw 8 rfl)) (g := (mkF m 193 #[.val (.int i0), .val (.int i1), .val (.int i2), .val (.int (Int32.ofNat (z))), .val (.int (Int32.ofNat (u0))), .val (.int (Int32.ofNat (u1))), .val (.int (Int32.ofNat (u2))), .val (.long qq1), .second, .val (.ref b2), .val (.long qq18), .second, .val (.ref b19), .val (.long qq25), .second, .val (.ref b26), .val (.long qq40), .second, .val (.ref b41), .unset, .unset, .unset, .unset, .unset, .unset] [(.long qq40)])) rfl (hb hby at_193) _ (XS.iload X67.here hx rfl (hb hby at_196) rfl (XS.i2l X67.here hx rfl (hb hby at_198) rfl (XS.lmul X67.here hx rfl (hb hby at_199) rfl kq))))))) ?_
  rw [show ((4 : Int64) * ((Int32.ofNat (u2)).toInt64)) = (Int64.ofNat (4 * u2)) from own_mul hu2 4 (by decide)]
  refine own_to T67 (mkF m 201 #[.val (.int i0), .val (.int i1), .val (.int i2), .val (.int (Int32.ofNat (z))), .val (.int (Int32.ofNat (u0))), .val (.int (Int32.ofNat (u1))), .val (.int (Int32.ofNat (u2))), .val (.long qq1), .second, .val (.ref b2), .val (.long qq18), .second, .val (.ref b19), .val (.long qq25), .second, .val (.ref b26), .val (.long qq40), .second, .val (.ref b41), .unset, .unset, .unset, .unset, .unset, .unset] [(.long (qq40 + (Int64.ofNat (4 * u2))))]) (fun tq kq => XS.ladd X67.here hx rfl (hb hby at_200) rfl kq) ?_
  obtain ⟨qq72, hqq72⟩ : ∃ y0, y0 = b + Int64.ofNat (0 + 4 + u0 + 2 * u1 + 4 * u2) := ⟨_, rfl⟩
  rw [show (qq40 + (Int64.ofNat (4 * u2))) = qq72 from (show qq40 + (Int64.ofNat (4 * u2)) = b + Int64.ofNat (0 + 4 + u0 + 2 * u1 + 4 * u2) from by rw [hqq40]; exact own_plus b (0 + 4 + u0 + 2 * u1) (4 * u2) (by omega) (by omega)).trans hqq72.symm]
  refine own_to T67 (mkF m 203 #[.val (.int i0), .val (.int i1), .val (.int i2), .val (.int (Int32.ofNat (z))), .val (.int (Int32.ofNat (u0))), .val (.int (Int32.ofNat (u1))), .val (.int (Int32.ofNat (u2))), .val (.long qq1), .second, .val (.ref b2), .val (.long qq18), .second, .val (.ref b19), .val (.long qq25), .second, .val (.ref b26), .val (.long qq40), .second, .val (.ref b41), .val (.long qq72), .second, .unset, .unset, .unset, .unset] []) (fun tq kq => XS.lstore X67.here hx rfl (hb hby at_201) rfl (l' := #[.val (.int i0), .val (.int i1), .val (.int i2), .val (.int (Int32.ofNat (z))), .val (.int (Int32.ofNat (u0))), .val (.int (Int32.ofNat (u1))), .val (.int (Int32.ofNat (u2))), .val (.long qq1), .second, .val (.ref b2), .val (.long qq18), .second, .val (.ref b19), .val (.long qq25), .second, .val (.ref b26), .val (.long qq40), .second, .val (.ref b41), .val (.long qq72), .second, .unset, .unset, .unset, .unset]) rfl kq) ?_
  have hc9 : ∀ j, j < 4 → f16 j = own_sq dd b (0 + j) := by
    intro j hj
    have hj' : j = 0 ∨ j = 1 ∨ j = 2 ∨ j = 3 := by omega
    rcases hj' with rfl | rfl | rfl | rfl <;> simp [hf4, hf8, hf12, hf16, hqq1, hqq6, hqq10, hqq14, hqq18, hqq25, hqq34, hqq40, hqq51, hqq58, hqq65, hqq72, own_upd, own_sq, Nat.add_assoc]
  have hc12 : ∀ j, j < 1 → f22 j = own_sq dd b (0 + 4 + j) := by
    intro j hj
    have hj' : j = 0 := by omega
    rcases hj' with rfl <;> simp [hf22, hqq1, hqq6, hqq10, hqq14, hqq18, hqq25, hqq34, hqq40, hqq51, hqq58, hqq65, hqq72, own_upd, own_sq, Nat.add_assoc]
  have hc15 : ∀ j, j < 2 → f36 j = own_sq dd b (0 + 4 + u0 + j) := by
    intro j hj
    have hj' : j = 0 ∨ j = 1 := by omega
    rcases hj' with rfl | rfl <;> simp [hf30, hf36, hqq1, hqq6, hqq10, hqq14, hqq18, hqq25, hqq34, hqq40, hqq51, hqq58, hqq65, hqq72, own_upd, own_sq, Nat.add_assoc]
  have hc18 : ∀ j, j < 4 → f67 j = own_sq dd b (0 + 4 + u0 + 2 * u1 + j) := by
    intro j hj
    have hj' : j = 0 ∨ j = 1 ∨ j = 2 ∨ j = 3 := by omega
    rcases hj' with rfl | rfl | rfl | rfl <;> simp [hf46, hf53, hf60, hf67, hqq1, hqq6, hqq10, hqq14, hqq18, hqq25, hqq34, hqq40, hqq51, hqq58, hqq65, hqq72, own_upd, own_sq, Nat.add_assoc]
  obtain ⟨T73, h73, X73, e73, E73, A73, D73, -, st73⟩ := newO X67 hx hZ hown (own_w hw 9 rfl) (own_w hw 10 rfl) (own_w hw 11 rfl) e67 (g := (mkF m 203 #[.val (.int i0), .val (.int i1), .val (.int i2), .val (.int (Int32.ofNat (z))), .val (.int (Int32.ofNat (u0))), .val (.int (Int32.ofNat (u1))), .val (.int (Int32.ofNat (u2))), .val (.long qq1), .second, .val (.ref b2), .val (.long qq18), .second, .val (.ref b19), .val (.long qq25), .second, .val (.ref b26), .val (.long qq40), .second, .val (.ref b41), .val (.long qq72), .second, .unset, .unset, .unset, .unset] [])) rfl (hb hby at_203) (by decide) (by decide)
  obtain ⟨b73, g73⟩ : ∃ z, z = h67.size := ⟨_, rfl⟩
  rw [← g73] at A73 D73 st73
  have ne_b2_b73 : own_ne b2 b73 := Nat.ne_of_lt (Nat.lt_of_lt_of_le f69.lt (Nat.le_of_eq g73.symm))
  have ne_b19_b73 : own_ne b19 b73 := Nat.ne_of_lt (Nat.lt_of_lt_of_le f70.lt (Nat.le_of_eq g73.symm))
  have ne_b26_b73 : own_ne b26 b73 := Nat.ne_of_lt (Nat.lt_of_lt_of_le f71.lt (Nat.le_of_eq g73.symm))
  have ne_b41_b73 : own_ne b41 b73 := Nat.ne_of_lt (Nat.lt_of_lt_of_le V67.lt (Nat.le_of_eq g73.symm))
  have f74 := f69.ext E73
  have f75 := f70.ext E73
  have f76 := f71.ext E73
  have f77 := V67.ext E73
  have sz73 : n0 ≤ b73 := Nat.le_trans Zs67 (Nat.le_of_eq g73.symm)
  have Zs73 : n0 ≤ h73.size := Nat.le_trans Zs67 E73.1
  have F73_recent : Fld Z h73 b73 "com/example/tidemark/tidemark/policy/RateWindow" "recent" "[D" .null := D73 (Or.inr (own_w hw 19 rfl)) (ty := (.array .double)) (by decide)
  have F73_seen : Fld Z h73 b73 "com/example/tidemark/tidemark/policy/RateWindow" "seen" "J" (.long (0 : Int64)) := D73 (Or.inl (own_w hw 26 rfl)) (ty := .long) (by decide)
  refine own_to T73 (mkF m 208 #[.val (.int i0), .val (.int i1), .val (.int i2), .val (.int (Int32.ofNat (z))), .val (.int (Int32.ofNat (u0))), .val (.int (Int32.ofNat (u1))), .val (.int (Int32.ofNat (u2))), .val (.long qq1), .second, .val (.ref b2), .val (.long qq18), .second, .val (.ref b19), .val (.long qq25), .second, .val (.ref b26), .val (.long qq40), .second, .val (.ref b41), .val (.long qq72), .second, .unset, .unset, .unset, .unset] [(.int (Int32.ofNat (z))), (.ref b73), (.ref b73)]) (fun tq kq => st73 _ (XS.dup X73.here hx rfl (hb hby at_206) rfl rfl (XS.iloadN X73.here hx rfl (hb hby at_207) rfl kq))) ?_
  obtain ⟨_, _, ⟨T78, L78, k78, n78⟩, -, X78, ⟨Lc78, hQ78, l78, y78, z78⟩, st78⟩ := X73.specialBack hx (y := (⟨"com/example/tidemark/tidemark/policy/RateWindow", "<init>", "(I)V"⟩ : MethodName)) rfl hown (mvT hZ (own_w hw 12 rfl)) (mvT hZ (own_w hw 13 rfl)) (mvT hZ (own_w hw 14 rfl)) (by decide) (backOf (W := 1) (rmI l Z a0 hw [] b73 z h73 n0 Zs73 A73 F73_recent F73_seen sz73 hz hz4) hZ (own_w hw 14 rfl) (own_w hw 11 rfl) (by decide) (by decide)) (g := (mkF m 208 #[.val (.int i0), .val (.int i1), .val (.int i2), .val (.int (Int32.ofNat (z))), .val (.int (Int32.ofNat (u0))), .val (.int (Int32.ofNat (u1))), .val (.int (Int32.ofNat (u2))), .val (.long qq1), .second, .val (.ref b2), .val (.long qq18), .second, .val (.ref b19), .val (.long qq25), .second, .val (.ref b26), .val (.long qq40), .second, .val (.ref b41), .val (.long qq72), .second, .unset, .unset, .unset, .unset] [(.int (Int32.ofNat (z))), (.ref b73), (.ref b73)])) rfl (by rw [hml]; rfl) (Steps.refl _) (a := b73) (argsL := [(.int (Int32.ofNat (z)))]) (rest := [(.ref b73)]) (lenOf pd_1 rfl) rfl (by show 2 * 0 + _ ≤ _; exact Nat.le_of_eq rfl) (hb hby at_208) (fun _ _ => ⟨rfl, e73, (by decide : 5 + 1 ≤ _), (by decide : 13 + 4 ≤ _)⟩)
  dsimp only [Pt.U, Pt.locs, Pt.cells, Pt.slots] at X78 l78 y78 z78 st78 hQ78
  have l78y := l78.symm
  clear l78
  subst l78y
  obtain rfl : k78 = 6 := y78
  obtain rfl : n78 = 17 := z78
  obtain ⟨rfl, N78q, K78q, E78q, rc78, gr78, hsr78, na78, F78a, F78b, V78a⟩ := hQ78
  have N78 := Fr.app N67 N78q
  have ne_b2_rc78 : own_ne b2 rc78 := Nat.ne_of_lt (Nat.lt_of_lt_of_le f74.lt hsr78)
  have ne_b19_rc78 : own_ne b19 rc78 := Nat.ne_of_lt (Nat.lt_of_lt_of_le f75.lt hsr78)
  have ne_b26_rc78 : own_ne b26 rc78 := Nat.ne_of_lt (Nat.lt_of_lt_of_le f76.lt hsr78)
  have ne_b41_rc78 : own_ne b41 rc78 := Nat.ne_of_lt (Nat.lt_of_lt_of_le f77.lt hsr78)
  have f79 := f74.keep K78q (ninS ne_b2_b73 nin0)
  have f80 := f75.keep K78q (ninS ne_b19_b73 nin0)
  have f81 := f76.keep K78q (ninS ne_b26_b73 nin0)
  have f82 := f77.keep K78q (ninS ne_b41_b73 nin0)
  have f83 := A73.keep K78q
  have Zs78 : n0 ≤ T78.heap.size := Nat.le_trans Zs73 K78q.1
  refine own_to T78 (mkF m 217 #[.val (.int i0), .val (.int i1), .val (.int i2), .val (.int (Int32.ofNat (z))), .val (.int (Int32.ofNat (u0))), .val (.int (Int32.ofNat (u1))), .val (.int (Int32.ofNat (u2))), .val (.long qq1), .second, .val (.ref b2), .val (.long qq18), .second, .val (.ref b19), .val (.long qq25), .second, .val (.ref b26), .val (.long qq40), .second, .val (.ref b41), .val (.long qq72), .second, .val (.ref b73), .unset, .unset, .unset] [(.ref b2), (.ref b73)]) (fun tq kq => st78.trans (XS.astore X78.here hx rfl (hb hby at_211) rfl rfl (l' := #[.val (.int i0), .val (.int i1), .val (.int i2), .val (.int (Int32.ofNat (z))), .val (.int (Int32.ofNat (u0))), .val (.int (Int32.ofNat (u1))), .val (.int (Int32.ofNat (u2))), .val (.long qq1), .second, .val (.ref b2), .val (.long qq18), .second, .val (.ref b19), .val (.long qq25), .second, .val (.ref b26), .val (.long qq40), .second, .val (.ref b41), .val (.long qq72), .second, .val (.ref b73), .unset, .unset, .unset]) rfl (XS.aload X78.here hx rfl (hb hby at_213) rfl rfl (XS.aload X78.here hx rfl (hb hby at_215) rfl rfl kq)))) ?_
  obtain ⟨cq84, kq84, q84a, q84b, q84c⟩ := isOf hZ rfl E78q
  obtain ⟨_, _, ⟨T84, L84, k84, n84⟩, -, X84, ⟨Lc84, hQ84, l84, y84, z84⟩, st84⟩ := X78.virtualBack hx (y := (⟨"com/example/tidemark/tidemark/policy/RateWindow", "add", "([D)V"⟩ : MethodName)) (z := (⟨"com/example/tidemark/tidemark/policy/RateWindow", "add", "([D)V"⟩ : MethodName)) hown (mvT hZ (own_w hw 20 rfl)) (mvT hZ (own_w hw 21 rfl)) (notFace_of_selects (args := #[]) (mvT hZ (own_w hw 23 rfl))) (mvT hZ (own_w hw 23 rfl)) (mvT hZ (own_w hw 22 rfl)) (by decide) (backOf (W := 0) (rmA l Z a0 hw [] b73 b2 rc78 (0) z 4 (own_sq dd b) f16 (fun _ => 0) T78.heap n0 Zs78 E78q F78a F78b V78a f79 (own_R0 z (own_sq dd b) _) (fun j hj => (hc9 j hj).trans (congrArg (own_sq dd b) (by omega))) na78 (Ne.symm ne_b2_b73) ne_b2_rc78 sz73 gr78 hz hz4 (by omega) (by omega)) hZ (own_w hw 24 rfl) (own_w hw 11 rfl) (by decide) (by decide)) q84a q84c (g := (mkF m 217 #[.val (.int i0), .val (.int i1), .val (.int i2), .val (.int (Int32.ofNat (z))), .val (.int (Int32.ofNat (u0))), .val (.int (Int32.ofNat (u1))), .val (.int (Int32.ofNat (u2))), .val (.long qq1), .second, .val (.ref b2), .val (.long qq18), .second, .val (.ref b19), .val (.long qq25), .second, .val (.ref b26), .val (.long qq40), .second, .val (.ref b41), .val (.long qq72), .second, .val (.ref b73), .unset, .unset, .unset] [(.ref b2), (.ref b73)])) rfl (by rw [hml]; rfl) (Steps.refl _) (argsL := [(.ref b2)]) (rest := []) (lenOf pd_3 rfl) rfl (by show 2 * 0 + _ ≤ _; exact Nat.le_of_eq rfl) (hb hby at_217) (fun _ _ => ⟨rfl, rfl, (by decide : 6 + 0 ≤ _), (by decide : 17 + 0 ≤ _)⟩)
  dsimp only [Pt.U, Pt.locs, Pt.cells, Pt.slots] at X84 l84 y84 z84 st84 hQ84
  have l84y := l84.symm
  clear l84
  subst l84y
  obtain rfl : k84 = 6 := y84
  obtain rfl : n84 = 17 := z84
  obtain ⟨rfl, N84q, K84q, E84q, F84a, F84b, g84, R84, V84a⟩ := hQ84
  have N84 := Fr.app N78 N84q
  have f85 := f79.keep K84q (ninS ne_b2_b73 (ninS ne_b2_rc78 nin0))
  have f86 := f80.keep K84q (ninS ne_b19_b73 (ninS ne_b19_rc78 nin0))
  have f87 := f81.keep K84q (ninS ne_b26_b73 (ninS ne_b26_rc78 nin0))
  have f88 := f82.keep K84q (ninS ne_b41_b73 (ninS ne_b41_rc78 nin0))
  have f89 := E78q.keep K84q
  have Zs84 : n0 ≤ T84.heap.size := Nat.le_trans Zs78 K84q.1
  refine own_to T84 (mkF m 220 #[.val (.int i0), .val (.int i1), .val (.int i2), .val (.int (Int32.ofNat (z))), .val (.int (Int32.ofNat (u0))), .val (.int (Int32.ofNat (u1))), .val (.int (Int32.ofNat (u2))), .val (.long qq1), .second, .val (.ref b2), .val (.long qq18), .second, .val (.ref b19), .val (.long qq25), .second, .val (.ref b26), .val (.long qq40), .second, .val (.ref b41), .val (.long qq72), .second, .val (.ref b73), .unset, .unset, .unset] []) (fun tq kq => st84.trans kq) ?_
  have J256 : ∀ (T1 : State) (h1 : Heap) (L1 : List Loc) (g : Nat → UInt64) (n : Nat), n = 4 + u0 + 2 * u1 + 4 * u2 → Stand p l e room_1 s m #[(.int i0), (.int i1), (.int i2)] below meth c T1 L1 6 17 → T1.heap = h1 → Fr n0 L1 → n0 ≤ h1.size → DArr Z h1 b2 4 f16 → DArr Z h1 b19 1 f22 → DArr Z h1 b26 2 f36 → DArr Z h1 b41 4 f67 → Exa Z h1 b73 "com/example/tidemark/tidemark/policy/RateWindow" → Fld Z h1 b73 "com/example/tidemark/tidemark/policy/RateWindow" "recent" "[D" (.ref rc78) → Fld Z h1 b73 "com/example/tidemark/tidemark/policy/RateWindow" "seen" "J" (.long (Int64.ofNat n)) → DArr Z h1 rc78 z g → own_R z (own_sq dd b) g n → Own p e below s room_1.cells room_1.slots (Q_rm0 Z i0 i1 i2 dd h0 n0) T1 (mkF m 256 #[.val (.int i0), .val (.int i1), .val (.int i2), .val (.int (Int32.ofNat (z))), .val (.int (Int32.ofNat (u0))), .val (.int (Int32.ofNat (u1))), .val (.int (Int32.ofNat (u2))), .val (.long qq1), .second, .val (.ref b2), .val (.long qq18), .second, .val (.ref b19), .val (.long qq25), .second, .val (.ref b26), .val (.long qq40), .second, .val (.ref b41), .val (.long qq72), .second, .val (.ref b73), .unset, .unset, .unset] []) := by
    intro T1 h1 L1 g n hn X1 e1 N1 Z1 Vjb2 Vjb19 Vjb26 Vjb41 E1 F1 F2 A1 R1
    have hn' := hn
    refine own_to T1 (mkF m 258 #[.val (.int i0), .val (.int i1), .val (.int i2), .val (.int (Int32.ofNat (z))), .val (.int (Int32.ofNat (u0))), .val (.int (Int32.ofNat (u1))), .val (.int (Int32.ofNat (u2))), .val (.long qq1), .second, .val (.ref b2), .val (.long qq18), .second, .val (.ref b19), .val (.long qq25), .second, .val (.ref b26), .val (.long qq40), .second, .val (.ref b41), .val (.long qq72), .second, .val (.ref b73), .unset, .unset, .unset] [(.ref b73)]) (fun tq kq => XS.aload X1.here hx rfl (hb hby at_256) rfl rfl kq) ?_
    obtain ⟨cq90, kq90, q90a, q90b, q90c⟩ := isOf hZ e1 E1
    obtain ⟨_, _, ⟨T90, L90, k90, n90⟩, -, X90, ⟨Lc90, hQ90, l90, y90, z90⟩, st90⟩ := X1.virtualBack hx (y := (⟨"com/example/tidemark/tidemark/policy/RateWindow", "rates", "()[D"⟩ : MethodName)) (z := (⟨"com/example/tidemark/tidemark/policy/RateWindow", "rates", "()[D"⟩ : MethodName)) hown (mvT hZ (own_w hw 27 rfl)) (mvT hZ (own_w hw 28 rfl)) (notFace_of_selects (args := #[]) (mvT hZ (own_w hw 30 rfl))) (mvT hZ (own_w hw 30 rfl)) (mvT hZ (own_w hw 29 rfl)) (by decide) (backOf (W := 0) (rmR l Z a0 hw [] b73 rc78 (n) z g h1 n0 Z1 F1 F2 A1 hz hz4 (by omega)) hZ (own_w hw 31 rfl) (own_w hw 11 rfl) (by decide) (by decide)) q90a q90c (g := (mkF m 258 #[.val (.int i0), .val (.int i1), .val (.int i2), .val (.int (Int32.ofNat (z))), .val (.int (Int32.ofNat (u0))), .val (.int (Int32.ofNat (u1))), .val (.int (Int32.ofNat (u2))), .val (.long qq1), .second, .val (.ref b2), .val (.long qq18), .second, .val (.ref b19), .val (.long qq25), .second, .val (.ref b26), .val (.long qq40), .second, .val (.ref b41), .val (.long qq72), .second, .val (.ref b73), .unset, .unset, .unset] [(.ref b73)])) rfl (by rw [hml]; rfl) (Steps.refl _) (argsL := []) (rest := []) (lenOf pd_4 rfl) rfl (by show 2 * 0 + _ ≤ _; exact Nat.le_of_eq rfl) (hb hby at_258) (fun _ _ => ⟨rfl, e1, (by decide : 6 + 1 ≤ _), (by decide : 17 + 4 ≤ _)⟩)
    dsimp only [Pt.U, Pt.locs, Pt.cells, Pt.slots] at X90 l90 y90 z90 st90 hQ90
    have l90y := l90.symm
    clear l90
    subst l90y
    obtain rfl : k90 = 7 := y90
    obtain rfl : n90 = 21 := z90
    obtain ⟨b90, r90, rfl, N90q, K90q, gb90, V90b, hr90⟩ := hQ90
    have N90 := Fr.app N1 N90q
    have f91 := Vjb2.keep K90q nin0
    have f92 := Vjb19.keep K90q nin0
    have f93 := Vjb26.keep K90q nin0
    have f94 := Vjb41.keep K90q nin0
    have f95 := E1.keep K90q
    have f96 := F1.keep K90q nin0
    have f97 := F2.keep K90q nin0
    have f98 := A1.keep K90q nin0
    have Zs90 : n0 ≤ T90.heap.size := Nat.le_trans Z1 K90q.1
    refine own_to T90 (mkF m 265 #[.val (.int i0), .val (.int i1), .val (.int i2), .val (.int (Int32.ofNat (z))), .val (.int (Int32.ofNat (u0))), .val (.int (Int32.ofNat (u1))), .val (.int (Int32.ofNat (u2))), .val (.long qq1), .second, .val (.ref b2), .val (.long qq18), .second, .val (.ref b19), .val (.long qq25), .second, .val (.ref b26), .val (.long qq40), .second, .val (.ref b41), .val (.long qq72), .second, .val (.ref b73), .val (.ref b90), .unset, .unset] [(.ref b90)]) (fun tq kq => st90.trans (XS.astore X90.here hx rfl (hb hby at_261) rfl rfl (l' := #[.val (.int i0), .val (.int i1), .val (.int i2), .val (.int (Int32.ofNat (z))), .val (.int (Int32.ofNat (u0))), .val (.int (Int32.ofNat (u1))), .val (.int (Int32.ofNat (u2))), .val (.long qq1), .second, .val (.ref b2), .val (.long qq18), .second, .val (.ref b19), .val (.long qq25), .second, .val (.ref b26), .val (.long qq40), .second, .val (.ref b41), .val (.long qq72), .second, .val (.ref b73), .val (.ref b90), .unset, .unset]) rfl (XS.aload X90.here hx rfl (hb hby at_263) rfl rfl kq))) ?_
    obtain ⟨co99, Aro99, hszo99, hato99⟩ := id V90b
    refine own_to T90 (mkF m 266 #[.val (.int i0), .val (.int i1), .val (.int i2), .val (.int (Int32.ofNat (z))), .val (.int (Int32.ofNat (u0))), .val (.int (Int32.ofNat (u1))), .val (.int (Int32.ofNat (u2))), .val (.long qq1), .second, .val (.ref b2), .val (.long qq18), .second, .val (.ref b19), .val (.long qq25), .second, .val (.ref b26), .val (.long qq40), .second, .val (.ref b41), .val (.long qq72), .second, .val (.ref b73), .val (.ref b90), .unset, .unset] [(.int (co99.slots.size.toInt32))]) (fun tq kq => X90.arraylength hx Aro99.1 (State.isArrayOf_alike hZ.alike Aro99.2.1) (g := (mkF m 265 #[.val (.int i0), .val (.int i1), .val (.int i2), .val (.int (Int32.ofNat (z))), .val (.int (Int32.ofNat (u0))), .val (.int (Int32.ofNat (u1))), .val (.int (Int32.ofNat (u2))), .val (.long qq1), .second, .val (.ref b2), .val (.long qq18), .second, .val (.ref b19), .val (.long qq25), .second, .val (.ref b26), .val (.long qq40), .second, .val (.ref b41), .val (.long qq72), .second, .val (.ref b73), .val (.ref b90), .unset, .unset] [(.ref b90)])) rfl rfl (hb hby at_265) _ kq) ?_
    rw [show co99.slots.size.toInt32 = Int32.ofNat (z) from by rw [hszo99] <;> rfl]
    refine own_to T90 (mkF m 276 #[.val (.int i0), .val (.int i1), .val (.int i2), .val (.int (Int32.ofNat (z))), .val (.int (Int32.ofNat (u0))), .val (.int (Int32.ofNat (u1))), .val (.int (Int32.ofNat (u2))), .val (.long qq1), .second, .val (.ref b2), .val (.long qq18), .second, .val (.ref b19), .val (.long qq25), .second, .val (.ref b26), .val (.long qq40), .second, .val (.ref b41), .val (.long qq72), .second, .val (.ref b73), .val (.ref b90), .unset, .unset] [(.long ((Int32.ofNat (z)).toInt64)), (.long qq72)]) (fun tq kq => XS.iloadN X90.here hx rfl (hb hby at_266) rfl (XS.icmpYes X90.here hx rfl (pc0 := 267) (pc' := 272) rfl (hb hby at_267) rfl (teq (rfl : (Int32.ofNat (z)) = (Int32.ofNat (z)))).1 (by decide) (by decide) (XS.lload X90.here hx rfl (hb hby at_272) rfl (XS.iloadN X90.here hx rfl (hb hby at_274) rfl (XS.i2l X90.here hx rfl (hb hby at_275) rfl kq))))) ?_
    rw [show ((Int32.ofNat (z)).toInt64) = (Int64.ofNat (z)) from own_i2l (by omega)]
    refine own_to T90 (mkF m 277 #[.val (.int i0), .val (.int i1), .val (.int i2), .val (.int (Int32.ofNat (z))), .val (.int (Int32.ofNat (u0))), .val (.int (Int32.ofNat (u1))), .val (.int (Int32.ofNat (u2))), .val (.long qq1), .second, .val (.ref b2), .val (.long qq18), .second, .val (.ref b19), .val (.long qq25), .second, .val (.ref b26), .val (.long qq40), .second, .val (.ref b41), .val (.long qq72), .second, .val (.ref b73), .val (.ref b90), .unset, .unset] [(.long (qq72 - (Int64.ofNat (z))))]) (fun tq kq => XS.lsub X90.here hx rfl (hb hby at_276) rfl kq) ?_
    obtain ⟨qq100, hqq100⟩ : ∃ y0, y0 = b + Int64.ofNat (n - z) := ⟨_, rfl⟩
    rw [show (qq72 - (Int64.ofNat (z))) = qq100 from (show (qq72 - (Int64.ofNat (z))) = b + Int64.ofNat (n - z) from by rw [hqq72, own_minus b (0 + 4 + u0 + 2 * u1 + 4 * u2) z (by omega) (by omega) (by omega)]; exact congrArg (fun y => b + Int64.ofNat y) (by omega)).trans hqq100.symm]
    refine own_to T90 (mkF m 284 #[.val (.int i0), .val (.int i1), .val (.int i2), .val (.int (Int32.ofNat (z))), .val (.int (Int32.ofNat (u0))), .val (.int (Int32.ofNat (u1))), .val (.int (Int32.ofNat (u2))), .val (.long qq1), .second, .val (.ref b2), .val (.long qq18), .second, .val (.ref b19), .val (.long qq25), .second, .val (.ref b26), .val (.long qq40), .second, .val (.ref b41), .val (.long qq72), .second, .val (.ref b73), .val (.ref b90), .val (.long qq100), .second] [(.long qq100), (.int (0 : Int32)), (.ref b90)]) (fun tq kq => XS.lstore X90.here hx rfl (hb hby at_277) rfl (l' := #[.val (.int i0), .val (.int i1), .val (.int i2), .val (.int (Int32.ofNat (z))), .val (.int (Int32.ofNat (u0))), .val (.int (Int32.ofNat (u1))), .val (.int (Int32.ofNat (u2))), .val (.long qq1), .second, .val (.ref b2), .val (.long qq18), .second, .val (.ref b19), .val (.long qq25), .second, .val (.ref b26), .val (.long qq40), .second, .val (.ref b41), .val (.long qq72), .second, .val (.ref b73), .val (.ref b90), .val (.long qq100), .second]) rfl (XS.aload X90.here hx rfl (hb hby at_279) rfl rfl (XS.iconst X90.here hx rfl (hb hby at_281) (XS.lload X90.here hx rfl (hb hby at_282) rfl kq)))) ?_
    obtain ⟨_, _, ⟨T101, L101, k101, n101⟩, -, X101, ⟨Lc101, hQ101, l101, y101, z101⟩, st101⟩ := Jvm.LawKit.callS X90 hx (y := (⟨"com/example/tidemark/tidemark/policy/RateWindowRatesPinLaw", "at", "([DIJ)Z"⟩ : MethodName)) hown (mvT hZ (own_w hw 32 rfl)) (mvT hZ (own_w hw 33 rfl)) (mvT hZ (own_w hw 4 rfl)) (mvT hZ (own_w hw 34 rfl)) (by decide) (backOf (W := 0) (rmAt l Z a0 hw [] b90 0 z (n - z) b qq100 r90 dd T90.heap n0 Zs90 hdd hqq100 V90b (by decide) hz4 (by omega) (own_atc hdd hr90 R1 (by omega))) hZ (own_w hw 34 rfl) (own_w hw 4 rfl) (by decide) (by decide)) (g := (mkF m 284 #[.val (.int i0), .val (.int i1), .val (.int i2), .val (.int (Int32.ofNat (z))), .val (.int (Int32.ofNat (u0))), .val (.int (Int32.ofNat (u1))), .val (.int (Int32.ofNat (u2))), .val (.long qq1), .second, .val (.ref b2), .val (.long qq18), .second, .val (.ref b19), .val (.long qq25), .second, .val (.ref b26), .val (.long qq40), .second, .val (.ref b41), .val (.long qq72), .second, .val (.ref b73), .val (.ref b90), .val (.long qq100), .second] [(.long qq100), (.int (0 : Int32)), (.ref b90)])) rfl (by rw [hml]; rfl) (argsL := [(.ref b90), (.int (0 : Int32)), (.long qq100)]) (rest := []) (lenOf pd_5 rfl) rfl (by show 2 * 0 + _ ≤ _; exact Nat.le_of_eq rfl) (hb hby at_284) (fun _ _ => ⟨rfl, rfl, (by decide : 7 + 0 ≤ _), (by decide : 21 + 0 ≤ _)⟩)
    dsimp only [Pt.U, Pt.locs, Pt.cells, Pt.slots] at X101 l101 y101 z101 st101 hQ101
    have l101y := l101.symm
    clear l101
    subst l101y
    obtain rfl : k101 = 7 := y101
    obtain rfl : n101 = 21 := z101
    obtain ⟨rfl, N101q, e101⟩ := hQ101
    have N101 := Fr.app N90 N101q
    refine own_to T101 (mkF m 295 #[.val (.int i0), .val (.int i1), .val (.int i2), .val (.int (Int32.ofNat (z))), .val (.int (Int32.ofNat (u0))), .val (.int (Int32.ofNat (u1))), .val (.int (Int32.ofNat (u2))), .val (.long qq1), .second, .val (.ref b2), .val (.long qq18), .second, .val (.ref b19), .val (.long qq25), .second, .val (.ref b26), .val (.long qq40), .second, .val (.ref b41), .val (.long qq72), .second, .val (.ref b73), .val (.ref b90), .val (.long qq100), .second] [(.long qq100), (.int (1 : Int32)), (.ref b90)]) (fun tq kq => st101 _ (XS.ifNo X101.here hx rfl (hb hby at_287) rfl ((if0 _ _).trans (feq (by decide : ¬ ((1 : Int32) = (0 : Int32)))).1) (XS.aload X101.here hx rfl (hb hby at_290) rfl rfl (XS.iconst X101.here hx rfl (hb hby at_292) (XS.lload X101.here hx rfl (hb hby at_293) rfl kq))))) ?_
    obtain ⟨_, _, ⟨T102, L102, k102, n102⟩, -, X102, ⟨Lc102, hQ102, l102, y102, z102⟩, st102⟩ := Jvm.LawKit.callS X101 hx (y := (⟨"com/example/tidemark/tidemark/policy/RateWindowRatesPinLaw", "at", "([DIJ)Z"⟩ : MethodName)) hown (mvT hZ (own_w hw 32 rfl)) (mvT hZ (own_w hw 33 rfl)) (mvT hZ (own_w hw 4 rfl)) (mvT hZ (own_w hw 34 rfl)) (by decide) (backOf (W := 0) (rmAt l Z a0 hw [] b90 1 z (n - z) b qq100 r90 dd T90.heap n0 Zs90 hdd hqq100 V90b (by decide) hz4 (by omega) (own_atc hdd hr90 R1 (by omega))) hZ (own_w hw 34 rfl) (own_w hw 4 rfl) (by decide) (by decide)) (g := (mkF m 295 #[.val (.int i0), .val (.int i1), .val (.int i2), .val (.int (Int32.ofNat (z))), .val (.int (Int32.ofNat (u0))), .val (.int (Int32.ofNat (u1))), .val (.int (Int32.ofNat (u2))), .val (.long qq1), .second, .val (.ref b2), .val (.long qq18), .second, .val (.ref b19), .val (.long qq25), .second, .val (.ref b26), .val (.long qq40), .second, .val (.ref b41), .val (.long qq72), .second, .val (.ref b73), .val (.ref b90), .val (.long qq100), .second] [(.long qq100), (.int (1 : Int32)), (.ref b90)])) rfl (by rw [hml]; rfl) (argsL := [(.ref b90), (.int (1 : Int32)), (.long qq100)]) (rest := []) (lenOf pd_5 rfl) rfl (by show 2 * 0 + _ ≤ _; exact Nat.le_of_eq rfl) (hb hby at_295) (fun _ _ => ⟨rfl, e101, (by decide : 7 + 0 ≤ _), (by decide : 21 + 0 ≤ _)⟩)
    dsimp only [Pt.U, Pt.locs, Pt.cells, Pt.slots] at X102 l102 y102 z102 st102 hQ102
    have l102y := l102.symm
    clear l102
    subst l102y
    obtain rfl : k102 = 7 := y102
    obtain rfl : n102 = 21 := z102
    obtain ⟨rfl, N102q, e102⟩ := hQ102
    have N102 := Fr.app N101 N102q
    refine own_to T102 (mkF m 306 #[.val (.int i0), .val (.int i1), .val (.int i2), .val (.int (Int32.ofNat (z))), .val (.int (Int32.ofNat (u0))), .val (.int (Int32.ofNat (u1))), .val (.int (Int32.ofNat (u2))), .val (.long qq1), .second, .val (.ref b2), .val (.long qq18), .second, .val (.ref b19), .val (.long qq25), .second, .val (.ref b26), .val (.long qq40), .second, .val (.ref b41), .val (.long qq72), .second, .val (.ref b73), .val (.ref b90), .val (.long qq100), .second] [(.long qq100), (.int (2 : Int32)), (.ref b90)]) (fun tq kq => st102 _ (XS.ifNo X102.here hx rfl (hb hby at_298) rfl ((if0 _ _).trans (feq (by decide : ¬ ((1 : Int32) = (0 : Int32)))).1) (XS.aload X102.here hx rfl (hb hby at_301) rfl rfl (XS.iconst X102.here hx rfl (hb hby at_303) (XS.lload X102.here hx rfl (hb hby at_304) rfl kq))))) ?_
    obtain ⟨_, _, ⟨T103, L103, k103, n103⟩, -, X103, ⟨Lc103, hQ103, l103, y103, z103⟩, st103⟩ := Jvm.LawKit.callS X102 hx (y := (⟨"com/example/tidemark/tidemark/policy/RateWindowRatesPinLaw", "at", "([DIJ)Z"⟩ : MethodName)) hown (mvT hZ (own_w hw 32 rfl)) (mvT hZ (own_w hw 33 rfl)) (mvT hZ (own_w hw 4 rfl)) (mvT hZ (own_w hw 34 rfl)) (by decide) (backOf (W := 0) (rmAt l Z a0 hw [] b90 2 z (n - z) b qq100 r90 dd T90.heap n0 Zs90 hdd hqq100 V90b (by decide) hz4 (by omega) (own_atc hdd hr90 R1 (by omega))) hZ (own_w hw 34 rfl) (own_w hw 4 rfl) (by decide) (by decide)) (g := (mkF m 306 #[.val (.int i0), .val (.int i1), .val (.int i2), .val (.int (Int32.ofNat (z))), .val (.int (Int32.ofNat (u0))), .val (.int (Int32.ofNat (u1))), .val (.int (Int32.ofNat (u2))), .val (.long qq1), .second, .val (.ref b2), .val (.long qq18), .second, .val (.ref b19), .val (.long qq25), .second, .val (.ref b26), .val (.long qq40), .second, .val (.ref b41), .val (.long qq72), .second, .val (.ref b73), .val (.ref b90), .val (.long qq100), .second] [(.long qq100), (.int (2 : Int32)), (.ref b90)])) rfl (by rw [hml]; rfl) (argsL := [(.ref b90), (.int (2 : Int32)), (.long qq100)]) (rest := []) (lenOf pd_5 rfl) rfl (by show 2 * 0 + _ ≤ _; exact Nat.le_of_eq rfl) (hb hby at_306) (fun _ _ => ⟨rfl, e102, (by decide : 7 + 0 ≤ _), (by decide : 21 + 0 ≤ _)⟩)
    dsimp only [Pt.U, Pt.locs, Pt.cells, Pt.slots] at X103 l103 y103 z103 st103 hQ103
    have l103y := l103.symm
    clear l103
    subst l103y
    obtain rfl : k103 = 7 := y103
    obtain rfl : n103 = 21 := z103
    obtain ⟨rfl, N103q, e103⟩ := hQ103
    have N103 := Fr.app N102 N103q
    refine own_to T103 (mkF m 317 #[.val (.int i0), .val (.int i1), .val (.int i2), .val (.int (Int32.ofNat (z))), .val (.int (Int32.ofNat (u0))), .val (.int (Int32.ofNat (u1))), .val (.int (Int32.ofNat (u2))), .val (.long qq1), .second, .val (.ref b2), .val (.long qq18), .second, .val (.ref b19), .val (.long qq25), .second, .val (.ref b26), .val (.long qq40), .second, .val (.ref b41), .val (.long qq72), .second, .val (.ref b73), .val (.ref b90), .val (.long qq100), .second] [(.long qq100), (.int (3 : Int32)), (.ref b90)]) (fun tq kq => st103 _ (XS.ifNo X103.here hx rfl (hb hby at_309) rfl ((if0 _ _).trans (feq (by decide : ¬ ((1 : Int32) = (0 : Int32)))).1) (XS.aload X103.here hx rfl (hb hby at_312) rfl rfl (XS.iconst X103.here hx rfl (hb hby at_314) (XS.lload X103.here hx rfl (hb hby at_315) rfl kq))))) ?_
    obtain ⟨_, _, ⟨T104, L104, k104, n104⟩, -, X104, ⟨Lc104, hQ104, l104, y104, z104⟩, st104⟩ := Jvm.LawKit.callS X103 hx (y := (⟨"com/example/tidemark/tidemark/policy/RateWindowRatesPinLaw", "at", "([DIJ)Z"⟩ : MethodName)) hown (mvT hZ (own_w hw 32 rfl)) (mvT hZ (own_w hw 33 rfl)) (mvT hZ (own_w hw 4 rfl)) (mvT hZ (own_w hw 34 rfl)) (by decide) (backOf (W := 0) (rmAt l Z a0 hw [] b90 3 z (n - z) b qq100 r90 dd T90.heap n0 Zs90 hdd hqq100 V90b (by decide) hz4 (by omega) (own_atc hdd hr90 R1 (by omega))) hZ (own_w hw 34 rfl) (own_w hw 4 rfl) (by decide) (by decide)) (g := (mkF m 317 #[.val (.int i0), .val (.int i1), .val (.int i2), .val (.int (Int32.ofNat (z))), .val (.int (Int32.ofNat (u0))), .val (.int (Int32.ofNat (u1))), .val (.int (Int32.ofNat (u2))), .val (.long qq1), .second, .val (.ref b2), .val (.long qq18), .second, .val (.ref b19), .val (.long qq25), .second, .val (.ref b26), .val (.long qq40), .second, .val (.ref b41), .val (.long qq72), .second, .val (.ref b73), .val (.ref b90), .val (.long qq100), .second] [(.long qq100), (.int (3 : Int32)), (.ref b90)])) rfl (by rw [hml]; rfl) (argsL := [(.ref b90), (.int (3 : Int32)), (.long qq100)]) (rest := []) (lenOf pd_5 rfl) rfl (by show 2 * 0 + _ ≤ _; exact Nat.le_of_eq rfl) (hb hby at_317) (fun _ _ => ⟨rfl, e103, (by decide : 7 + 0 ≤ _), (by decide : 21 + 0 ≤ _)⟩)
    dsimp only [Pt.U, Pt.locs, Pt.cells, Pt.slots] at X104 l104 y104 z104 st104 hQ104
    have l104y := l104.symm
    clear l104
    subst l104y
    obtain rfl : k104 = 7 := y104
    obtain rfl : n104 = 21 := z104
    obtain ⟨rfl, N104q, e104⟩ := hQ104
    have N104 := Fr.app N103 N104q
    refine own_to T104 (mkF m 328 #[.val (.int i0), .val (.int i1), .val (.int i2), .val (.int (Int32.ofNat (z))), .val (.int (Int32.ofNat (u0))), .val (.int (Int32.ofNat (u1))), .val (.int (Int32.ofNat (u2))), .val (.long qq1), .second, .val (.ref b2), .val (.long qq18), .second, .val (.ref b19), .val (.long qq25), .second, .val (.ref b26), .val (.long qq40), .second, .val (.ref b41), .val (.long qq72), .second, .val (.ref b73), .val (.ref b90), .val (.long qq100), .second] [(.int (1 : Int32))]) (fun tq kq => st104 _ (XS.ifNo X104.here hx rfl (hb hby at_320) rfl ((if0 _ _).trans (feq (by decide : ¬ ((1 : Int32) = (0 : Int32)))).1) (XS.iconst X104.here hx rfl (hb hby at_323) (XS.goto X104.here hx rfl (pc0 := 324) (pc' := 328) rfl (hb hby at_324) (by decide) (by decide) kq)))) ?_
    exact own_retZ X104 hx hret hlk (hb hby at_328) (by decide) (by decide) (Or.inr rfl) ⟨rfl, N104⟩
  have J244 : ∀ (T1 : State) (h1 : Heap) (L1 : List Loc) (g : Nat → UInt64) (n : Nat), n = 4 + u0 + 2 * u1 → Stand p l e room_1 s m #[(.int i0), (.int i1), (.int i2)] below meth c T1 L1 6 17 → T1.heap = h1 → Fr n0 L1 → n0 ≤ h1.size → DArr Z h1 b2 4 f16 → DArr Z h1 b19 1 f22 → DArr Z h1 b26 2 f36 → DArr Z h1 b41 4 f67 → Exa Z h1 b73 "com/example/tidemark/tidemark/policy/RateWindow" → Fld Z h1 b73 "com/example/tidemark/tidemark/policy/RateWindow" "recent" "[D" (.ref rc78) → Fld Z h1 b73 "com/example/tidemark/tidemark/policy/RateWindow" "seen" "J" (.long (Int64.ofNat n)) → DArr Z h1 rc78 z g → own_R z (own_sq dd b) g n → Own p e below s room_1.cells room_1.slots (Q_rm0 Z i0 i1 i2 dd h0 n0) T1 (mkF m 244 #[.val (.int i0), .val (.int i1), .val (.int i2), .val (.int (Int32.ofNat (z))), .val (.int (Int32.ofNat (u0))), .val (.int (Int32.ofNat (u1))), .val (.int (Int32.ofNat (u2))), .val (.long qq1), .second, .val (.ref b2), .val (.long qq18), .second, .val (.ref b19), .val (.long qq25), .second, .val (.ref b26), .val (.long qq40), .second, .val (.ref b41), .val (.long qq72), .second, .val (.ref b73), .unset, .unset, .unset] []) := by
    intro T1 h1 L1 g n hn X1 e1 N1 Z1 Vjb2 Vjb19 Vjb26 Vjb41 E1 F1 F2 A1 R1
    have hn' := hn
    refine own_to T1 (mkF m 246 #[.val (.int i0), .val (.int i1), .val (.int i2), .val (.int (Int32.ofNat (z))), .val (.int (Int32.ofNat (u0))), .val (.int (Int32.ofNat (u1))), .val (.int (Int32.ofNat (u2))), .val (.long qq1), .second, .val (.ref b2), .val (.long qq18), .second, .val (.ref b19), .val (.long qq25), .second, .val (.ref b26), .val (.long qq40), .second, .val (.ref b41), .val (.long qq72), .second, .val (.ref b73), .unset, .unset, .unset] [(.int (Int32.ofNat (u2)))]) (fun tq kq => XS.iload X1.here hx rfl (hb hby at_244) rfl kq) ?_
    by_cases c246 : (Int32.ofNat (u2)) = (0 : Int32)
    · skip
      refine own_to T1 (mkF m 256 #[.val (.int i0), .val (.int i1), .val (.int i2), .val (.int (Int32.ofNat (z))), .val (.int (Int32.ofNat (u0))), .val (.int (Int32.ofNat (u1))), .val (.int (Int32.ofNat (u2))), .val (.long qq1), .second, .val (.ref b2), .val (.long qq18), .second, .val (.ref b19), .val (.long qq25), .second, .val (.ref b26), .val (.long qq40), .second, .val (.ref b41), .val (.long qq72), .second, .val (.ref b73), .unset, .unset, .unset] []) (fun tq kq => XS.ifYes X1.here hx rfl (pc0 := 246) (pc' := 256) rfl (hb hby at_246) rfl ((if0 _ _).trans (teq c246).1) (by decide) (by decide) kq) ?_
      exact J256 _ _ _ _ _ (have q := (own_eqn (a := u2) (b := 0) (by omega) (by decide)).mp c246; by omega) X1 e1 N1 Z1 Vjb2 Vjb19 Vjb26 Vjb41 E1 F1 F2 A1 R1
    · skip
      refine own_to T1 (mkF m 253 #[.val (.int i0), .val (.int i1), .val (.int i2), .val (.int (Int32.ofNat (z))), .val (.int (Int32.ofNat (u0))), .val (.int (Int32.ofNat (u1))), .val (.int (Int32.ofNat (u2))), .val (.long qq1), .second, .val (.ref b2), .val (.long qq18), .second, .val (.ref b19), .val (.long qq25), .second, .val (.ref b26), .val (.long qq40), .second, .val (.ref b41), .val (.long qq72), .second, .val (.ref b73), .unset, .unset, .unset] [(.ref b41), (.ref b73)]) (fun tq kq => XS.ifNo X1.here hx rfl (hb hby at_246) rfl ((if0 _ _).trans (feq c246).1) (XS.aload X1.here hx rfl (hb hby at_249) rfl rfl (XS.aload X1.here hx rfl (hb hby at_251) rfl rfl kq))) ?_
      obtain ⟨cq105, kq105, q105a, q105b, q105c⟩ := isOf hZ e1 E1
      obtain ⟨_, _, ⟨T105, L105, k105, n105⟩, -, X105, ⟨Lc105, hQ105, l105, y105, z105⟩, st105⟩ := X1.virtualBack hx (y := (⟨"com/example/tidemark/tidemark/policy/RateWindow", "add", "([D)V"⟩ : MethodName)) (z := (⟨"com/example/tidemark/tidemark/policy/RateWindow", "add", "([D)V"⟩ : MethodName)) hown (mvT hZ (own_w hw 20 rfl)) (mvT hZ (own_w hw 21 rfl)) (notFace_of_selects (args := #[]) (mvT hZ (own_w hw 23 rfl))) (mvT hZ (own_w hw 23 rfl)) (mvT hZ (own_w hw 22 rfl)) (by decide) (backOf (W := 0) (rmA l Z a0 hw [] b73 b41 rc78 (n) z 4 (own_sq dd b) f67 g h1 n0 Z1 E1 F1 F2 A1 Vjb41 R1 (fun j hj => (hc18 j hj).trans (congrArg (own_sq dd b) (by omega))) na78 (Ne.symm ne_b41_b73) ne_b41_rc78 sz73 gr78 hz hz4 (by omega) (by omega)) hZ (own_w hw 24 rfl) (own_w hw 11 rfl) (by decide) (by decide)) q105a q105c (g := (mkF m 253 #[.val (.int i0), .val (.int i1), .val (.int i2), .val (.int (Int32.ofNat (z))), .val (.int (Int32.ofNat (u0))), .val (.int (Int32.ofNat (u1))), .val (.int (Int32.ofNat (u2))), .val (.long qq1), .second, .val (.ref b2), .val (.long qq18), .second, .val (.ref b19), .val (.long qq25), .second, .val (.ref b26), .val (.long qq40), .second, .val (.ref b41), .val (.long qq72), .second, .val (.ref b73), .unset, .unset, .unset] [(.ref b41), (.ref b73)])) rfl (by rw [hml]; rfl) (Steps.refl _) (argsL := [(.ref b41)]) (rest := []) (lenOf pd_3 rfl) rfl (by show 2 * 0 + _ ≤ _; exact Nat.le_of_eq rfl) (hb hby at_253) (fun _ _ => ⟨rfl, e1, (by decide : 6 + 0 ≤ _), (by decide : 17 + 0 ≤ _)⟩)
      dsimp only [Pt.U, Pt.locs, Pt.cells, Pt.slots] at X105 l105 y105 z105 st105 hQ105
      have l105y := l105.symm
      clear l105
      subst l105y
      obtain rfl : k105 = 6 := y105
      obtain rfl : n105 = 17 := z105
      obtain ⟨rfl, N105q, K105q, E105q, F105a, F105b, g105, R105, V105a⟩ := hQ105
      have N105 := Fr.app N1 N105q
      have f106 := Vjb2.keep K105q (ninS ne_b2_b73 (ninS ne_b2_rc78 nin0))
      have f107 := Vjb19.keep K105q (ninS ne_b19_b73 (ninS ne_b19_rc78 nin0))
      have f108 := Vjb26.keep K105q (ninS ne_b26_b73 (ninS ne_b26_rc78 nin0))
      have f109 := Vjb41.keep K105q (ninS ne_b41_b73 (ninS ne_b41_rc78 nin0))
      have f110 := E1.keep K105q
      have Zs105 : n0 ≤ T105.heap.size := Nat.le_trans Z1 K105q.1
      refine own_to T105 (mkF m 256 #[.val (.int i0), .val (.int i1), .val (.int i2), .val (.int (Int32.ofNat (z))), .val (.int (Int32.ofNat (u0))), .val (.int (Int32.ofNat (u1))), .val (.int (Int32.ofNat (u2))), .val (.long qq1), .second, .val (.ref b2), .val (.long qq18), .second, .val (.ref b19), .val (.long qq25), .second, .val (.ref b26), .val (.long qq40), .second, .val (.ref b41), .val (.long qq72), .second, .val (.ref b73), .unset, .unset, .unset] []) (fun tq kq => st105.trans kq) ?_
      exact J256 _ _ _ _ _ (have q := mt (own_eqn (a := u2) (b := 0) (by omega) (by decide)).mpr c246; by omega) X105 rfl N105 Zs105 f106 f107 f108 f109 E105q F105a F105b V105a R105
  have J232 : ∀ (T1 : State) (h1 : Heap) (L1 : List Loc) (g : Nat → UInt64) (n : Nat), n = 4 + u0 → Stand p l e room_1 s m #[(.int i0), (.int i1), (.int i2)] below meth c T1 L1 6 17 → T1.heap = h1 → Fr n0 L1 → n0 ≤ h1.size → DArr Z h1 b2 4 f16 → DArr Z h1 b19 1 f22 → DArr Z h1 b26 2 f36 → DArr Z h1 b41 4 f67 → Exa Z h1 b73 "com/example/tidemark/tidemark/policy/RateWindow" → Fld Z h1 b73 "com/example/tidemark/tidemark/policy/RateWindow" "recent" "[D" (.ref rc78) → Fld Z h1 b73 "com/example/tidemark/tidemark/policy/RateWindow" "seen" "J" (.long (Int64.ofNat n)) → DArr Z h1 rc78 z g → own_R z (own_sq dd b) g n → Own p e below s room_1.cells room_1.slots (Q_rm0 Z i0 i1 i2 dd h0 n0) T1 (mkF m 232 #[.val (.int i0), .val (.int i1), .val (.int i2), .val (.int (Int32.ofNat (z))), .val (.int (Int32.ofNat (u0))), .val (.int (Int32.ofNat (u1))), .val (.int (Int32.ofNat (u2))), .val (.long qq1), .second, .val (.ref b2), .val (.long qq18), .second, .val (.ref b19), .val (.long qq25), .second, .val (.ref b26), .val (.long qq40), .second, .val (.ref b41), .val (.long qq72), .second, .val (.ref b73), .unset, .unset, .unset] []) := by
    intro T1 h1 L1 g n hn X1 e1 N1 Z1 Vjb2 Vjb19 Vjb26 Vjb41 E1 F1 F2 A1 R1
    have hn' := hn
    refine own_to T1 (mkF m 234 #[.val (.int i0), .val (.int i1), .val (.int i2), .val (.int (Int32.ofNat (z))), .val (.int (Int32.ofNat (u0))), .val (.int (Int32.ofNat (u1))), .val (.int (Int32.ofNat (u2))), .val (.long qq1), .second, .val (.ref b2), .val (.long qq18), .second, .val (.ref b19), .val (.long qq25), .second, .val (.ref b26), .val (.long qq40), .second, .val (.ref b41), .val (.long qq72), .second, .val (.ref b73), .unset, .unset, .unset] [(.int (Int32.ofNat (u1)))]) (fun tq kq => XS.iload X1.here hx rfl (hb hby at_232) rfl kq) ?_
    by_cases c234 : (Int32.ofNat (u1)) = (0 : Int32)
    · skip
      refine own_to T1 (mkF m 244 #[.val (.int i0), .val (.int i1), .val (.int i2), .val (.int (Int32.ofNat (z))), .val (.int (Int32.ofNat (u0))), .val (.int (Int32.ofNat (u1))), .val (.int (Int32.ofNat (u2))), .val (.long qq1), .second, .val (.ref b2), .val (.long qq18), .second, .val (.ref b19), .val (.long qq25), .second, .val (.ref b26), .val (.long qq40), .second, .val (.ref b41), .val (.long qq72), .second, .val (.ref b73), .unset, .unset, .unset] []) (fun tq kq => XS.ifYes X1.here hx rfl (pc0 := 234) (pc' := 244) rfl (hb hby at_234) rfl ((if0 _ _).trans (teq c234).1) (by decide) (by decide) kq) ?_
      exact J244 _ _ _ _ _ (have q := (own_eqn (a := u1) (b := 0) (by omega) (by decide)).mp c234; by omega) X1 e1 N1 Z1 Vjb2 Vjb19 Vjb26 Vjb41 E1 F1 F2 A1 R1
    · skip
      refine own_to T1 (mkF m 241 #[.val (.int i0), .val (.int i1), .val (.int i2), .val (.int (Int32.ofNat (z))), .val (.int (Int32.ofNat (u0))), .val (.int (Int32.ofNat (u1))), .val (.int (Int32.ofNat (u2))), .val (.long qq1), .second, .val (.ref b2), .val (.long qq18), .second, .val (.ref b19), .val (.long qq25), .second, .val (.ref b26), .val (.long qq40), .second, .val (.ref b41), .val (.long qq72), .second, .val (.ref b73), .unset, .unset, .unset] [(.ref b26), (.ref b73)]) (fun tq kq => XS.ifNo X1.here hx rfl (hb hby at_234) rfl ((if0 _ _).trans (feq c234).1) (XS.aload X1.here hx rfl (hb hby at_237) rfl rfl (XS.aload X1.here hx rfl (hb hby at_239) rfl rfl kq))) ?_
      obtain ⟨cq111, kq111, q111a, q111b, q111c⟩ := isOf hZ e1 E1
      obtain ⟨_, _, ⟨T111, L111, k111, n111⟩, -, X111, ⟨Lc111, hQ111, l111, y111, z111⟩, st111⟩ := X1.virtualBack hx (y := (⟨"com/example/tidemark/tidemark/policy/RateWindow", "add", "([D)V"⟩ : MethodName)) (z := (⟨"com/example/tidemark/tidemark/policy/RateWindow", "add", "([D)V"⟩ : MethodName)) hown (mvT hZ (own_w hw 20 rfl)) (mvT hZ (own_w hw 21 rfl)) (notFace_of_selects (args := #[]) (mvT hZ (own_w hw 23 rfl))) (mvT hZ (own_w hw 23 rfl)) (mvT hZ (own_w hw 22 rfl)) (by decide) (backOf (W := 0) (rmA l Z a0 hw [] b73 b26 rc78 (n) z 2 (own_sq dd b) f36 g h1 n0 Z1 E1 F1 F2 A1 Vjb26 R1 (fun j hj => (hc15 j hj).trans (congrArg (own_sq dd b) (by omega))) na78 (Ne.symm ne_b26_b73) ne_b26_rc78 sz73 gr78 hz hz4 (by omega) (by omega)) hZ (own_w hw 24 rfl) (own_w hw 11 rfl) (by decide) (by decide)) q111a q111c (g := (mkF m 241 #[.val (.int i0), .val (.int i1), .val (.int i2), .val (.int (Int32.ofNat (z))), .val (.int (Int32.ofNat (u0))), .val (.int (Int32.ofNat (u1))), .val (.int (Int32.ofNat (u2))), .val (.long qq1), .second, .val (.ref b2), .val (.long qq18), .second, .val (.ref b19), .val (.long qq25), .second, .val (.ref b26), .val (.long qq40), .second, .val (.ref b41), .val (.long qq72), .second, .val (.ref b73), .unset, .unset, .unset] [(.ref b26), (.ref b73)])) rfl (by rw [hml]; rfl) (Steps.refl _) (argsL := [(.ref b26)]) (rest := []) (lenOf pd_3 rfl) rfl (by show 2 * 0 + _ ≤ _; exact Nat.le_of_eq rfl) (hb hby at_241) (fun _ _ => ⟨rfl, e1, (by decide : 6 + 0 ≤ _), (by decide : 17 + 0 ≤ _)⟩)
      dsimp only [Pt.U, Pt.locs, Pt.cells, Pt.slots] at X111 l111 y111 z111 st111 hQ111
      have l111y := l111.symm
      clear l111
      subst l111y
      obtain rfl : k111 = 6 := y111
      obtain rfl : n111 = 17 := z111
      obtain ⟨rfl, N111q, K111q, E111q, F111a, F111b, g111, R111, V111a⟩ := hQ111
      have N111 := Fr.app N1 N111q
      have f112 := Vjb2.keep K111q (ninS ne_b2_b73 (ninS ne_b2_rc78 nin0))
      have f113 := Vjb19.keep K111q (ninS ne_b19_b73 (ninS ne_b19_rc78 nin0))
      have f114 := Vjb26.keep K111q (ninS ne_b26_b73 (ninS ne_b26_rc78 nin0))
      have f115 := Vjb41.keep K111q (ninS ne_b41_b73 (ninS ne_b41_rc78 nin0))
      have f116 := E1.keep K111q
      have Zs111 : n0 ≤ T111.heap.size := Nat.le_trans Z1 K111q.1
      refine own_to T111 (mkF m 244 #[.val (.int i0), .val (.int i1), .val (.int i2), .val (.int (Int32.ofNat (z))), .val (.int (Int32.ofNat (u0))), .val (.int (Int32.ofNat (u1))), .val (.int (Int32.ofNat (u2))), .val (.long qq1), .second, .val (.ref b2), .val (.long qq18), .second, .val (.ref b19), .val (.long qq25), .second, .val (.ref b26), .val (.long qq40), .second, .val (.ref b41), .val (.long qq72), .second, .val (.ref b73), .unset, .unset, .unset] []) (fun tq kq => st111.trans kq) ?_
      exact J244 _ _ _ _ _ (have q := mt (own_eqn (a := u1) (b := 0) (by omega) (by decide)).mpr c234; by omega) X111 rfl N111 Zs111 f112 f113 f114 f115 E111q F111a F111b V111a R111
  refine own_to T84 (mkF m 222 #[.val (.int i0), .val (.int i1), .val (.int i2), .val (.int (Int32.ofNat (z))), .val (.int (Int32.ofNat (u0))), .val (.int (Int32.ofNat (u1))), .val (.int (Int32.ofNat (u2))), .val (.long qq1), .second, .val (.ref b2), .val (.long qq18), .second, .val (.ref b19), .val (.long qq25), .second, .val (.ref b26), .val (.long qq40), .second, .val (.ref b41), .val (.long qq72), .second, .val (.ref b73), .unset, .unset, .unset] [(.int (Int32.ofNat (u0)))]) (fun tq kq => XS.iload X84.here hx rfl (hb hby at_220) rfl kq) ?_
  by_cases c222 : (Int32.ofNat (u0)) = (0 : Int32)
  · skip
    refine own_to T84 (mkF m 232 #[.val (.int i0), .val (.int i1), .val (.int i2), .val (.int (Int32.ofNat (z))), .val (.int (Int32.ofNat (u0))), .val (.int (Int32.ofNat (u1))), .val (.int (Int32.ofNat (u2))), .val (.long qq1), .second, .val (.ref b2), .val (.long qq18), .second, .val (.ref b19), .val (.long qq25), .second, .val (.ref b26), .val (.long qq40), .second, .val (.ref b41), .val (.long qq72), .second, .val (.ref b73), .unset, .unset, .unset] []) (fun tq kq => XS.ifYes X84.here hx rfl (pc0 := 222) (pc' := 232) rfl (hb hby at_222) rfl ((if0 _ _).trans (teq c222).1) (by decide) (by decide) kq) ?_
    exact J232 _ _ _ _ _ (have q := (own_eqn (a := u0) (b := 0) (by omega) (by decide)).mp c222; by omega) X84 rfl N84 Zs84 f85 f86 f87 f88 E84q F84a F84b V84a R84
  · skip
    refine own_to T84 (mkF m 229 #[.val (.int i0), .val (.int i1), .val (.int i2), .val (.int (Int32.ofNat (z))), .val (.int (Int32.ofNat (u0))), .val (.int (Int32.ofNat (u1))), .val (.int (Int32.ofNat (u2))), .val (.long qq1), .second, .val (.ref b2), .val (.long qq18), .second, .val (.ref b19), .val (.long qq25), .second, .val (.ref b26), .val (.long qq40), .second, .val (.ref b41), .val (.long qq72), .second, .val (.ref b73), .unset, .unset, .unset] [(.ref b19), (.ref b73)]) (fun tq kq => XS.ifNo X84.here hx rfl (hb hby at_222) rfl ((if0 _ _).trans (feq c222).1) (XS.aload X84.here hx rfl (hb hby at_225) rfl rfl (XS.aload X84.here hx rfl (hb hby at_227) rfl rfl kq))) ?_
    obtain ⟨cq117, kq117, q117a, q117b, q117c⟩ := isOf hZ rfl E84q
    obtain ⟨_, _, ⟨T117, L117, k117, n117⟩, -, X117, ⟨Lc117, hQ117, l117, y117, z117⟩, st117⟩ := X84.virtualBack hx (y := (⟨"com/example/tidemark/tidemark/policy/RateWindow", "add", "([D)V"⟩ : MethodName)) (z := (⟨"com/example/tidemark/tidemark/policy/RateWindow", "add", "([D)V"⟩ : MethodName)) hown (mvT hZ (own_w hw 20 rfl)) (mvT hZ (own_w hw 21 rfl)) (notFace_of_selects (args := #[]) (mvT hZ (own_w hw 23 rfl))) (mvT hZ (own_w hw 23 rfl)) (mvT hZ (own_w hw 22 rfl)) (by decide) (backOf (W := 0) (rmA l Z a0 hw [] b73 b19 rc78 (0 + 4) z 1 (own_sq dd b) f22 g84 T84.heap n0 Zs84 E84q F84a F84b V84a f86 R84 (fun j hj => (hc12 j hj).trans (congrArg (own_sq dd b) (by omega))) na78 (Ne.symm ne_b19_b73) ne_b19_rc78 sz73 gr78 hz hz4 (by omega) (by omega)) hZ (own_w hw 24 rfl) (own_w hw 11 rfl) (by decide) (by decide)) q117a q117c (g := (mkF m 229 #[.val (.int i0), .val (.int i1), .val (.int i2), .val (.int (Int32.ofNat (z))), .val (.int (Int32.ofNat (u0))), .val (.int (Int32.ofNat (u1))), .val (.int (Int32.ofNat (u2))), .val (.long qq1), .second, .val (.ref b2), .val (.long qq18), .second, .val (.ref b19), .val (.long qq25), .second, .val (.ref b26), .val (.long qq40), .second, .val (.ref b41), .val (.long qq72), .second, .val (.ref b73), .unset, .unset, .unset] [(.ref b19), (.ref b73)])) rfl (by rw [hml]; rfl) (Steps.refl _) (argsL := [(.ref b19)]) (rest := []) (lenOf pd_3 rfl) rfl (by show 2 * 0 + _ ≤ _; exact Nat.le_of_eq rfl) (hb hby at_229) (fun _ _ => ⟨rfl, rfl, (by decide : 6 + 0 ≤ _), (by decide : 17 + 0 ≤ _)⟩)
    dsimp only [Pt.U, Pt.locs, Pt.cells, Pt.slots] at X117 l117 y117 z117 st117 hQ117
    have l117y := l117.symm
    clear l117
    subst l117y
    obtain rfl : k117 = 6 := y117
    obtain rfl : n117 = 17 := z117
    obtain ⟨rfl, N117q, K117q, E117q, F117a, F117b, g117, R117, V117a⟩ := hQ117
    have N117 := Fr.app N84 N117q
    have f118 := f85.keep K117q (ninS ne_b2_b73 (ninS ne_b2_rc78 nin0))
    have f119 := f86.keep K117q (ninS ne_b19_b73 (ninS ne_b19_rc78 nin0))
    have f120 := f87.keep K117q (ninS ne_b26_b73 (ninS ne_b26_rc78 nin0))
    have f121 := f88.keep K117q (ninS ne_b41_b73 (ninS ne_b41_rc78 nin0))
    have f122 := E84q.keep K117q
    have Zs117 : n0 ≤ T117.heap.size := Nat.le_trans Zs84 K117q.1
    refine own_to T117 (mkF m 232 #[.val (.int i0), .val (.int i1), .val (.int i2), .val (.int (Int32.ofNat (z))), .val (.int (Int32.ofNat (u0))), .val (.int (Int32.ofNat (u1))), .val (.int (Int32.ofNat (u2))), .val (.long qq1), .second, .val (.ref b2), .val (.long qq18), .second, .val (.ref b19), .val (.long qq25), .second, .val (.ref b26), .val (.long qq40), .second, .val (.ref b41), .val (.long qq72), .second, .val (.ref b73), .unset, .unset, .unset] []) (fun tq kq => st117.trans kq) ?_
    exact J232 _ _ _ _ _ (have q := mt (own_eqn (a := u0) (b := 0) (by omega) (by decide)).mpr c222; by omega) X117 rfl N117 Zs117 f118 f119 f120 f121 E117q F117a F117b V117a R117
set_option maxRecDepth 65536 in
set_option maxHeartbeats 40000000 in
theorem comes_1 {Post : Tables → Env → Array Value → State → Outcome → State → Prop} (hpost : ∀ tb e args s v u, (limb_1_1.after args s (.returned v) u = true ∧ limb_1_2.after args s (.returned v) u = true ∧ True) → FrameEnd s (.returned v) u (Jvm.fieldLocs frame_1_writes args s ++ Jvm.arrayLocs frame_1_arrays args s ++ Jvm.staticLocs frame_1_statics s) 24 128 → Post tb e args s (.returned v) u) :
    ArmFor flags0 classFile x code maxLocals ret World_1 tables_1 room_1 Calls_1 rest_1 Pre_1 Post := by
  intro l hfl _ _ p e ha hc hk s m args below hf hA hF happ hP
  obtain ⟨hcalls, hrest, hpre⟩ := hP
  obtain ⟨-, -, -, hnamed, -, -, -, hat⟩ := (Spec.applies_iff hf).mp happ
  obtain ⟨hg, hn⟩ := and_e (Cond.before_iff.mp (show (Jvm.Cond.and given_1 narrow_1).before args s = true from hpre))
  obtain ⟨q1, q2⟩ := and_e hg
  obtain ⟨q3, q4⟩ := and_e q2
  obtain ⟨q5, q6⟩ := and_e q4
  obtain ⟨w0, w1, w2, rfl⟩ : ∃ w0 w1 w2 : Value, args = #[w0, w1, w2] := by
    have hs : args.size = 3 := by simpa [Cond.value, given_1] using q1
    obtain ⟨L⟩ := args
    match L, hs with
    | [w0, w1, w2], _ => exact ⟨w0, w1, w2, rfl⟩
  have hw := fun d (hd : d ∈ tables_1) => atoms_spec (ws := Jvm.Cond.code x code maxLocals ret :: tables_1) hat d (List.mem_cons_of_mem _ hd)
  have hfit : Fit s := fun {y c} hc i hi => by
    obtain ⟨ha, rfl⟩ := Array.getElem?_eq_some_iff.mp hc
    have q := List.all_eq_true.mp ((Array.all_eq_true_iff_forall_mem.mp hF) _ (Array.getElem_mem ha)) i (List.mem_range.mpr hi)
    simpa [Array.getElem?_eq_getElem hi] using q
  obtain ⟨i0, ei0⟩ := is_v q3
  obtain rfl : w0 = (.int i0) := Option.some.inj ei0
  obtain ⟨i1, ei1⟩ := is_v q5
  obtain rfl : w1 = (.int i1) := Option.some.inj ei1
  obtain ⟨i2, ei2⟩ := is_v q6
  obtain rfl : w2 = (.int i2) := Option.some.inj ei2
  obtain ⟨n, o, h1, h2, h3, _, L, rfl, ⟨rfl, N⟩, hq⟩ := rm0 l s _ hw tables_1 i0 i1 i2 FP.l2d s.heap s.heap.size (Nat.le_refl _) rfl p e ha hc hk s m _ below hf ((Spec.applies_iff_loose hf).mp happ).1 ⟨rfl, State.Warmed39.refl s, rfl⟩ trivial
  refine ⟨n, _, h1, h2, h3, hpost _ _ _ _ _ _ ⟨Cond.after_iff.mpr rfl, Cond.after_iff.mpr (eq_i res_at (Term.int_eval (1)) rfl), trivial⟩ ⟨hq.1, hq.2.1, (hq.2.2.sift fun y hy => Or.inr (N y hy)).mono (by decide) (by decide)⟩⟩
theorem main_1_1 : Claimed_1_1 := comes_1 fun _ _ _ _ _ _ h hF => ⟨h.1, hF⟩
theorem main_1_2 : Claimed_1_2 := comes_1 fun _ _ _ _ _ _ h hF => ⟨h.2.1, hF⟩
end Jvm.Pilot.@@N@@
namespace Jvm.Pilot.@@N@@
open Jvm Jvm.ClassFile Sem Op Lib Jvm.Free Jvm.Stand Jvm.Pilot.@@N@@.Jvm.D
/-! MADE BY PROGRAM (witnessworld.py) out of the Statement's table words and the real class files: 9 classes; the members and pool entries that the words name. The judged class is class 1, her method 1. -/
namespace start1
open Jvm.ClassFile
def u (s : String) : CpInfo := .utf8 (stringToUtf16 s)
/-- a pool by its gaps: so many unusable entries, then the entry; so many at the end -/
def gap : Nat → List CpInfo → List CpInfo
  | 0, r => r
  | n + 1, r => .unusable :: gap n r
def poolList (es : List (Nat × CpInfo)) (last : Nat) : List CpInfo := es.foldr (fun e r => gap e.1 (e.2 :: r)) (gap last [])
def pool (es : List (Nat × CpInfo)) (last : Nat) : Array CpInfo := ⟨poolList es last⟩
def fileOf (pool : Array CpInfo) (this : Nat) (attrs : Array Attribute := #[]) (ms : Array MethodInfo := #[]) (fl : Nat := 33) (sup : Nat := 0) (ifs : Array Nat := #[]) (fds : Array FieldInfo := #[]) : ClassFile where
  minorVersion := 0
  majorVersion := 65
  constantPool := pool
  accessFlags := fl
  thisClass := this
  superClass := sup
  interfaces := ifs
  fields := fds
  methods := ms
  attributes := attrs
def plain (name : String) (sup : Option ClassId) : Class where
  name := name
  kind := .ordinary
  loader := none
  accessFlags := 33
  super := sup
  interfaces := #[]
  cf := none
  fields := #[]
  methods := #[]
  instanceTypes := #[]
  staticTypes := #[]
  resolved := #[]
  callSites := []
  init := .initialized
  statics := none
  mirror := none

def pool0 : Array CpInfo := pool [(5, u "<init>"), (0, u "()V"), (1, .class_ 10), (1, u "java/lang/Object")] 113

def k0c0 : Code := { maxStack := 0, maxLocals := 1, code := object_method_1_code, exceptionTable := #[], attributes := #[] }
def k0m0 : Method := { name := "<init>", desc := "()V", sig := { parameters := [], returnType := none }, accessFlags := 1, code := some k0c0 }
/-- java/lang/Object -/
def k0 : Class := { plain "java/lang/Object" none with
  accessFlags := 33
  interfaces := #[]
  cf := some (fileOf pool0 8 #[] #[{ accessFlags := 1, nameIndex := 5, descriptorIndex := 6, attributes := #[] }] 33 0 #[] #[])
  fields := #[]
  methods := #[k0m0]
  instanceTypes := #[]
  staticTypes := #[]
  resolved := Array.replicate 124 none
  statics := none }

def pool1 : Array CpInfo := pool [(2, .class_ 4), (1, u "java/lang/Object"), (0, u "<init>"), (0, u "()V"), (0, .long 1048575), (1, .methodref 10 11), (0, .class_ 12), (0, .nameAndType 13 14), (0, u "com/example/tidemark/tidemark/policy/RateWindowRatesPinLaw"), (0, u "d"), (0, u "(J)D"), (0, .long 2), (1, .long 3), (1, .long 4), (1, .class_ 22), (0, u "com/example/tidemark/tidemark/policy/RateWindow"), (0, .methodref 21 24), (0, .nameAndType 5 25), (0, u "(I)V"), (0, .methodref 21 27), (0, .nameAndType 28 29), (0, u "add"), (0, u "([D)V"), (0, .methodref 21 31), (0, .nameAndType 32 33), (0, u "rates"), (0, u "()[D"), (0, .methodref 10 35), (0, .nameAndType 36 37), (0, u "at"), (0, u "([DIJ)Z"), (2, u "law"), (0, u "(III)Z")] 5

def k1m0 : Method := { name := "<init>", desc := "()V", sig := { parameters := [], returnType := none }, accessFlags := 1, code := none }
def k1c1 : Code := { maxStack := 7, maxLocals := 25, code := code, exceptionTable := #[], attributes := #[] }
def k1m1 : Method := { name := "law", desc := "(III)Z", sig := { parameters := [.int, .int, .int], returnType := some .boolean }, accessFlags := 9, code := some k1c1 }
def k1c2 : Code := { maxStack := 2, maxLocals := 2, code := method_3_code, exceptionTable := #[], attributes := #[] }
def k1m2 : Method := { name := "d", desc := "(J)D", sig := { parameters := [.long], returnType := some .double }, accessFlags := 10, code := some k1c2 }
def k1c3 : Code := { maxStack := 6, maxLocals := 4, code := method_4_code, exceptionTable := #[], attributes := #[] }
def k1m3 : Method := { name := "at", desc := "([DIJ)Z", sig := { parameters := [(.array .double), .int, .long], returnType := some .boolean }, accessFlags := 10, code := some k1c3 }
/-- com/example/tidemark/tidemark/policy/RateWindowRatesPinLaw -/
def k1 : Class := { plain "com/example/tidemark/tidemark/policy/RateWindowRatesPinLaw" (some 0) with
  accessFlags := 49
  interfaces := #[]
  cf := some (fileOf pool1 10 #[] #[{ accessFlags := 1, nameIndex := 5, descriptorIndex := 6, attributes := #[] }, { accessFlags := 9, nameIndex := 40, descriptorIndex := 41, attributes := #[] }, { accessFlags := 10, nameIndex := 13, descriptorIndex := 14, attributes := #[] }, { accessFlags := 10, nameIndex := 36, descriptorIndex := 37, attributes := #[] }] 49 2 #[] #[])
  fields := #[]
  methods := #[k1m0, k1m1, k1m2, k1m3]
  instanceTypes := #[]
  staticTypes := #[]
  resolved := Array.replicate 47 none
  statics := none }

def pool2 : Array CpInfo := pool [(3, .methodref 4 5), (0, .class_ 6), (0, .nameAndType 7 8), (0, u "java/lang/Object"), (0, u "<init>"), (0, u "()V"), (0, .fieldref 10 11), (0, .class_ 12), (0, .nameAndType 13 14), (0, u "com/example/tidemark/tidemark/policy/RateWindow"), (0, u "recent"), (0, u "[D"), (10, .fieldref 10 26), (0, .nameAndType 27 28), (0, u "seen"), (0, u "J"), (0, u "MAX_SAMPLES"), (0, u "I"), (2, u "(I)V"), (6, u "add"), (0, u "([D)V"), (4, u "rates"), (0, u "()[D")] 2

def k2c0 : Code := { maxStack := 2, maxLocals := 2, code := prog_39_method_1_code, exceptionTable := #[], attributes := #[] }
def k2m0 : Method := { name := "<init>", desc := "(I)V", sig := { parameters := [.int], returnType := none }, accessFlags := 0, code := some k2c0 }
def k2c1 : Code := { maxStack := 5, maxLocals := 7, code := prog_39_method_4_code, exceptionTable := #[], attributes := #[] }
def k2m1 : Method := { name := "add", desc := "([D)V", sig := { parameters := [(.array .double)], returnType := none }, accessFlags := 0, code := some k2c1 }
def k2c2 : Code := { maxStack := 7, maxLocals := 3, code := prog_39_method_6_code, exceptionTable := #[], attributes := #[] }
def k2m2 : Method := { name := "rates", desc := "()[D", sig := { parameters := [], returnType := some (.array .double) }, accessFlags := 0, code := some k2c2 }
/-- com/example/tidemark/tidemark/policy/RateWindow -/
def k2 : Class := { plain "com/example/tidemark/tidemark/policy/RateWindow" (some 0) with
  accessFlags := 48
  interfaces := #[]
  cf := some (fileOf pool2 10 #[] #[{ accessFlags := 0, nameIndex := 7, descriptorIndex := 33, attributes := #[] }, { accessFlags := 0, nameIndex := 40, descriptorIndex := 41, attributes := #[] }, { accessFlags := 0, nameIndex := 46, descriptorIndex := 47, attributes := #[] }] 48 4 #[] #[{ accessFlags := 24, nameIndex := 29, descriptorIndex := 30, attributes := #[] }, { accessFlags := 18, nameIndex := 13, descriptorIndex := 14, attributes := #[] }, { accessFlags := 2, nameIndex := 27, descriptorIndex := 28, attributes := #[] }])
  fields := #[{ name := "MAX_SAMPLES", type := .int, accessFlags := 24, slot := 0, constantValue := 0 }, { name := "recent", type := (.array .double), accessFlags := 18, slot := 0, constantValue := 0 }, { name := "seen", type := .long, accessFlags := 2, slot := 1, constantValue := 0 }]
  methods := #[k2m0, k2m1, k2m2]
  instanceTypes := #[(.array .double), .long]
  staticTypes := #[.int]
  resolved := Array.replicate 50 none
  statics := none }

def pool3 : Array CpInfo := pool [(1, u "java/lang/Cloneable"), (0, .class_ 1), (0, u "java/lang/Object"), (0, .class_ 3)] 3

/-- java/lang/Cloneable -/
def k3 : Class := { plain "java/lang/Cloneable" (some 0) with
  accessFlags := 1537
  interfaces := #[]
  cf := some (fileOf pool3 2 #[] #[] 1537 4 #[] #[])
  fields := #[]
  methods := #[]
  instanceTypes := #[]
  staticTypes := #[]
  resolved := Array.replicate 8 none
  statics := none }

def pool4 : Array CpInfo := pool [(1, u "java/io/Serializable"), (0, .class_ 1), (0, u "java/lang/Object"), (0, .class_ 3)] 3

/-- java/io/Serializable -/
def k4 : Class := { plain "java/io/Serializable" (some 0) with
  accessFlags := 1537
  interfaces := #[]
  cf := some (fileOf pool4 2 #[] #[] 1537 4 #[] #[])
  fields := #[]
  methods := #[]
  instanceTypes := #[]
  staticTypes := #[]
  resolved := Array.replicate 8 none
  statics := none }

/-- the primitive byte -/
def k5 : Class := { plain "byte" none with kind := .primitive 'B', accessFlags := 0x411 }
/-- [B -/
def k6 : Class := { plain "[B" (some 0) with kind := .array 5 .byte, interfaces := #[3, 4], accessFlags := 1041 }

/-- the primitive int -/
def k7 : Class := { plain "int" none with kind := .primitive 'I', accessFlags := 0x411 }
/-- [I -/
def k8 : Class := { plain "[I" (some 0) with kind := .array 7 .int, interfaces := #[3, 4], accessFlags := 1041 }

/-- the primitive double -/
def k9 : Class := { plain "double" none with kind := .primitive 'D', accessFlags := 0x411 }
/-- [D -/
def k10 : Class := { plain "[D" (some 0) with kind := .array 9 .double, interfaces := #[3, 4], accessFlags := 1041 }

def heap : Heap := #[]
def classes : Array Class := #[k0, k1, k2, k3, k4, k5, k6, k7, k8, k9, k10]
def interned : List (Array UInt16 × Addr) := []
def slotsUsed : Nat := 0
def theMethod : MethodId := ⟨1, 1⟩
def args0 : Array Value := #[.int 2, .int 5, .int 7]
def aboutOver (below : List Frame) : State where
  vm := { classes := classes, interned := interned.toArray }
  heap := heap
  slotsUsed := slotsUsed
  threads := #[{ frames := .invoking theMethod args0 :: below }]
def below0 : List Frame := [.native { method := ⟨0, 0⟩, args := #[] }]
def about1 : State := aboutOver below0
def p0 : Program := .bare "" "" ""
def e0 : Env := launch0.env 0 0 0
theorem w_frames : about1.frames = Frame.invoking theMethod args0 :: below0 := rfl
set_option maxRecDepth 65536 in
theorem w_args : argsFit about1.vm theMethod args0 = true := by decide +kernel
set_option maxRecDepth 65536 in
theorem w_heap : heapFits about1 = true := by decide +kernel
set_option maxRecDepth 65536 in
theorem w_runnable : about1.curStatus? = some .runnable := by decide +kernel
set_option maxRecDepth 65536 in
theorem w_alone : about1.alone = true := by decide +kernel
set_option maxRecDepth 65536 in
theorem w_named : about1.methodNamed? x = some theMethod := by decide +kernel
set_option maxRecDepth 65536 in
theorem w_hears : about1.hears theMethod below0 = true := by decide +kernel
set_option maxRecDepth 65536 in
theorem w_ripe : about1.ripe theMethod args0 below0 = true := by decide +kernel
theorem w_running : about1.status = .running := rfl
set_option maxRecDepth 65536 in
theorem w_room : about1.hasRoom e0.platform room_1 = true :=
  launch0.hasRoom_least _ room_1 (by decide +kernel) (by decide +kernel) (by decide +kernel) (by decide +kernel) (by decide +kernel) (by decide +kernel)
theorem allAtoms_all (ts : List Jvm.Cond) (a : Array Jvm.Value) (st : Jvm.State) : (allAtoms ts).before a st = ts.all (fun c => c.before a st) := by
  induction ts with
  | nil => rfl
  | cons c t ih =>
    show (Jvm.Cond.and c (allAtoms t)).before a st = _
    rw [Jvm.Cond.before_and, ih, List.all_cons]
def words1 : List Jvm.Cond := Jvm.Cond.code x code maxLocals ret :: tables_1
/-- a 'code' word, met by the world's own term for the bytes: nothing is compared byte by byte -/
theorem code_word {y : MethodName} {bytes : ByteArray} {mx : Nat} {rt : Option FieldType} {a : Array Value} {s : State} {m : MethodId} {meth : Method} {c : Code} (h1 : s.methodNamed? y = some m) (h2 : s.vm.method? m = some meth) (h3 : meth.code = some c) (h4 : c.code = bytes)
    (h5 : (c.maxLocals == mx && c.exceptionTable.isEmpty && decide (c.maxStack ≤ mostOperands) && decide (meth.sig.returnType = rt) && !meth.locks && decide (parseMethodDescriptor y.desc = some meth.sig)) = true) : (Jvm.Cond.code y bytes mx rt).before a s = true := by
  simp only [Bool.and_eq_true, beq_iff_eq, Bool.not_eq_true', decide_eq_true_eq] at h5
  obtain ⟨⟨⟨⟨⟨g1, g2⟩, g3⟩, g4⟩, g5⟩, g6⟩ := h5
  simp [Cond.before, Cond.holds, Cond.value, h1, h2, h3, h4, g1, g2, g3, g4, g5, g6]
def isCode : Jvm.Cond → Bool
  | .code _ _ _ _ => true
  | _ => false
theorem all_split {L : List Jvm.Cond} {P : Jvm.Cond → Bool} (h1 : L.all (fun c => isCode c || P c) = true) (h2 : ∀ c ∈ L.filter isCode, P c = true) : L.all P = true := by
  refine List.all_eq_true.mpr fun c hc => ?_
  have h := List.all_eq_true.mp h1 c hc
  rcases Bool.eq_false_or_eq_true (isCode c) with hi | hi
  · exact h2 c (List.mem_filter.mpr ⟨hc, hi⟩)
  · simpa [hi] using h
set_option maxRecDepth 65536 in
theorem w_c0 : (Jvm.Cond.code x code maxLocals ret).before args0 about1 = true := code_word (m := ⟨1, 1⟩) (meth := k1m1) (c := k1c1) (by decide +kernel) rfl rfl rfl (by decide +kernel)
set_option maxRecDepth 65536 in
theorem w_c1 : (Jvm.Cond.code ({ cls := "com/example/tidemark/tidemark/policy/RateWindowRatesPinLaw", name := "d", desc := "(J)D" } : Jvm.MethodName) method_3_code (2 : Nat) (Option.some Jvm.ClassFile.FieldType.double)).before args0 about1 = true := code_word (m := ⟨1, 2⟩) (meth := k1m2) (c := k1c2) (by decide +kernel) rfl rfl rfl (by decide +kernel)
set_option maxRecDepth 65536 in
theorem w_c2 : (Jvm.Cond.code ({ cls := "com/example/tidemark/tidemark/policy/RateWindow", name := "<init>", desc := "(I)V" } : Jvm.MethodName) prog_39_method_1_code (2 : Nat) (Option.none : Option Jvm.ClassFile.FieldType)).before args0 about1 = true := code_word (m := ⟨2, 0⟩) (meth := k2m0) (c := k2c0) (by decide +kernel) rfl rfl rfl (by decide +kernel)
set_option maxRecDepth 65536 in
theorem w_c3 : (Jvm.Cond.code ({ cls := "java/lang/Object", name := "<init>", desc := "()V" } : Jvm.MethodName) object_method_1_code (1 : Nat) (Option.none : Option Jvm.ClassFile.FieldType)).before args0 about1 = true := code_word (m := ⟨0, 0⟩) (meth := k0m0) (c := k0c0) (by decide +kernel) rfl rfl rfl (by decide +kernel)
set_option maxRecDepth 65536 in
theorem w_c4 : (Jvm.Cond.code ({ cls := "com/example/tidemark/tidemark/policy/RateWindow", name := "add", desc := "([D)V" } : Jvm.MethodName) prog_39_method_4_code (7 : Nat) (Option.none : Option Jvm.ClassFile.FieldType)).before args0 about1 = true := code_word (m := ⟨2, 1⟩) (meth := k2m1) (c := k2c1) (by decide +kernel) rfl rfl rfl (by decide +kernel)
set_option maxRecDepth 65536 in
theorem w_c5 : (Jvm.Cond.code ({ cls := "com/example/tidemark/tidemark/policy/RateWindow", name := "rates", desc := "()[D" } : Jvm.MethodName) prog_39_method_6_code (3 : Nat) (Option.some (Jvm.ClassFile.FieldType.array Jvm.ClassFile.FieldType.double))).before args0 about1 = true := code_word (m := ⟨2, 2⟩) (meth := k2m2) (c := k2c2) (by decide +kernel) rfl rfl rfl (by decide +kernel)
set_option maxRecDepth 65536 in
theorem w_c6 : (Jvm.Cond.code ({ cls := "com/example/tidemark/tidemark/policy/RateWindowRatesPinLaw", name := "at", desc := "([DIJ)Z" } : Jvm.MethodName) method_4_code (4 : Nat) (Option.some Jvm.ClassFile.FieldType.boolean)).before args0 about1 = true := code_word (m := ⟨1, 3⟩) (meth := k1m3) (c := k1c3) (by decide +kernel) rfl rfl rfl (by decide +kernel)
def codes1 : List Jvm.Cond := [Jvm.Cond.code x code maxLocals ret, Jvm.Cond.code ({ cls := "com/example/tidemark/tidemark/policy/RateWindowRatesPinLaw", name := "d", desc := "(J)D" } : Jvm.MethodName) method_3_code (2 : Nat) (Option.some Jvm.ClassFile.FieldType.double), Jvm.Cond.code ({ cls := "com/example/tidemark/tidemark/policy/RateWindow", name := "<init>", desc := "(I)V" } : Jvm.MethodName) prog_39_method_1_code (2 : Nat) (Option.none : Option Jvm.ClassFile.FieldType), Jvm.Cond.code ({ cls := "java/lang/Object", name := "<init>", desc := "()V" } : Jvm.MethodName) object_method_1_code (1 : Nat) (Option.none : Option Jvm.ClassFile.FieldType), Jvm.Cond.code ({ cls := "com/example/tidemark/tidemark/policy/RateWindow", name := "add", desc := "([D)V" } : Jvm.MethodName) prog_39_method_4_code (7 : Nat) (Option.none : Option Jvm.ClassFile.FieldType), Jvm.Cond.code ({ cls := "com/example/tidemark/tidemark/policy/RateWindow", name := "rates", desc := "()[D" } : Jvm.MethodName) prog_39_method_6_code (3 : Nat) (Option.some (Jvm.ClassFile.FieldType.array Jvm.ClassFile.FieldType.double)), Jvm.Cond.code ({ cls := "com/example/tidemark/tidemark/policy/RateWindowRatesPinLaw", name := "at", desc := "([DIJ)Z" } : Jvm.MethodName) method_4_code (4 : Nat) (Option.some Jvm.ClassFile.FieldType.boolean)]
set_option maxRecDepth 65536 in
theorem codes_eq : words1.filter isCode = codes1 := rfl
theorem w_codes : ∀ c ∈ words1.filter isCode, c.before args0 about1 = true := by
  rw [codes_eq]
  intro c hc
  simp only [codes1, List.mem_cons, List.not_mem_nil, or_false] at hc
  rcases hc with rfl | rfl | rfl | rfl | rfl | rfl | rfl
  · exact w_c0
  · exact w_c1
  · exact w_c2
  · exact w_c3
  · exact w_c4
  · exact w_c5
  · exact w_c6
set_option maxRecDepth 65536 in
theorem w_t1 : (words1.take 24).all (fun c => isCode c || c.before args0 about1) = true := by decide +kernel
set_option maxRecDepth 65536 in
theorem w_t2 : (words1.drop 24).all (fun c => isCode c || c.before args0 about1) = true := by decide +kernel
theorem w_tables : (allAtoms (Jvm.Cond.code x code maxLocals ret :: tables_1)).before args0 about1 = true := by
  rw [allAtoms_all]
  show words1.all (fun c => c.before args0 about1) = true
  refine all_split ?_ w_codes
  rw [← List.take_append_drop 24 words1, List.all_append, w_t1, w_t2]
  rfl
set_option maxRecDepth 65536 in
theorem w_case : (Jvm.Cond.and given_1 narrow_1).before args0 about1 = true := by decide +kernel
theorem w_applies : (headSpec (Jvm.Cond.code x code maxLocals ret :: tables_1) room_1).applies x e0.platform about1 = true :=
  (Spec.applies_iff w_frames).mpr ⟨w_running, w_runnable, w_alone, w_named, w_hears, w_ripe, w_room, w_tables⟩
theorem atStart : AtStart classFile x code maxLocals ret World_1 tables_1 room_1 Calls_1 rest_1 Pre_1 launch0 p0 e0 about1 theMethod args0 below0 :=
  ⟨lists_1, trivial, launch0.admits_env _ _ _, launch0.least_env, fairChoices_fair.cas, fairChoices_fair.clock, w_frames, w_args, w_heap, w_applies, trivial, trivial, w_case⟩
end start1
theorem witness_1 : WitnessClaimed_1 := ⟨start1.p0, start1.e0, start1.about1, start1.theMethod, start1.args0, start1.below0, start1.atStart⟩
end Jvm.Pilot.@@N@@
