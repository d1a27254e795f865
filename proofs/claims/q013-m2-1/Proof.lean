import JvmDerived
import JvmDerived.Pilot.@@N@@Statement
import JvmDerived.Pilot.@@N@@Code
set_option linter.unusedVariables false
set_option linter.unusedSimpArgs false
namespace Jvm.Pilot.@@N@@
open Jvm Jvm.ClassFile Sem Op Lib Jvm.Free Jvm.Stand Jvm.LawKit Jvm.RoadKit Bundle Jvm.Pilot.@@N@@.Jvm.D
/-! own kit: a walk as a chain of "from here the run ends well" -/
section OwnKit
/-- from T with the frame g on top the run goes on and ends as Q says -/
def Own (p : Program) (e : Env) (below : List Frame) (s : State) (kc ks : Nat) (Q : Option Value → Heap → List Loc → Prop) (T : State) (g : JFrame) : Prop :=
  ∃ s₂ o, Steps p.tables e below (T.setTop g) s₂ ∧ s₂.status = .running ∧ Ended s₂ below o ∧ ∃ v L, o = .returned v ∧ Q v s₂.heap L ∧ FrameEnd s o s₂ L kc ks
variable {p : Program} {l : Launch} {e : Env} {R : Room} {s : State} {m : MethodId} {args : Array Value} {below : List Frame} {meth : Method} {c : Code} {T T' : State} {locs : List Loc} {cells slots kc ks : Nat} {Q : Option Value → Heap → List Loc → Prop}
/-- unlike addresses, hidden from omega -/
def own_ne (a b : Addr) : Prop := a ≠ b
theorem own_staK {Z : State} {h h' : Heap} {C n d : String} {v : Value} (F : Sta Z h C n d v) (K : Keep h h' []) : Sta Z h' C n d v := by
  obtain ⟨cf, i, k, f, st, cell, h1, h2, h3, h4, h5, r⟩ := F
  exact ⟨cf, i, k, f, st, cell, h1, h2, h3, h4, K.2.1 _ _ h5 (by simp), r⟩
theorem own_go {g g' : JFrame} (h : ∀ t, Steps p.tables e below (T'.setTop g') t → Steps p.tables e below (T.setTop g) t) (k : Own p e below s kc ks Q T' g') : Own p e below s kc ks Q T g := by
  obtain ⟨s₂, o, h1, r⟩ := k
  exact ⟨s₂, o, h _ h1, r⟩
theorem own_to (T' : State) (g' : JFrame) {g : JFrame} (h : ∀ t, Steps p.tables e below (T'.setTop g') t → Steps p.tables e below (T.setTop g) t) (k : Own p e below s kc ks Q T' g') : Own p e below s kc ks Q T g := own_go h k
theorem own_ret (X : Stand p l e R s m args below meth c T locs cells slots) (hx : p.tables.exec = Jvm.exec) {pc : Nat} {Ls : Array Slot} {w : Value} {t : FieldType} {i : Instr} {rest : List Value} (hret : meth.sig.returnType = some t) (hlk : meth.locks = false) (hn : narrow t w = w)
    (hi : (i = .ireturn ∧ (t = .int ∨ t = .boolean ∨ t = .byte ∨ t = .char ∨ t = .short) ∧ ∃ z, w = .int z) ∨ (i = .lreturn ∧ t = .long ∧ ∃ z, w = .long z) ∨ (i = .dreturn ∧ t = .double ∧ ∃ z, w = .double z) ∨ (i = .freturn ∧ t = .float ∧ ∃ z, w = .float z) ∨ (i = .areturn ∧ t.isReference = true ∧ w.isRef = true))
    (hd : decode c.code pc = .ok (i, 1)) (hc : cells ≤ kc) (hs : slots ≤ ks) (q : Q (some w) T.heap locs) : Own p e below s kc ks Q T (mkF m pc Ls (w :: rest)) := by
  obtain ⟨fs, hr, hrun, hended, hW, hsame⟩ := X.leave (v := some w) (fun h => by rw [hret] at h; cases h) hlk
  exact ⟨_, _, retOut X hx hret hn hi hd hr, hrun, hended, _, locs, rfl, q, ⟨_, rfl⟩, hW, hsame.mono hc hs⟩
theorem own_retI (X : Stand p l e R s m args below meth c T locs cells slots) (hx : p.tables.exec = Jvm.exec) {pc : Nat} {Ls : Array Slot} {z : Int32} {rest : List Value} (hret : meth.sig.returnType = some .int) (hlk : meth.locks = false)
    (hd : decode c.code pc = .ok (.ireturn, 1)) (hc : cells ≤ kc) (hs : slots ≤ ks) (q : Q (some (.int z)) T.heap locs) : Own p e below s kc ks Q T (mkF m pc Ls (.int z :: rest)) :=
  own_ret X hx hret hlk rfl (Or.inl ⟨rfl, Or.inl rfl, _, rfl⟩) hd hc hs q
theorem own_retZ (X : Stand p l e R s m args below meth c T locs cells slots) (hx : p.tables.exec = Jvm.exec) {pc : Nat} {Ls : Array Slot} {z : Int32} {rest : List Value} (hret : meth.sig.returnType = some .boolean) (hlk : meth.locks = false)
    (hd : decode c.code pc = .ok (.ireturn, 1)) (hc : cells ≤ kc) (hs : slots ≤ ks) (hz : z = 0 ∨ z = 1) (q : Q (some (.int z)) T.heap locs) : Own p e below s kc ks Q T (mkF m pc Ls (.int z :: rest)) :=
  own_ret X hx hret hlk (by rcases hz with rfl | rfl <;> rfl) (Or.inl ⟨rfl, Or.inr (Or.inl rfl), _, rfl⟩) hd hc hs q
theorem own_retC (X : Stand p l e R s m args below meth c T locs cells slots) (hx : p.tables.exec = Jvm.exec) {pc : Nat} {Ls : Array Slot} {z : Int32} {rest : List Value} (hret : meth.sig.returnType = some .char) (hlk : meth.locks = false)
    (hd : decode c.code pc = .ok (.ireturn, 1)) (hc : cells ≤ kc) (hs : slots ≤ ks) (hz : z.toUInt32.toUInt16.toUInt32.toInt32 = z) (q : Q (some (.int z)) T.heap locs) : Own p e below s kc ks Q T (mkF m pc Ls (.int z :: rest)) :=
  own_ret X hx hret hlk (congrArg Value.int hz) (Or.inl ⟨rfl, Or.inr (Or.inr (Or.inr (Or.inl rfl))), _, rfl⟩) hd hc hs q
theorem own_retJ (X : Stand p l e R s m args below meth c T locs cells slots) (hx : p.tables.exec = Jvm.exec) {pc : Nat} {Ls : Array Slot} {z : Int64} {rest : List Value} (hret : meth.sig.returnType = some .long) (hlk : meth.locks = false)
    (hd : decode c.code pc = .ok (.lreturn, 1)) (hc : cells ≤ kc) (hs : slots ≤ ks) (q : Q (some (.long z)) T.heap locs) : Own p e below s kc ks Q T (mkF m pc Ls (.long z :: rest)) :=
  own_ret X hx hret hlk rfl (Or.inr (Or.inl ⟨rfl, rfl, _, rfl⟩)) hd hc hs q
theorem own_retD (X : Stand p l e R s m args below meth c T locs cells slots) (hx : p.tables.exec = Jvm.exec) {pc : Nat} {Ls : Array Slot} {z : UInt64} {rest : List Value} (hret : meth.sig.returnType = some .double) (hlk : meth.locks = false)
    (hd : decode c.code pc = .ok (.dreturn, 1)) (hc : cells ≤ kc) (hs : slots ≤ ks) (q : Q (some (.double z)) T.heap locs) : Own p e below s kc ks Q T (mkF m pc Ls (.double z :: rest)) :=
  own_ret X hx hret hlk rfl (Or.inr (Or.inr (Or.inl ⟨rfl, rfl, _, rfl⟩))) hd hc hs q
theorem own_retA (X : Stand p l e R s m args below meth c T locs cells slots) (hx : p.tables.exec = Jvm.exec) {pc : Nat} {Ls : Array Slot} {w : Value} {t : FieldType} {rest : List Value} (hret : meth.sig.returnType = some t) (hlk : meth.locks = false)
    (ht : t.isReference = true) (hw : w.isRef = true) (hd : decode c.code pc = .ok (.areturn, 1)) (hc : cells ≤ kc) (hs : slots ≤ ks) (q : Q (some w) T.heap locs) : Own p e below s kc ks Q T (mkF m pc Ls (w :: rest)) :=
  own_ret X hx hret hlk (by cases t <;> cases w <;> first | rfl | (cases ht; done) | (cases hw; done)) (Or.inr (Or.inr (Or.inr (Or.inr ⟨rfl, ht, hw⟩)))) hd hc hs q
theorem own_retV (X : Stand p l e R s m args below meth c T locs cells slots) (hx : p.tables.exec = Jvm.exec) {pc : Nat} {Ls : Array Slot} (hret : meth.sig.returnType = none) (hlk : meth.locks = false)
    (hd : decode c.code pc = .ok (.return_, 1)) (hc : cells ≤ kc) (hs : slots ≤ ks) (q : Q none T.heap locs) : Own p e below s kc ks Q T (mkF m pc Ls []) := by
  obtain ⟨fs, hr, hrun, hended, hW, hsame⟩ := X.leave (v := none) (fun _ => rfl) hlk
  exact ⟨_, _, X.returnOut hx hret hd hr, hrun, hended, _, locs, rfl, q, ⟨_, rfl⟩, hW, hsame.mono hc hs⟩
/-- a body's contract out of its walk -/
theorem own_met {Z : State} {h0 : Heap} {y : MethodName} {bytes : ByteArray} {ml : Nat} {ret : Option FieldType} {ws : List Jvm.Cond} {rm : Room} {as' : Array Value} (hp : plainFor y = true)
    (body : ∀ (p : Program) (e : Env) (s : State) (m : MethodId) (below : List Frame) (meth : Method) (c : Code) (s₁ : State), Stand p l e rm s m as' below meth c s₁ [] 0 0 → p.tables.exec = Jvm.exec → c.code = bytes → c.maxLocals = ml → meth.sig.returnType = ret → meth.locks = false →
      s.vm.findClass y.cls = some m.cls → meth.name = y.name → Z.Warmed39 s.vm → s₁.heap = h0 → Own p e below s rm.cells rm.slots Q s₁ (entryFrame m as' ml)) :
    MetFree l y (head1 (Jvm.Cond.code y bytes ml ret :: ws) rm) (fun a U => a = as' ∧ Z.Warmed39 U.vm ∧ U.heap = h0) (fun _ _ _ _ _ => True) (fun _ U o U' => ∃ v L, o = .returned v ∧ Q v U'.heap L ∧ FrameEnd U o U' L rm.cells rm.slots) := by
  refine MetFree.of_bodySF hp hisR ?_
  intro p e s m args below meth c s₁ Bd hml0 hP hK
  obtain ⟨rfl, hZ, hh⟩ := hP
  exact body p e s m below meth c s₁ (Stand.of_body Bd) Bd.exec Bd.bytes hml0 Bd.returns Bd.notSynchronized (findClass_of_methodNamed Bd.named) (name_of_methodNamed Bd.named Bd.method).1 hZ (by rw [← hh, Bd.state]; rfl)
theorem own_entry {g g' : JFrame} (q : g = g') (k : Own p e below s kc ks Q T g') : Own p e below s kc ks Q T g := q ▸ k
theorem own_mvMN {Z s : State} {a0 args : Array Value} {own host : String} {index : Nat} {y : MethodName} (hZ : Z.Warmed39 s.vm) (w : (Jvm.Cond.methodLinkNest own index y host).before a0 Z = true) : (Jvm.Cond.methodLinkNest own index y host).before args s = true := (Jvm.Cond.methodLinkNest_wide hZ w :)
theorem own_w {Z : State} {a0 : Array Value} (hw : ∀ d ∈ tables_1, d.before a0 Z = true) (i : Nat) {d : Jvm.Cond} (h : tables_1[i]? = some d) : d.before a0 Z = true := hw _ (List.mem_of_getElem? h)
end OwnKit
def own_pk (x n : Nat) : Int64 := Int64.ofNat (x * 4294967296 + n)
def own_sh (q : Int64) : Int32 := (((q.toUInt64 >>> ((32 : Int32) &&& 0x3f).toInt64.toUInt64).toInt64).toInt32)
theorem own_num {x n : Nat} (hx : x < 24) (hn : n < 128) : ((((Int32.ofNat x) + (1 : Int32)).toInt64) <<< ((32 : Int32) &&& 0x3f).toInt64) ||| ((((0 : Int32) ||| (((Int32.ofNat n) &&& (127 : Int32)) <<< ((0 : Int32) &&& 31))).toInt64) &&& (4294967295 : Int64)) = own_pk (x + 1) n := by
  have key : ∀ x : Fin 24, ∀ n : Fin 128, ((((Int32.ofNat x) + (1 : Int32)).toInt64) <<< ((32 : Int32) &&& 0x3f).toInt64) ||| ((((0 : Int32) ||| (((Int32.ofNat n) &&& (127 : Int32)) <<< ((0 : Int32) &&& 31))).toInt64) &&& (4294967295 : Int64)) = own_pk (x + 1) n := by decide +kernel
  exact key ⟨x, hx⟩ ⟨n, hn⟩
theorem own_start {x n : Nat} (hx : x < 32) (hn : n < 128) : (((own_pk x n).toUInt64 >>> ((32 : Int32) &&& 0x3f).toInt64.toUInt64).toInt64).toInt32 = Int32.ofNat x := by
  have key : ∀ x : Fin 32, ∀ n : Fin 128, (((own_pk x n).toUInt64 >>> ((32 : Int32) &&& 0x3f).toInt64.toUInt64).toInt64).toInt32 = Int32.ofNat x := by decide +kernel
  exact key ⟨x, hx⟩ ⟨n, hn⟩
theorem own_len {x n : Nat} (hx : x < 32) (hn : n < 128) : (own_pk x n).toInt32 = Int32.ofNat n := by
  have key : ∀ x : Fin 32, ∀ n : Fin 128, (own_pk x n).toInt32 = Int32.ofNat n := by decide +kernel
  exact key ⟨x, hx⟩ ⟨n, hn⟩
theorem own_lo {x n : Nat} (hx : x < 32) (hn : n < 128) : (((own_pk x n).toUInt64 >>> ((32 : Int32) &&& 0x3f).toInt64.toUInt64).toInt64) <<< ((32 : Int32) &&& 0x3f).toInt64 = own_pk x 0 := by
  have key : ∀ x : Fin 32, ∀ n : Fin 128, (((own_pk x n).toUInt64 >>> ((32 : Int32) &&& 0x3f).toInt64.toUInt64).toInt64) <<< ((32 : Int32) &&& 0x3f).toInt64 = own_pk x 0 := by decide +kernel
  exact key ⟨x, hx⟩ ⟨n, hn⟩
theorem own_plus {x n : Nat} (hx : x < 32) (hn : n < 128) : own_pk x n + (((Int32.ofNat 2).toInt64) <<< ((32 : Int32) &&& 0x3f).toInt64) = own_pk (x + 2) n := by
  have key : ∀ x : Fin 32, ∀ n : Fin 128, own_pk x n + (((Int32.ofNat 2).toInt64) <<< ((32 : Int32) &&& 0x3f).toInt64) = own_pk (x + 2) n := by decide +kernel
  exact key ⟨x, hx⟩ ⟨n, hn⟩
theorem own_bits : ∀ n : Fin 512, (((((Int32.ofNat n).toInt8.toInt32).toInt8.toInt32 &&& ((1 : Int32) <<< (((7 : Int32) &&& (7 : Int32)) &&& 31))) = 0 ↔ ((((Int32.ofNat n).toUInt32 >>> ((7 : Int32) &&& 31).toUInt32).toInt32) &&& (1 : Int32)) = 0) ∧ (((((((Int32.ofNat n).toUInt32 >>> ((8 : Int32) &&& 31).toUInt32).toInt32).toInt8.toInt32).toInt8.toInt32) &&& ((1 : Int32) <<< (((8 : Int32) &&& (7 : Int32)) &&& 31))) = 0 ↔ ((((Int32.ofNat n).toUInt32 >>> ((8 : Int32) &&& 31).toUInt32).toInt32) &&& (1 : Int32)) = 0)) := by decide +kernel
def own_upd (f : Nat → Int32) (i : Nat) (x : Int32) : Nat → Int32 := fun j => if j = i then x else f j
def BArr (Z : State) (h : Heap) (a : Addr) (n : Nat) (f : Nat → Int32) : Prop := ∃ c : Cell, Arr Z h a c .byte ∧ c.slots.size = n ∧ ∀ i, i < n → c.slots[i]? = some (.int (f i))
theorem BArr.lt {Z : State} {h : Heap} {a : Addr} {n : Nat} {f : Nat → Int32} (F : BArr Z h a n f) : a < h.size := by obtain ⟨c, A, -⟩ := F; exact A.lt
theorem BArr.ext {Z : State} {h h' : Heap} {a : Addr} {n : Nat} {f : Nat → Int32} (F : BArr Z h a n f) (E : Ext h h') : BArr Z h' a n f := by obtain ⟨c, A, r⟩ := F; exact ⟨c, A.ext E, r⟩
theorem BArr.other {Z : State} {h h' : Heap} {a : Addr} {n : Nat} {f : Nat → Int32} {b : Addr} {sl : Nat} {v : Value} (F : BArr Z h b n f) (W : Wr h h' a sl v) (q : b ≠ a) : BArr Z h' b n f := by obtain ⟨c, A, r⟩ := F; exact ⟨c, A.other W q, r⟩
theorem BArr.keep {Z : State} {h h' : Heap} {a : Addr} {n : Nat} {f : Nat → Int32} {ws : List Addr} (F : BArr Z h a n f) (K : Keep h h' ws) (q : a ∉ ws) : BArr Z h' a n f := by obtain ⟨c, A, r⟩ := F; exact ⟨c, ⟨K.2.1 a c A.1 q, A.2⟩, r⟩
theorem BArr.new {Z : State} {h : Heap} {a : Addr} {k : ClassId} {z : Int32} {n : Nat} (A : Arr Z h a (newA k .byte z) .byte) (hz : z.toNatClampNeg = n) : BArr Z h a n (fun _ => 0) := by
  refine ⟨_, A, (sz_new _ _ _).trans hz, fun i hi => ?_⟩
  subst hz
  simp only [newA, Array.getElem?_replicate, if_pos hi]
  rfl
theorem BArr.set {Z : State} {h h' : Heap} {a : Addr} {n : Nat} {f : Nat → Int32} {c : Cell} {j : Int32} {x : Int32} (A : Arr Z h a c .byte) (hs : c.slots.size = n) (hat : ∀ i, i < n → c.slots[i]? = some (.int (f i))) (W : Wr h h' a j.toNatClampNeg (.int (nar .byte x))) {i : Nat} (hj : j.toNatClampNeg = i) : BArr Z h' a n (own_upd f i (x.toInt8.toInt32)) := by
  subst hj
  refine ⟨_, A.same W, (sz_set _ _ _).trans hs, fun i hi => ?_⟩
  simp only [Cell.setSlot, Array.getElem?_setIfInBounds, own_upd]
  by_cases q : j.toNatClampNeg = i
  · subst q
    rw [if_pos rfl, if_pos (by rw [hs]; exact hi), if_pos rfl]
    first | rfl | done
  · rw [if_neg q, if_neg (fun z => q z.symm)]
    exact hat i hi
theorem BArr.eq {Z : State} {h : Heap} {a : Addr} {n : Nat} {f : Nat → Int32} {g : Nat → Int32} (F : BArr Z h a n f) (q : f = g) : BArr Z h a n g := q ▸ F
theorem own_isT {x n : Nat} (hx : x < 32) (hn : n < 128) : ((own_pk x n).toInt32 &&& (1 : Int32)) = Int32.ofNat (n % 2) := by
  rw [own_len hx hn]
  have key : ∀ n : Fin 128, (Int32.ofNat n &&& (1 : Int32)) = Int32.ofNat (n % 2) := by decide +kernel
  exact key ⟨n, hn⟩
theorem own_hasL {x n : Nat} (hx : x < 32) (hn : n < 128) : ((own_pk x n).toInt32 &&& (2 : Int32)) = Int32.ofNat (n / 2 % 2 * 2) := by
  rw [own_len hx hn]
  have key : ∀ n : Fin 128, (Int32.ofNat n &&& (2 : Int32)) = Int32.ofNat (n / 2 % 2 * 2) := by decide +kernel
  exact key ⟨n, hn⟩
theorem own_fields {x n : Nat} (hx : x < 32) (hn : n < 128) : (((own_pk x n).toInt32.toUInt32 >>> ((2 : Int32) &&& 31).toUInt32).toInt32) = Int32.ofNat (n / 4) := by
  rw [own_len hx hn]
  have key : ∀ n : Fin 128, (((Int32.ofNat n).toUInt32 >>> ((2 : Int32) &&& 31).toUInt32).toInt32) = Int32.ofNat (n / 4) := by decide +kernel
  exact key ⟨n, hn⟩
theorem own_litb {n : Nat} (hn : n < 128) : (((Int32.ofNat n + (7 : Int32)).toUInt32 >>> ((3 : Int32) &&& 31).toUInt32).toInt32) = Int32.ofNat ((n + 7) / 8) := by
  have key : ∀ n : Fin 128, (((Int32.ofNat n + (7 : Int32)).toUInt32 >>> ((3 : Int32) &&& 31).toUInt32).toInt32) = Int32.ofNat ((n + 7) / 8) := by decide +kernel
  exact key ⟨n, hn⟩
theorem own_nonneg {n : Nat} (hn : n < 128) : ¬ Int32.ofNat n < (0 : Int32) := by
  rw [Int32.lt_iff_toInt_lt, toInt_of rfl (by omega)]
  have z : (0 : Int32).toInt = 0 := by decide
  omega
theorem own_addn (a b : Nat) (ha : a < 1000) (hb : b < 1000) : Int32.ofNat a + Int32.ofNat b = Int32.ofNat (a + b) := by
  rw [← Int32.toInt_inj, toInt_of (n := Int32.ofNat (a + b)) rfl (by omega)]
  have q := c_iadd (Int32.ofNat a) (Int32.ofNat b)
  rw [toInt_of (n := Int32.ofNat a) rfl (by omega), toInt_of (n := Int32.ofNat b) rfl (by omega)] at q
  have r := rng32 (Int32.ofNat a + Int32.ofNat b)
  omega
theorem own_subn (a b : Nat) (h : b ≤ a) (ha : a < 1000) : Int32.ofNat a - Int32.ofNat b = Int32.ofNat (a - b) := by
  rw [← Int32.toInt_inj, toInt_of (n := Int32.ofNat (a - b)) rfl (by omega)]
  have q := c_isub (Int32.ofNat a) (Int32.ofNat b)
  rw [toInt_of (n := Int32.ofNat a) rfl (by omega), toInt_of (n := Int32.ofNat b) rfl (by omega)] at q
  have r := rng32 (Int32.ofNat a - Int32.ofNat b)
  omega
theorem own_ltn {a b : Nat} (ha : a < 1000) (hb : b < 1000) : Int32.ofNat a < Int32.ofNat b ↔ a < b := by
  rw [Int32.lt_iff_toInt_lt, toInt_of (n := Int32.ofNat a) rfl (by omega), toInt_of (n := Int32.ofNat b) rfl (by omega)]
  omega
theorem own_eqn {a b : Nat} (ha : a < 1000) (hb : b < 1000) : Int32.ofNat a = Int32.ofNat b ↔ a = b := by
  rw [← Int32.toInt_inj, toInt_of (n := Int32.ofNat a) rfl (by omega), toInt_of (n := Int32.ofNat b) rfl (by omega)]
  omega
theorem d8_0 : decode prog_99_method_13_code 0 = .ok (.lload_n 0, 1) := by decide +kernel
theorem d8_1 : decode prog_99_method_13_code 1 = .ok (.bipush 32, 2) := by decide +kernel
theorem d8_3 : decode prog_99_method_13_code 3 = .ok (.lushr, 1) := by decide +kernel
theorem d8_4 : decode prog_99_method_13_code 4 = .ok (.l2i, 1) := by decide +kernel
theorem d8_5 : decode prog_99_method_13_code 5 = .ok (.ireturn, 1) := by decide +kernel
theorem pn_8 : plainName "com/example/warmjoin/warmjoin/PackedFields" = true := by first | (simp [plainName, overriddenIn]; done) | decide +kernel
theorem ef_8_J (m : MethodId) (x0 : Int64) : entryFrame m #[(.long x0)] 2 = mkF m 0 #[.val (.long x0), .second] [] := by first | (simp [entryFrame, mkF, argsToLocals, Value.category]; done) | rfl
def Q_rm_start (Z : State) (x n : Nat) (h0 : Heap) (n0 : Nat) (v : Option Value) (h : Heap) (L : List Loc) : Prop := v = some (.int (Int32.ofNat x)) ∧ Fr n0 L ∧ h = h0
set_option maxRecDepth 65536 in
set_option maxHeartbeats 40000000 in
theorem rm_start (l : Launch) (Z : State) (a0 : Array Value) (hw : ∀ d ∈ tables_1, d.before a0 Z = true) (ws : List Jvm.Cond) (x n : Nat) (h0 : Heap) (n0 : Nat) (Z0 : n0 ≤ h0.size) (hx' : x < 32) (hn' : n < 128) :
    MetFree l (⟨"com/example/warmjoin/warmjoin/PackedFields", "start", "(J)I"⟩ : MethodName) (head1 (Jvm.Cond.code (⟨"com/example/warmjoin/warmjoin/PackedFields", "start", "(J)I"⟩ : MethodName) prog_99_method_13_code 2 (some .int) :: ws) ({ frames := 0, cells := 0, slots := 0, locals := 0 } : Room)) (fun a U => a = #[(.long (own_pk x n))] ∧ Z.Warmed39 U.vm ∧ U.heap = h0) (fun _ _ _ _ _ => True) (fun _ U o U' => ∃ v L, o = .returned v ∧ Q_rm_start Z x n h0 n0 v U'.heap L ∧ FrameEnd U o U' L ({ frames := 0, cells := 0, slots := 0, locals := 0 } : Room).cells ({ frames := 0, cells := 0, slots := 0, locals := 0 } : Room).slots) := by
  refine own_met (y := (⟨"com/example/warmjoin/warmjoin/PackedFields", "start", "(J)I"⟩ : MethodName)) (Q := (Q_rm_start Z x n h0 n0)) (plainFor_of_name pn_8) fun p e s m below meth c s₁ X0 hx hby hml hret hlk hown hnm hZ e0 => ?_
  refine own_entry (ef_8_J m (own_pk x n)) ?_
  refine own_to s₁ (mkF m 5 #[.val (.long (own_pk x n)), .second] [(.int ((((own_pk x n).toUInt64 >>> ((32 : Int32) &&& 0x3f).toInt64.toUInt64).toInt64).toInt32))]) (fun tq kq => XS.lloadN X0.here hx rfl (hb hby d8_0) rfl (XS.bipush X0.here hx rfl (hb hby d8_1) (XS.lushr X0.here hx rfl (hb hby d8_3) rfl (XS.l2i X0.here hx rfl (hb hby d8_4) rfl kq)))) ?_
  exact own_retI X0 hx hret hlk (hb hby d8_5) (by decide) (by decide) ⟨congrArg (fun z => some (Value.int z)) (own_start hx' hn'), (Fr.nil n0), e0⟩
theorem d11_0 : decode prog_99_method_14_code 0 = .ok (.lload_n 0, 1) := by decide +kernel
theorem d11_1 : decode prog_99_method_14_code 1 = .ok (.l2i, 1) := by decide +kernel
theorem d11_2 : decode prog_99_method_14_code 2 = .ok (.ireturn, 1) := by decide +kernel
theorem ef_11_J (m : MethodId) (x0 : Int64) : entryFrame m #[(.long x0)] 2 = mkF m 0 #[.val (.long x0), .second] [] := by first | (simp [entryFrame, mkF, argsToLocals, Value.category]; done) | rfl
def Q_rm_length (Z : State) (x n : Nat) (h0 : Heap) (n0 : Nat) (v : Option Value) (h : Heap) (L : List Loc) : Prop := v = some (.int (Int32.ofNat n)) ∧ Fr n0 L ∧ h = h0
set_option maxRecDepth 65536 in
set_option maxHeartbeats 40000000 in
theorem rm_length (l : Launch) (Z : State) (a0 : Array Value) (hw : ∀ d ∈ tables_1, d.before a0 Z = true) (ws : List Jvm.Cond) (x n : Nat) (h0 : Heap) (n0 : Nat) (Z0 : n0 ≤ h0.size) (hx' : x < 32) (hn' : n < 128) :
    MetFree l (⟨"com/example/warmjoin/warmjoin/PackedFields", "length", "(J)I"⟩ : MethodName) (head1 (Jvm.Cond.code (⟨"com/example/warmjoin/warmjoin/PackedFields", "length", "(J)I"⟩ : MethodName) prog_99_method_14_code 2 (some .int) :: ws) ({ frames := 0, cells := 0, slots := 0, locals := 0 } : Room)) (fun a U => a = #[(.long (own_pk x n))] ∧ Z.Warmed39 U.vm ∧ U.heap = h0) (fun _ _ _ _ _ => True) (fun _ U o U' => ∃ v L, o = .returned v ∧ Q_rm_length Z x n h0 n0 v U'.heap L ∧ FrameEnd U o U' L ({ frames := 0, cells := 0, slots := 0, locals := 0 } : Room).cells ({ frames := 0, cells := 0, slots := 0, locals := 0 } : Room).slots) := by
  refine own_met (y := (⟨"com/example/warmjoin/warmjoin/PackedFields", "length", "(J)I"⟩ : MethodName)) (Q := (Q_rm_length Z x n h0 n0)) (plainFor_of_name pn_8) fun p e s m below meth c s₁ X0 hx hby hml hret hlk hown hnm hZ e0 => ?_
  refine own_entry (ef_11_J m (own_pk x n)) ?_
  refine own_to s₁ (mkF m 2 #[.val (.long (own_pk x n)), .second] [(.int ((own_pk x n).toInt32))]) (fun tq kq => XS.lloadN X0.here hx rfl (hb hby d11_0) rfl (XS.l2i X0.here hx rfl (hb hby d11_1) rfl kq)) ?_
  exact own_retI X0 hx hret hlk (hb hby d11_2) (by decide) (by decide) ⟨congrArg (fun z => some (Value.int z)) (own_len hx' hn'), (Fr.nil n0), e0⟩
theorem d10_0 : decode prog_99_method_22_code 0 = .ok (.lload_n 0, 1) := by decide +kernel
theorem d10_1 : decode prog_99_method_22_code 1 = .ok (.l2i, 1) := by decide +kernel
theorem d10_2 : decode prog_99_method_22_code 2 = .ok (.iconst 2, 1) := by decide +kernel
theorem d10_3 : decode prog_99_method_22_code 3 = .ok (.iushr, 1) := by decide +kernel
theorem d10_4 : decode prog_99_method_22_code 4 = .ok (.ireturn, 1) := by decide +kernel
theorem ef_10_J (m : MethodId) (x0 : Int64) : entryFrame m #[(.long x0)] 2 = mkF m 0 #[.val (.long x0), .second] [] := by first | (simp [entryFrame, mkF, argsToLocals, Value.category]; done) | rfl
def Q_rm_fieldsOf (Z : State) (x n : Nat) (h0 : Heap) (n0 : Nat) (v : Option Value) (h : Heap) (L : List Loc) : Prop := v = some (.int (Int32.ofNat (n / 4))) ∧ Fr n0 L ∧ h = h0
set_option maxRecDepth 65536 in
set_option maxHeartbeats 40000000 in
theorem rm_fieldsOf (l : Launch) (Z : State) (a0 : Array Value) (hw : ∀ d ∈ tables_1, d.before a0 Z = true) (ws : List Jvm.Cond) (x n : Nat) (h0 : Heap) (n0 : Nat) (Z0 : n0 ≤ h0.size) (hx' : x < 32) (hn' : n < 128) :
    MetFree l (⟨"com/example/warmjoin/warmjoin/PackedFields", "fieldsOf", "(J)I"⟩ : MethodName) (head1 (Jvm.Cond.code (⟨"com/example/warmjoin/warmjoin/PackedFields", "fieldsOf", "(J)I"⟩ : MethodName) prog_99_method_22_code 2 (some .int) :: ws) ({ frames := 0, cells := 0, slots := 0, locals := 0 } : Room)) (fun a U => a = #[(.long (own_pk x n))] ∧ Z.Warmed39 U.vm ∧ U.heap = h0) (fun _ _ _ _ _ => True) (fun _ U o U' => ∃ v L, o = .returned v ∧ Q_rm_fieldsOf Z x n h0 n0 v U'.heap L ∧ FrameEnd U o U' L ({ frames := 0, cells := 0, slots := 0, locals := 0 } : Room).cells ({ frames := 0, cells := 0, slots := 0, locals := 0 } : Room).slots) := by
  refine own_met (y := (⟨"com/example/warmjoin/warmjoin/PackedFields", "fieldsOf", "(J)I"⟩ : MethodName)) (Q := (Q_rm_fieldsOf Z x n h0 n0)) (plainFor_of_name pn_8) fun p e s m below meth c s₁ X0 hx hby hml hret hlk hown hnm hZ e0 => ?_
  refine own_entry (ef_10_J m (own_pk x n)) ?_
  refine own_to s₁ (mkF m 4 #[.val (.long (own_pk x n)), .second] [(.int ((((own_pk x n).toInt32).toUInt32 >>> ((2 : Int32) &&& 31).toUInt32).toInt32))]) (fun tq kq => XS.lloadN X0.here hx rfl (hb hby d10_0) rfl (XS.l2i X0.here hx rfl (hb hby d10_1) rfl (XS.iconst X0.here hx rfl (hb hby d10_2) (XS.iushr X0.here hx rfl (hb hby d10_3) rfl kq)))) ?_
  exact own_retI X0 hx hret hlk (hb hby d10_4) (by decide) (by decide) ⟨congrArg (fun z => some (Value.int z)) (own_fields hx' hn'), (Fr.nil n0), e0⟩
theorem d14_0 : decode prog_99_method_23_code 0 = .ok (.iload_n 0, 1) := by decide +kernel
theorem d14_1 : decode prog_99_method_23_code 1 = .ok (.bipush 7, 2) := by decide +kernel
theorem d14_3 : decode prog_99_method_23_code 3 = .ok (.iadd, 1) := by decide +kernel
theorem d14_4 : decode prog_99_method_23_code 4 = .ok (.iconst 3, 1) := by decide +kernel
theorem d14_5 : decode prog_99_method_23_code 5 = .ok (.iushr, 1) := by decide +kernel
theorem d14_6 : decode prog_99_method_23_code 6 = .ok (.ireturn, 1) := by decide +kernel
theorem ef_14_I (m : MethodId) (x0 : Int32) : entryFrame m #[(.int x0)] 1 = mkF m 0 #[.val (.int x0)] [] := by first | (simp [entryFrame, mkF, argsToLocals, Value.category]; done) | rfl
def Q_rm_literalBytes (Z : State) (n : Nat) (h0 : Heap) (n0 : Nat) (v : Option Value) (h : Heap) (L : List Loc) : Prop := v = some (.int (Int32.ofNat ((n + 7) / 8))) ∧ Fr n0 L ∧ h = h0
set_option maxRecDepth 65536 in
set_option maxHeartbeats 40000000 in
theorem rm_literalBytes (l : Launch) (Z : State) (a0 : Array Value) (hw : ∀ d ∈ tables_1, d.before a0 Z = true) (ws : List Jvm.Cond) (n : Nat) (h0 : Heap) (n0 : Nat) (Z0 : n0 ≤ h0.size) (hn' : n < 128) :
    MetFree l (⟨"com/example/warmjoin/warmjoin/PackedFields", "literalBytes", "(I)I"⟩ : MethodName) (head1 (Jvm.Cond.code (⟨"com/example/warmjoin/warmjoin/PackedFields", "literalBytes", "(I)I"⟩ : MethodName) prog_99_method_23_code 1 (some .int) :: ws) ({ frames := 0, cells := 0, slots := 0, locals := 0 } : Room)) (fun a U => a = #[(.int (Int32.ofNat n))] ∧ Z.Warmed39 U.vm ∧ U.heap = h0) (fun _ _ _ _ _ => True) (fun _ U o U' => ∃ v L, o = .returned v ∧ Q_rm_literalBytes Z n h0 n0 v U'.heap L ∧ FrameEnd U o U' L ({ frames := 0, cells := 0, slots := 0, locals := 0 } : Room).cells ({ frames := 0, cells := 0, slots := 0, locals := 0 } : Room).slots) := by
  refine own_met (y := (⟨"com/example/warmjoin/warmjoin/PackedFields", "literalBytes", "(I)I"⟩ : MethodName)) (Q := (Q_rm_literalBytes Z n h0 n0)) (plainFor_of_name pn_8) fun p e s m below meth c s₁ X0 hx hby hml hret hlk hown hnm hZ e0 => ?_
  refine own_entry (ef_14_I m (Int32.ofNat n)) ?_
  refine own_to s₁ (mkF m 6 #[.val (.int (Int32.ofNat n))] [(.int ((((Int32.ofNat n) + (7 : Int32)).toUInt32 >>> ((3 : Int32) &&& 31).toUInt32).toInt32))]) (fun tq kq => XS.iloadN X0.here hx rfl (hb hby d14_0) rfl (XS.bipush X0.here hx rfl (hb hby d14_1) (XS.iadd X0.here hx rfl (hb hby d14_3) rfl (XS.iconst X0.here hx rfl (hb hby d14_4) (XS.iushr X0.here hx rfl (hb hby d14_5) rfl kq))))) ?_
  exact own_retI X0 hx hret hlk (hb hby d14_6) (by decide) (by decide) ⟨congrArg (fun z => some (Value.int z)) (own_litb hn'), (Fr.nil n0), e0⟩
theorem d7_0 : decode prog_99_method_20_code 0 = .ok (.lload_n 0, 1) := by decide +kernel
theorem d7_1 : decode prog_99_method_20_code 1 = .ok (.l2i, 1) := by decide +kernel
theorem d7_2 : decode prog_99_method_20_code 2 = .ok (.iconst 1, 1) := by decide +kernel
theorem d7_3 : decode prog_99_method_20_code 3 = .ok (.iand, 1) := by decide +kernel
theorem d7_4 : decode prog_99_method_20_code 4 = .ok (.ifCond .eq 7, 3) := by decide +kernel
theorem d7_7 : decode prog_99_method_20_code 7 = .ok (.iconst 1, 1) := by decide +kernel
theorem d7_8 : decode prog_99_method_20_code 8 = .ok (.goto 4, 3) := by decide +kernel
theorem d7_11 : decode prog_99_method_20_code 11 = .ok (.iconst 0, 1) := by decide +kernel
theorem d7_12 : decode prog_99_method_20_code 12 = .ok (.ireturn, 1) := by decide +kernel
theorem ef_7_J (m : MethodId) (x0 : Int64) : entryFrame m #[(.long x0)] 2 = mkF m 0 #[.val (.long x0), .second] [] := by first | (simp [entryFrame, mkF, argsToLocals, Value.category]; done) | rfl
def Q_rm_isText (Z : State) (x n : Nat) (h0 : Heap) (n0 : Nat) (v : Option Value) (h : Heap) (L : List Loc) : Prop := v = some (.int (Int32.ofNat (n % 2))) ∧ Fr n0 L ∧ h = h0
set_option maxRecDepth 65536 in
set_option maxHeartbeats 40000000 in
theorem rm_isText (l : Launch) (Z : State) (a0 : Array Value) (hw : ∀ d ∈ tables_1, d.before a0 Z = true) (ws : List Jvm.Cond) (x n : Nat) (h0 : Heap) (n0 : Nat) (Z0 : n0 ≤ h0.size) (hx' : x < 32) (hn' : n < 128) :
    MetFree l (⟨"com/example/warmjoin/warmjoin/PackedFields", "isText", "(J)Z"⟩ : MethodName) (head1 (Jvm.Cond.code (⟨"com/example/warmjoin/warmjoin/PackedFields", "isText", "(J)Z"⟩ : MethodName) prog_99_method_20_code 2 (some .boolean) :: ws) ({ frames := 0, cells := 0, slots := 0, locals := 0 } : Room)) (fun a U => a = #[(.long (own_pk x n))] ∧ Z.Warmed39 U.vm ∧ U.heap = h0) (fun _ _ _ _ _ => True) (fun _ U o U' => ∃ v L, o = .returned v ∧ Q_rm_isText Z x n h0 n0 v U'.heap L ∧ FrameEnd U o U' L ({ frames := 0, cells := 0, slots := 0, locals := 0 } : Room).cells ({ frames := 0, cells := 0, slots := 0, locals := 0 } : Room).slots) := by
  refine own_met (y := (⟨"com/example/warmjoin/warmjoin/PackedFields", "isText", "(J)Z"⟩ : MethodName)) (Q := (Q_rm_isText Z x n h0 n0)) (plainFor_of_name pn_8) fun p e s m below meth c s₁ X0 hx hby hml hret hlk hown hnm hZ e0 => ?_
  refine own_entry (ef_7_J m (own_pk x n)) ?_
  refine own_to s₁ (mkF m 4 #[.val (.long (own_pk x n)), .second] [(.int (((own_pk x n).toInt32) &&& (1 : Int32)))]) (fun tq kq => XS.lloadN X0.here hx rfl (hb hby d7_0) rfl (XS.l2i X0.here hx rfl (hb hby d7_1) rfl (XS.iconst X0.here hx rfl (hb hby d7_2) (XS.iand X0.here hx rfl (hb hby d7_3) rfl kq)))) ?_
  by_cases c4 : (((own_pk x n).toInt32) &&& (1 : Int32)) = (0 : Int32)
  · skip
    refine own_to s₁ (mkF m 12 #[.val (.long (own_pk x n)), .second] [(.int (0 : Int32))]) (fun tq kq => XS.ifYes X0.here hx rfl (pc0 := 4) (pc' := 11) rfl (hb hby d7_4) rfl ((if0 _ _).trans (teq c4).1) (by decide) (by decide) (XS.iconst X0.here hx rfl (hb hby d7_11) kq)) ?_
    exact own_retZ X0 hx hret hlk (hb hby d7_12) (by decide) (by decide) (Or.inl rfl) ⟨congrArg (fun z => some (Value.int z)) (show (0 : Int32) = Int32.ofNat (n % 2) from by rw [own_isT hx' hn'] at c4; have q := (own_eqn (by omega) (by decide)).mp (c4.trans (show (0 : Int32) = Int32.ofNat 0 from rfl)); rw [show n % 2 = 0 by omega]; rfl), (Fr.nil n0), e0⟩
  · skip
    refine own_to s₁ (mkF m 12 #[.val (.long (own_pk x n)), .second] [(.int (1 : Int32))]) (fun tq kq => XS.ifNo X0.here hx rfl (hb hby d7_4) rfl ((if0 _ _).trans (feq c4).1) (XS.iconst X0.here hx rfl (hb hby d7_7) (XS.goto X0.here hx rfl (pc0 := 8) (pc' := 12) rfl (hb hby d7_8) (by decide) (by decide) kq))) ?_
    exact own_retZ X0 hx hret hlk (hb hby d7_12) (by decide) (by decide) (Or.inr rfl) ⟨congrArg (fun z => some (Value.int z)) (show (1 : Int32) = Int32.ofNat (n % 2) from by rw [own_isT hx' hn'] at c4; have q : ¬ (n % 2 = 0) := fun z => c4 (by rw [show n % 2 = 0 by omega]; rfl); rw [show n % 2 = 1 by omega]; rfl), (Fr.nil n0), e0⟩
theorem d9_0 : decode prog_99_method_21_code 0 = .ok (.lload_n 0, 1) := by decide +kernel
theorem d9_1 : decode prog_99_method_21_code 1 = .ok (.l2i, 1) := by decide +kernel
theorem d9_2 : decode prog_99_method_21_code 2 = .ok (.iconst 2, 1) := by decide +kernel
theorem d9_3 : decode prog_99_method_21_code 3 = .ok (.iand, 1) := by decide +kernel
theorem d9_4 : decode prog_99_method_21_code 4 = .ok (.ifCond .eq 7, 3) := by decide +kernel
theorem d9_7 : decode prog_99_method_21_code 7 = .ok (.iconst 1, 1) := by decide +kernel
theorem d9_8 : decode prog_99_method_21_code 8 = .ok (.goto 4, 3) := by decide +kernel
theorem d9_11 : decode prog_99_method_21_code 11 = .ok (.iconst 0, 1) := by decide +kernel
theorem d9_12 : decode prog_99_method_21_code 12 = .ok (.ireturn, 1) := by decide +kernel
theorem ef_9_J (m : MethodId) (x0 : Int64) : entryFrame m #[(.long x0)] 2 = mkF m 0 #[.val (.long x0), .second] [] := by first | (simp [entryFrame, mkF, argsToLocals, Value.category]; done) | rfl
def Q_rm_hasLiterals (Z : State) (x n : Nat) (h0 : Heap) (n0 : Nat) (v : Option Value) (h : Heap) (L : List Loc) : Prop := v = some (.int (Int32.ofNat (n / 2 % 2))) ∧ Fr n0 L ∧ h = h0
set_option maxRecDepth 65536 in
set_option maxHeartbeats 40000000 in
theorem rm_hasLiterals (l : Launch) (Z : State) (a0 : Array Value) (hw : ∀ d ∈ tables_1, d.before a0 Z = true) (ws : List Jvm.Cond) (x n : Nat) (h0 : Heap) (n0 : Nat) (Z0 : n0 ≤ h0.size) (hx' : x < 32) (hn' : n < 128) :
    MetFree l (⟨"com/example/warmjoin/warmjoin/PackedFields", "hasLiterals", "(J)Z"⟩ : MethodName) (head1 (Jvm.Cond.code (⟨"com/example/warmjoin/warmjoin/PackedFields", "hasLiterals", "(J)Z"⟩ : MethodName) prog_99_method_21_code 2 (some .boolean) :: ws) ({ frames := 0, cells := 0, slots := 0, locals := 0 } : Room)) (fun a U => a = #[(.long (own_pk x n))] ∧ Z.Warmed39 U.vm ∧ U.heap = h0) (fun _ _ _ _ _ => True) (fun _ U o U' => ∃ v L, o = .returned v ∧ Q_rm_hasLiterals Z x n h0 n0 v U'.heap L ∧ FrameEnd U o U' L ({ frames := 0, cells := 0, slots := 0, locals := 0 } : Room).cells ({ frames := 0, cells := 0, slots := 0, locals := 0 } : Room).slots) := by
  refine own_met (y := (⟨"com/example/warmjoin/warmjoin/PackedFields", "hasLiterals", "(J)Z"⟩ : MethodName)) (Q := (Q_rm_hasLiterals Z x n h0 n0)) (plainFor_of_name pn_8) fun p e s m below meth c s₁ X0 hx hby hml hret hlk hown hnm hZ e0 => ?_
  refine own_entry (ef_9_J m (own_pk x n)) ?_
  refine own_to s₁ (mkF m 4 #[.val (.long (own_pk x n)), .second] [(.int (((own_pk x n).toInt32) &&& (2 : Int32)))]) (fun tq kq => XS.lloadN X0.here hx rfl (hb hby d9_0) rfl (XS.l2i X0.here hx rfl (hb hby d9_1) rfl (XS.iconst X0.here hx rfl (hb hby d9_2) (XS.iand X0.here hx rfl (hb hby d9_3) rfl kq)))) ?_
  by_cases c4 : (((own_pk x n).toInt32) &&& (2 : Int32)) = (0 : Int32)
  · skip
    refine own_to s₁ (mkF m 12 #[.val (.long (own_pk x n)), .second] [(.int (0 : Int32))]) (fun tq kq => XS.ifYes X0.here hx rfl (pc0 := 4) (pc' := 11) rfl (hb hby d9_4) rfl ((if0 _ _).trans (teq c4).1) (by decide) (by decide) (XS.iconst X0.here hx rfl (hb hby d9_11) kq)) ?_
    exact own_retZ X0 hx hret hlk (hb hby d9_12) (by decide) (by decide) (Or.inl rfl) ⟨congrArg (fun z => some (Value.int z)) (show (0 : Int32) = Int32.ofNat (n / 2 % 2) from by rw [own_hasL hx' hn'] at c4; have q := (own_eqn (by omega) (by decide)).mp (c4.trans (show (0 : Int32) = Int32.ofNat 0 from rfl)); rw [show n / 2 % 2 = 0 by omega]; rfl), (Fr.nil n0), e0⟩
  · skip
    refine own_to s₁ (mkF m 12 #[.val (.long (own_pk x n)), .second] [(.int (1 : Int32))]) (fun tq kq => XS.ifNo X0.here hx rfl (hb hby d9_4) rfl ((if0 _ _).trans (feq c4).1) (XS.iconst X0.here hx rfl (hb hby d9_7) (XS.goto X0.here hx rfl (pc0 := 8) (pc' := 12) rfl (hb hby d9_8) (by decide) (by decide) kq))) ?_
    exact own_retZ X0 hx hret hlk (hb hby d9_12) (by decide) (by decide) (Or.inr rfl) ⟨congrArg (fun z => some (Value.int z)) (show (1 : Int32) = Int32.ofNat (n / 2 % 2) from by rw [own_hasL hx' hn'] at c4; have q : ¬ (n / 2 % 2 = 0) := fun z => c4 (by rw [show n / 2 % 2 * 2 = 0 by omega]; rfl); rw [show n / 2 % 2 = 1 by omega]; rfl), (Fr.nil n0), e0⟩
theorem d5_0 : decode prog_99_method_33_code 0 = .ok (.iconst 0, 1) := by decide +kernel
theorem d5_1 : decode prog_99_method_33_code 1 = .ok (.istore_n 2, 1) := by decide +kernel
theorem d5_2 : decode prog_99_method_33_code 2 = .ok (.iconst 0, 1) := by decide +kernel
theorem d5_3 : decode prog_99_method_33_code 3 = .ok (.istore_n 3, 1) := by decide +kernel
theorem d5_4 : decode prog_99_method_33_code 4 = .ok (.iload_n 1, 1) := by decide +kernel
theorem d5_5 : decode prog_99_method_33_code 5 = .ok (.istore 4, 2) := by decide +kernel
theorem d5_7 : decode prog_99_method_33_code 7 = .ok (.aload_n 0, 1) := by decide +kernel
theorem d5_8 : decode prog_99_method_33_code 8 = .ok (.iload 4, 2) := by decide +kernel
theorem d5_10 : decode prog_99_method_33_code 10 = .ok (.iinc 4 1, 3) := by decide +kernel
theorem d5_13 : decode prog_99_method_33_code 13 = .ok (.baload, 1) := by decide +kernel
theorem d5_14 : decode prog_99_method_33_code 14 = .ok (.istore 5, 2) := by decide +kernel
theorem d5_16 : decode prog_99_method_33_code 16 = .ok (.iload_n 2, 1) := by decide +kernel
theorem d5_17 : decode prog_99_method_33_code 17 = .ok (.iload 5, 2) := by decide +kernel
theorem d5_19 : decode prog_99_method_33_code 19 = .ok (.bipush 127, 2) := by decide +kernel
theorem d5_21 : decode prog_99_method_33_code 21 = .ok (.iand, 1) := by decide +kernel
theorem d5_22 : decode prog_99_method_33_code 22 = .ok (.iload_n 3, 1) := by decide +kernel
theorem d5_23 : decode prog_99_method_33_code 23 = .ok (.ishl, 1) := by decide +kernel
theorem d5_24 : decode prog_99_method_33_code 24 = .ok (.ior, 1) := by decide +kernel
theorem d5_25 : decode prog_99_method_33_code 25 = .ok (.istore_n 2, 1) := by decide +kernel
theorem d5_26 : decode prog_99_method_33_code 26 = .ok (.iload 5, 2) := by decide +kernel
theorem d5_28 : decode prog_99_method_33_code 28 = .ok (.ifCond .lt 17, 3) := by decide +kernel
theorem d5_31 : decode prog_99_method_33_code 31 = .ok (.iload 4, 2) := by decide +kernel
theorem d5_33 : decode prog_99_method_33_code 33 = .ok (.i2l, 1) := by decide +kernel
theorem d5_34 : decode prog_99_method_33_code 34 = .ok (.bipush 32, 2) := by decide +kernel
theorem d5_36 : decode prog_99_method_33_code 36 = .ok (.lshl, 1) := by decide +kernel
theorem d5_37 : decode prog_99_method_33_code 37 = .ok (.iload_n 2, 1) := by decide +kernel
theorem d5_38 : decode prog_99_method_33_code 38 = .ok (.i2l, 1) := by decide +kernel
theorem d5_39 : decode prog_99_method_33_code 39 = .ok (.ldc2_w 148, 3) := by decide +kernel
theorem d5_42 : decode prog_99_method_33_code 42 = .ok (.land, 1) := by decide +kernel
theorem d5_43 : decode prog_99_method_33_code 43 = .ok (.lor, 1) := by decide +kernel
theorem d5_44 : decode prog_99_method_33_code 44 = .ok (.lreturn, 1) := by decide +kernel
theorem d5_45 : decode prog_99_method_33_code 45 = .ok (.iinc 3 7, 3) := by decide +kernel
theorem d5_48 : decode prog_99_method_33_code 48 = .ok (.goto (-41), 3) := by decide +kernel
theorem ef_5_RI (m : MethodId) (x0 : Addr) (x1 : Int32) : entryFrame m #[(.ref x0), (.int x1)] 6 = mkF m 0 #[.val (.ref x0), .val (.int x1), .unset, .unset, .unset, .unset] [] := by first | (simp [entryFrame, mkF, argsToLocals, Value.category]; done) | rfl
def Q_rm_number (Z : State) (a1 : Addr) (f : Nat → Int32) (i n : Nat) (h0 : Heap) (n0 : Nat) (v : Option Value) (h : Heap) (L : List Loc) : Prop := v = some (.long (own_pk (i + 1) n)) ∧ Fr n0 L ∧ h = h0
set_option maxRecDepth 65536 in
set_option maxHeartbeats 40000000 in
theorem rm_number (l : Launch) (Z : State) (a0 : Array Value) (hw : ∀ d ∈ tables_1, d.before a0 Z = true) (ws : List Jvm.Cond) (a1 : Addr) (f : Nat → Int32) (i n : Nat) (h0 : Heap) (n0 : Nat) (Z0 : n0 ≤ h0.size) (A : BArr Z h0 a1 20 f) (hi : i < 20) (hf : f i = Int32.ofNat n) (hn' : n < 128) :
    MetFree l (⟨"com/example/warmjoin/warmjoin/PackedFields", "number", "([BI)J"⟩ : MethodName) (head1 (Jvm.Cond.code (⟨"com/example/warmjoin/warmjoin/PackedFields", "number", "([BI)J"⟩ : MethodName) prog_99_method_33_code 6 (some .long) :: ws) ({ frames := 0, cells := 0, slots := 0, locals := 0 } : Room)) (fun a U => a = #[(.ref a1), (.int (Int32.ofNat i))] ∧ Z.Warmed39 U.vm ∧ U.heap = h0) (fun _ _ _ _ _ => True) (fun _ U o U' => ∃ v L, o = .returned v ∧ Q_rm_number Z a1 f i n h0 n0 v U'.heap L ∧ FrameEnd U o U' L ({ frames := 0, cells := 0, slots := 0, locals := 0 } : Room).cells ({ frames := 0, cells := 0, slots := 0, locals := 0 } : Room).slots) := by
  refine own_met (y := (⟨"com/example/warmjoin/warmjoin/PackedFields", "number", "([BI)J"⟩ : MethodName)) (Q := (Q_rm_number Z a1 f i n h0 n0)) (plainFor_of_name pn_8) fun p e s m below meth c s₁ X0 hx hby hml hret hlk hown hnm hZ e0 => ?_
  refine own_entry (ef_5_RI m a1 (Int32.ofNat i)) ?_
  obtain ⟨c1, Ar, hsz, hat⟩ := A
  have hin : ¬ ((Int32.ofNat i) < 0 ∨ c1.slots.size ≤ (Int32.ofNat i).toNatClampNeg) := (by rw [hsz]; exact within rfl (show i < 20 by omega) (by decide))
  have hat2 : c1.slots[(Int32.ofNat i).toNatClampNeg]? = some (.int (Int32.ofNat n)) := by rw [clamp_of rfl (by omega), hat i hi, hf]
  refine own_to s₁ (mkF m 14 #[.val (.ref a1), .val (.int (Int32.ofNat i)), .val (.int (0 : Int32)), .val (.int (0 : Int32)), .val (.int ((Int32.ofNat i) + (1 : Int32))), .unset] [(.int (Int32.ofNat n))]) (fun tq kq => XS.iconst X0.here hx rfl (hb hby d5_0) (XS.istoreN X0.here hx rfl (hb hby d5_1) rfl (l' := #[.val (.ref a1), .val (.int (Int32.ofNat i)), .val (.int (0 : Int32)), .unset, .unset, .unset]) rfl (XS.iconst X0.here hx rfl (hb hby d5_2) (XS.istoreN X0.here hx rfl (hb hby d5_3) rfl (l' := #[.val (.ref a1), .val (.int (Int32.ofNat i)), .val (.int (0 : Int32)), .val (.int (0 : Int32)), .unset, .unset]) rfl (XS.iloadN X0.here hx rfl (hb hby d5_4) rfl (XS.istore X0.here hx rfl (hb hby d5_5) rfl (l' := #[.val (.ref a1), .val (.int (Int32.ofNat i)), .val (.int (0 : Int32)), .val (.int (0 : Int32)), .val (.int (Int32.ofNat i)), .unset]) rfl (XS.aloadN X0.here hx rfl (hb hby d5_7) rfl rfl (XS.iload X0.here hx rfl (hb hby d5_8) rfl (XS.iinc X0.here hx rfl (hb hby d5_10) rfl (l' := #[.val (.ref a1), .val (.int (Int32.ofNat i)), .val (.int (0 : Int32)), .val (.int (0 : Int32)), .val (.int ((Int32.ofNat i) + (1 : Int32))), .unset]) rfl (X0.baloadBytes hx (j := (Int32.ofNat i)) (v := (.int (Int32.ofNat n))) (by rw [e0]; exact Ar.1) (State.isArrayOf_alike hZ.alike Ar.2.1) Ar.2.2 hin hat2 (g := (mkF m 13 #[.val (.ref a1), .val (.int (Int32.ofNat i)), .val (.int (0 : Int32)), .val (.int (0 : Int32)), .val (.int ((Int32.ofNat i) + (1 : Int32))), .unset] [(.int (Int32.ofNat i)), (.ref a1)])) rfl rfl (hb hby d5_13) _ kq)))))))))) ?_
  refine own_to s₁ (mkF m 28 #[.val (.ref a1), .val (.int (Int32.ofNat i)), .val (.int ((0 : Int32) ||| (((Int32.ofNat n) &&& (127 : Int32)) <<< ((0 : Int32) &&& 31)))), .val (.int (0 : Int32)), .val (.int ((Int32.ofNat i) + (1 : Int32))), .val (.int (Int32.ofNat n))] [(.int (Int32.ofNat n))]) (fun tq kq => XS.istore X0.here hx rfl (hb hby d5_14) rfl (l' := #[.val (.ref a1), .val (.int (Int32.ofNat i)), .val (.int (0 : Int32)), .val (.int (0 : Int32)), .val (.int ((Int32.ofNat i) + (1 : Int32))), .val (.int (Int32.ofNat n))]) rfl (XS.iloadN X0.here hx rfl (hb hby d5_16) rfl (XS.iload X0.here hx rfl (hb hby d5_17) rfl (XS.bipush X0.here hx rfl (hb hby d5_19) (XS.iand X0.here hx rfl (hb hby d5_21) rfl (XS.iloadN X0.here hx rfl (hb hby d5_22) rfl (XS.ishl X0.here hx rfl (hb hby d5_23) rfl (XS.ior X0.here hx rfl (hb hby d5_24) rfl (XS.istoreN X0.here hx rfl (hb hby d5_25) rfl (l' := #[.val (.ref a1), .val (.int (Int32.ofNat i)), .val (.int ((0 : Int32) ||| (((Int32.ofNat n) &&& (127 : Int32)) <<< ((0 : Int32) &&& 31)))), .val (.int (0 : Int32)), .val (.int ((Int32.ofNat i) + (1 : Int32))), .val (.int (Int32.ofNat n))]) rfl (XS.iload X0.here hx rfl (hb hby d5_26) rfl kq)))))))))) ?_
  refine own_to s₁ (mkF m 44 #[.val (.ref a1), .val (.int (Int32.ofNat i)), .val (.int ((0 : Int32) ||| (((Int32.ofNat n) &&& (127 : Int32)) <<< ((0 : Int32) &&& 31)))), .val (.int (0 : Int32)), .val (.int ((Int32.ofNat i) + (1 : Int32))), .val (.int (Int32.ofNat n))] [(.long (((((Int32.ofNat i) + (1 : Int32)).toInt64) <<< ((32 : Int32) &&& 0x3f).toInt64) ||| ((((0 : Int32) ||| (((Int32.ofNat n) &&& (127 : Int32)) <<< ((0 : Int32) &&& 31))).toInt64) &&& (4294967295 : Int64))))]) (fun tq kq => XS.ifNo X0.here hx rfl (hb hby d5_28) rfl ((if0 _ _).trans (flt (own_nonneg hn')).1) (XS.iload X0.here hx rfl (hb hby d5_31) rfl (XS.i2l X0.here hx rfl (hb hby d5_33) rfl (XS.bipush X0.here hx rfl (hb hby d5_34) (XS.lshl X0.here hx rfl (hb hby d5_36) rfl (XS.iloadN X0.here hx rfl (hb hby d5_37) rfl (XS.i2l X0.here hx rfl (hb hby d5_38) rfl (X0.ldc2Long hx hown (mvT hZ (own_w hw 32 rfl)) (g := (mkF m 39 #[.val (.ref a1), .val (.int (Int32.ofNat i)), .val (.int ((0 : Int32) ||| (((Int32.ofNat n) &&& (127 : Int32)) <<< ((0 : Int32) &&& 31)))), .val (.int (0 : Int32)), .val (.int ((Int32.ofNat i) + (1 : Int32))), .val (.int (Int32.ofNat n))] [(.long (((0 : Int32) ||| (((Int32.ofNat n) &&& (127 : Int32)) <<< ((0 : Int32) &&& 31))).toInt64)), (.long ((((Int32.ofNat i) + (1 : Int32)).toInt64) <<< ((32 : Int32) &&& 0x3f).toInt64))])) rfl (hb hby d5_39) _ (XS.land X0.here hx rfl (hb hby d5_42) rfl (XS.lor X0.here hx rfl (hb hby d5_43) rfl kq)))))))))) ?_
  exact own_retJ X0 hx hret hlk (hb hby d5_44) (by decide) (by decide) ⟨congrArg (fun z => some (Value.long z)) (own_num (by omega) hn'), (Fr.nil n0), e0⟩
theorem d12_0 : decode prog_99_method_24_code 0 = .ok (.iload_n 1, 1) := by decide +kernel
theorem d12_1 : decode prog_99_method_24_code 1 = .ok (.istore_n 3, 1) := by decide +kernel
theorem d12_2 : decode prog_99_method_24_code 2 = .ok (.iload_n 3, 1) := by decide +kernel
theorem d12_3 : decode prog_99_method_24_code 3 = .ok (.iload_n 2, 1) := by decide +kernel
theorem d12_4 : decode prog_99_method_24_code 4 = .ok (.if_icmp .ge 17, 3) := by decide +kernel
theorem d12_7 : decode prog_99_method_24_code 7 = .ok (.aload_n 0, 1) := by decide +kernel
theorem d12_8 : decode prog_99_method_24_code 8 = .ok (.iload_n 3, 1) := by decide +kernel
theorem d12_9 : decode prog_99_method_24_code 9 = .ok (.baload, 1) := by decide +kernel
theorem d12_10 : decode prog_99_method_24_code 10 = .ok (.bipush 44, 2) := by decide +kernel
theorem d12_12 : decode prog_99_method_24_code 12 = .ok (.if_icmp .eq 9, 3) := by decide +kernel
theorem d12_15 : decode prog_99_method_24_code 15 = .ok (.iinc 3 1, 3) := by decide +kernel
theorem d12_18 : decode prog_99_method_24_code 18 = .ok (.goto (-16), 3) := by decide +kernel
theorem d12_21 : decode prog_99_method_24_code 21 = .ok (.iload_n 3, 1) := by decide +kernel
theorem d12_22 : decode prog_99_method_24_code 22 = .ok (.ireturn, 1) := by decide +kernel
theorem ef_12_RII (m : MethodId) (x0 : Addr) (x1 : Int32) (x2 : Int32) : entryFrame m #[(.ref x0), (.int x1), (.int x2)] 4 = mkF m 0 #[.val (.ref x0), .val (.int x1), .val (.int x2), .unset] [] := by first | (simp [entryFrame, mkF, argsToLocals, Value.category]; done) | rfl
def Q_rm_comma (Z : State) (a1 : Addr) (f : Nat → Int32) (i j : Nat) (h0 : Heap) (n0 : Nat) (v : Option Value) (h : Heap) (L : List Loc) : Prop := v = some (.int (Int32.ofNat i)) ∧ Fr n0 L ∧ h = h0
set_option maxRecDepth 65536 in
set_option maxHeartbeats 40000000 in
theorem rm_comma (l : Launch) (Z : State) (a0 : Array Value) (hw : ∀ d ∈ tables_1, d.before a0 Z = true) (ws : List Jvm.Cond) (a1 : Addr) (f : Nat → Int32) (i j : Nat) (h0 : Heap) (n0 : Nat) (Z0 : n0 ≤ h0.size) (A : BArr Z h0 a1 20 f) (hj : j ≤ 20) (hle : i ≤ j) (hf : i < j → f i = (44 : Int32)) :
    MetFree l (⟨"com/example/warmjoin/warmjoin/PackedFields", "comma", "([BII)I"⟩ : MethodName) (head1 (Jvm.Cond.code (⟨"com/example/warmjoin/warmjoin/PackedFields", "comma", "([BII)I"⟩ : MethodName) prog_99_method_24_code 4 (some .int) :: ws) ({ frames := 0, cells := 0, slots := 0, locals := 0 } : Room)) (fun a U => a = #[(.ref a1), (.int (Int32.ofNat i)), (.int (Int32.ofNat j))] ∧ Z.Warmed39 U.vm ∧ U.heap = h0) (fun _ _ _ _ _ => True) (fun _ U o U' => ∃ v L, o = .returned v ∧ Q_rm_comma Z a1 f i j h0 n0 v U'.heap L ∧ FrameEnd U o U' L ({ frames := 0, cells := 0, slots := 0, locals := 0 } : Room).cells ({ frames := 0, cells := 0, slots := 0, locals := 0 } : Room).slots) := by
  refine own_met (y := (⟨"com/example/warmjoin/warmjoin/PackedFields", "comma", "([BII)I"⟩ : MethodName)) (Q := (Q_rm_comma Z a1 f i j h0 n0)) (plainFor_of_name pn_8) fun p e s m below meth c s₁ X0 hx hby hml hret hlk hown hnm hZ e0 => ?_
  refine own_entry (ef_12_RII m a1 (Int32.ofNat i) (Int32.ofNat j)) ?_
  obtain ⟨c1, Ar, hsz, hat⟩ := A
  rcases Nat.lt_or_ge i j with hij | hij
  · skip
    have hin : ¬ ((Int32.ofNat i) < 0 ∨ c1.slots.size ≤ (Int32.ofNat i).toNatClampNeg) := (by rw [hsz]; exact within rfl (show i < 20 by omega) (by decide))
    have hat2 : c1.slots[(Int32.ofNat i).toNatClampNeg]? = some (.int (44 : Int32)) := by rw [clamp_of rfl (by omega), hat i (by omega), hf hij]
    refine own_to s₁ (mkF m 21 #[.val (.ref a1), .val (.int (Int32.ofNat i)), .val (.int (Int32.ofNat j)), .val (.int (Int32.ofNat i))] []) (fun tq kq => XS.iloadN X0.here hx rfl (hb hby d12_0) rfl (XS.istoreN X0.here hx rfl (hb hby d12_1) rfl (l' := #[.val (.ref a1), .val (.int (Int32.ofNat i)), .val (.int (Int32.ofNat j)), .val (.int (Int32.ofNat i))]) rfl (XS.iloadN X0.here hx rfl (hb hby d12_2) rfl (XS.iloadN X0.here hx rfl (hb hby d12_3) rfl (XS.icmpNo X0.here hx rfl (hb hby d12_4) rfl (tlt ((own_ltn (by omega) (by omega)).mpr hij)).2.1 (XS.aloadN X0.here hx rfl (hb hby d12_7) rfl rfl (XS.iloadN X0.here hx rfl (hb hby d12_8) rfl (X0.baloadBytes hx (j := (Int32.ofNat i)) (v := (.int (44 : Int32))) (by rw [e0]; exact Ar.1) (State.isArrayOf_alike hZ.alike Ar.2.1) Ar.2.2 hin hat2 (g := (mkF m 9 #[.val (.ref a1), .val (.int (Int32.ofNat i)), .val (.int (Int32.ofNat j)), .val (.int (Int32.ofNat i))] [(.int (Int32.ofNat i)), (.ref a1)])) rfl rfl (hb hby d12_9) _ (XS.bipush X0.here hx rfl (hb hby d12_10) (XS.icmpYes X0.here hx rfl (pc0 := 12) (pc' := 21) rfl (hb hby d12_12) rfl (teq (by decide : (44 : Int32) = (44 : Int32))).1 (by decide) (by decide) kq)))))))))) ?_
    refine own_to s₁ (mkF m 22 #[.val (.ref a1), .val (.int (Int32.ofNat i)), .val (.int (Int32.ofNat j)), .val (.int (Int32.ofNat i))] [(.int (Int32.ofNat i))]) (fun tq kq => XS.iloadN X0.here hx rfl (hb hby d12_21) rfl kq) ?_
    exact own_retI X0 hx hret hlk (hb hby d12_22) (by decide) (by decide) ⟨rfl, (Fr.nil n0), e0⟩
  · skip
    refine own_to s₁ (mkF m 22 #[.val (.ref a1), .val (.int (Int32.ofNat i)), .val (.int (Int32.ofNat j)), .val (.int (Int32.ofNat i))] [(.int (Int32.ofNat i))]) (fun tq kq => XS.iloadN X0.here hx rfl (hb hby d12_0) rfl (XS.istoreN X0.here hx rfl (hb hby d12_1) rfl (l' := #[.val (.ref a1), .val (.int (Int32.ofNat i)), .val (.int (Int32.ofNat j)), .val (.int (Int32.ofNat i))]) rfl (XS.iloadN X0.here hx rfl (hb hby d12_2) rfl (XS.iloadN X0.here hx rfl (hb hby d12_3) rfl (XS.icmpYes X0.here hx rfl (pc0 := 4) (pc' := 21) rfl (hb hby d12_4) rfl (flt (mt (own_ltn (by omega) (by omega)).mp (by omega))).2.1 (by decide) (by decide) (XS.iloadN X0.here hx rfl (hb hby d12_21) rfl kq)))))) ?_
    exact own_retI X0 hx hret hlk (hb hby d12_22) (by decide) (by decide) ⟨rfl, (Fr.nil n0), e0⟩
theorem d6_0 : decode prog_99_method_19_code 0 = .ok (.lload_n 1, 1) := by decide +kernel
theorem d6_1 : decode prog_99_method_19_code 1 = .ok (.bipush 32, 2) := by decide +kernel
theorem d6_3 : decode prog_99_method_19_code 3 = .ok (.lushr, 1) := by decide +kernel
theorem d6_4 : decode prog_99_method_19_code 4 = .ok (.bipush 32, 2) := by decide +kernel
theorem d6_6 : decode prog_99_method_19_code 6 = .ok (.lshl, 1) := by decide +kernel
theorem d6_7 : decode prog_99_method_19_code 7 = .ok (.lstore_n 3, 1) := by decide +kernel
theorem d6_8 : decode prog_99_method_19_code 8 = .ok (.lload_n 1, 1) := by decide +kernel
theorem d6_9 : decode prog_99_method_19_code 9 = .ok (.invokestatic 68, 3) := by decide +kernel
theorem d6_12 : decode prog_99_method_19_code 12 = .ok (.ifCond .eq 12, 3) := by decide +kernel
theorem d6_15 : decode prog_99_method_19_code 15 = .ok (.aload_n 0, 1) := by decide +kernel
theorem d6_16 : decode prog_99_method_19_code 16 = .ok (.lload_n 3, 1) := by decide +kernel
theorem d6_17 : decode prog_99_method_19_code 17 = .ok (.invokestatic 65, 3) := by decide +kernel
theorem d6_20 : decode prog_99_method_19_code 20 = .ok (.invokestatic 57, 3) := by decide +kernel
theorem d6_23 : decode prog_99_method_19_code 23 = .ok (.lstore_n 3, 1) := by decide +kernel
theorem d6_24 : decode prog_99_method_19_code 24 = .ok (.lload_n 1, 1) := by decide +kernel
theorem d6_25 : decode prog_99_method_19_code 25 = .ok (.invokestatic 142, 3) := by decide +kernel
theorem d6_28 : decode prog_99_method_19_code 28 = .ok (.ifCond .eq 17, 3) := by decide +kernel
theorem d6_31 : decode prog_99_method_19_code 31 = .ok (.lload_n 3, 1) := by decide +kernel
theorem d6_32 : decode prog_99_method_19_code 32 = .ok (.lload_n 1, 1) := by decide +kernel
theorem d6_33 : decode prog_99_method_19_code 33 = .ok (.invokestatic 74, 3) := by decide +kernel
theorem d6_36 : decode prog_99_method_19_code 36 = .ok (.invokestatic 52, 3) := by decide +kernel
theorem d6_39 : decode prog_99_method_19_code 39 = .ok (.i2l, 1) := by decide +kernel
theorem d6_40 : decode prog_99_method_19_code 40 = .ok (.bipush 32, 2) := by decide +kernel
theorem d6_42 : decode prog_99_method_19_code 42 = .ok (.lshl, 1) := by decide +kernel
theorem d6_43 : decode prog_99_method_19_code 43 = .ok (.ladd, 1) := by decide +kernel
theorem d6_44 : decode prog_99_method_19_code 44 = .ok (.lstore_n 3, 1) := by decide +kernel
theorem d6_45 : decode prog_99_method_19_code 45 = .ok (.lload_n 3, 1) := by decide +kernel
theorem d6_46 : decode prog_99_method_19_code 46 = .ok (.lreturn, 1) := by decide +kernel
theorem ef_6_RJ (m : MethodId) (x0 : Addr) (x1 : Int64) : entryFrame m #[(.ref x0), (.long x1)] 5 = mkF m 0 #[.val (.ref x0), .val (.long x1), .second, .unset, .unset] [] := by first | (simp [entryFrame, mkF, argsToLocals, Value.category]; done) | rfl
def Q_rm_body00 (Z : State) (a1 : Addr) (f : Nat → Int32) (x : Nat) (h0 : Heap) (n0 : Nat) (v : Option Value) (h : Heap) (L : List Loc) : Prop := v = some (.long (own_pk (x) (0))) ∧ Fr n0 L ∧ h = h0
theorem pd_5 : parseMethodDescriptor "(J)Z" = some ⟨[.long], some .boolean⟩ := by decide +kernel
set_option maxRecDepth 65536 in
set_option maxHeartbeats 40000000 in
theorem rm_body00 (l : Launch) (Z : State) (a0 : Array Value) (hw : ∀ d ∈ tables_1, d.before a0 Z = true) (ws : List Jvm.Cond) (a1 : Addr) (f : Nat → Int32) (x : Nat) (h0 : Heap) (n0 : Nat) (Z0 : n0 ≤ h0.size) (A : BArr Z h0 a1 20 f) (hx' : x < 20) (hf : True) :
    MetFree l (⟨"com/example/warmjoin/warmjoin/PackedFields", "body", "([BJ)J"⟩ : MethodName) (head1 (Jvm.Cond.code (⟨"com/example/warmjoin/warmjoin/PackedFields", "body", "([BJ)J"⟩ : MethodName) prog_99_method_19_code 5 (some .long) :: ws) ({ frames := 1, cells := 0, slots := 0, locals := 22 } : Room)) (fun a U => a = #[(.ref a1), (.long (own_pk (x) (36)))] ∧ Z.Warmed39 U.vm ∧ U.heap = h0) (fun _ _ _ _ _ => True) (fun _ U o U' => ∃ v L, o = .returned v ∧ Q_rm_body00 Z a1 f x h0 n0 v U'.heap L ∧ FrameEnd U o U' L ({ frames := 1, cells := 0, slots := 0, locals := 22 } : Room).cells ({ frames := 1, cells := 0, slots := 0, locals := 22 } : Room).slots) := by
  refine own_met (y := (⟨"com/example/warmjoin/warmjoin/PackedFields", "body", "([BJ)J"⟩ : MethodName)) (Q := (Q_rm_body00 Z a1 f x h0 n0)) (plainFor_of_name pn_8) fun p e s m below meth c s₁ X0 hx hby hml hret hlk hown hnm hZ e0 => ?_
  refine own_entry (ef_6_RJ m a1 (own_pk (x) (36))) ?_
  refine own_to s₁ (mkF m 7 #[.val (.ref a1), .val (.long (own_pk (x) (36))), .second, .unset, .unset] [(.long ((((own_pk (x) (36)).toUInt64 >>> ((32 : Int32) &&& 0x3f).toInt64.toUInt64).toInt64) <<< ((32 : Int32) &&& 0x3f).toInt64))]) (fun tq kq => XS.lloadN X0.here hx rfl (hb hby d6_0) rfl (XS.bipush X0.here hx rfl (hb hby d6_1) (XS.lushr X0.here hx rfl (hb hby d6_3) rfl (XS.bipush X0.here hx rfl (hb hby d6_4) (XS.lshl X0.here hx rfl (hb hby d6_6) rfl kq))))) ?_
  rw [own_lo (by omega) (by omega)]
  refine own_to s₁ (mkF m 9 #[.val (.ref a1), .val (.long (own_pk (x) (36))), .second, .val (.long (own_pk (x) (0))), .second] [(.long (own_pk (x) (36)))]) (fun tq kq => XS.lstoreN X0.here hx rfl (hb hby d6_7) rfl (l' := #[.val (.ref a1), .val (.long (own_pk (x) (36))), .second, .val (.long (own_pk (x) (0))), .second]) rfl (XS.lloadN X0.here hx rfl (hb hby d6_8) rfl kq)) ?_
  obtain ⟨_, _, ⟨T1, L1, k1, n1⟩, -, X1, ⟨Lc1, hQ1, l1, y1, z1⟩, st1⟩ := Jvm.LawKit.callS X0 hx (y := (⟨"com/example/warmjoin/warmjoin/PackedFields", "isText", "(J)Z"⟩ : MethodName)) hown (mvT hZ (own_w hw 36 rfl)) (mvT hZ (own_w hw 37 rfl)) (mvT hZ (own_w hw 30 rfl)) (mvT hZ (own_w hw 38 rfl)) (by decide) (backOf (W := 0) (rm_isText l Z a0 hw [] (x) (36) h0 n0 Z0 (by omega) (by omega)) hZ (own_w hw 38 rfl) (own_w hw 30 rfl) (by decide) (by decide)) (g := (mkF m 9 #[.val (.ref a1), .val (.long (own_pk (x) (36))), .second, .val (.long (own_pk (x) (0))), .second] [(.long (own_pk (x) (36)))])) rfl (by rw [hml]; rfl) (argsL := [(.long (own_pk (x) (36)))]) (rest := []) (lenOf pd_5 rfl) rfl (by show 2 * 0 + _ ≤ _; exact Nat.le_of_eq rfl) (hb hby d6_9) (fun _ _ => ⟨rfl, e0, (by decide : 0 + 0 ≤ _), (by decide : 0 + 0 ≤ _)⟩)
  dsimp only [Pt.U, Pt.locs, Pt.cells, Pt.slots] at X1 l1 y1 z1 st1 hQ1
  have l1y := l1.symm
  clear l1
  subst l1y
  obtain rfl : k1 = 0 := y1
  obtain rfl : n1 = 0 := z1
  obtain ⟨rfl, N1q, e1⟩ := hQ1
  have N1 := Fr.app (Fr.nil n0) N1q
  refine own_to T1 (mkF m 12 #[.val (.ref a1), .val (.long (own_pk (x) (36))), .second, .val (.long (own_pk (x) (0))), .second] [(.int (Int32.ofNat (36 % 2)))]) (fun tq kq => st1 _ kq) ?_
  rw [show (Int32.ofNat (36 % 2)) = (0 : Int32) from rfl]
  refine own_to T1 (mkF m 25 #[.val (.ref a1), .val (.long (own_pk (x) (36))), .second, .val (.long (own_pk (x) (0))), .second] [(.long (own_pk (x) (36)))]) (fun tq kq => XS.ifYes X1.here hx rfl (pc0 := 12) (pc' := 24) rfl (hb hby d6_12) rfl ((if0 _ _).trans (teq (by decide : (0 : Int32) = (0 : Int32))).1) (by decide) (by decide) (XS.lloadN X1.here hx rfl (hb hby d6_24) rfl kq)) ?_
  obtain ⟨_, _, ⟨T2, L2, k2, n2⟩, -, X2, ⟨Lc2, hQ2, l2, y2, z2⟩, st2⟩ := Jvm.LawKit.callS X1 hx (y := (⟨"com/example/warmjoin/warmjoin/PackedFields", "hasLiterals", "(J)Z"⟩ : MethodName)) hown (mvT hZ (own_w hw 43 rfl)) (mvT hZ (own_w hw 44 rfl)) (mvT hZ (own_w hw 30 rfl)) (mvT hZ (own_w hw 45 rfl)) (by decide) (backOf (W := 0) (rm_hasLiterals l Z a0 hw [] (x) (36) h0 n0 Z0 (by omega) (by omega)) hZ (own_w hw 45 rfl) (own_w hw 30 rfl) (by decide) (by decide)) (g := (mkF m 25 #[.val (.ref a1), .val (.long (own_pk (x) (36))), .second, .val (.long (own_pk (x) (0))), .second] [(.long (own_pk (x) (36)))])) rfl (by rw [hml]; rfl) (argsL := [(.long (own_pk (x) (36)))]) (rest := []) (lenOf pd_5 rfl) rfl (by show 2 * 0 + _ ≤ _; exact Nat.le_of_eq rfl) (hb hby d6_25) (fun _ _ => ⟨rfl, e1, (by decide : 0 + 0 ≤ _), (by decide : 0 + 0 ≤ _)⟩)
  dsimp only [Pt.U, Pt.locs, Pt.cells, Pt.slots] at X2 l2 y2 z2 st2 hQ2
  have l2y := l2.symm
  clear l2
  subst l2y
  obtain rfl : k2 = 0 := y2
  obtain rfl : n2 = 0 := z2
  obtain ⟨rfl, N2q, e2⟩ := hQ2
  have N2 := Fr.app N1 N2q
  refine own_to T2 (mkF m 28 #[.val (.ref a1), .val (.long (own_pk (x) (36))), .second, .val (.long (own_pk (x) (0))), .second] [(.int (Int32.ofNat (36 / 2 % 2)))]) (fun tq kq => st2 _ kq) ?_
  rw [show (Int32.ofNat (36 / 2 % 2)) = (0 : Int32) from rfl]
  refine own_to T2 (mkF m 46 #[.val (.ref a1), .val (.long (own_pk (x) (36))), .second, .val (.long (own_pk (x) (0))), .second] [(.long (own_pk (x) (0)))]) (fun tq kq => XS.ifYes X2.here hx rfl (pc0 := 28) (pc' := 45) rfl (hb hby d6_28) rfl ((if0 _ _).trans (teq (by decide : (0 : Int32) = (0 : Int32))).1) (by decide) (by decide) (XS.lloadN X2.here hx rfl (hb hby d6_45) rfl kq)) ?_
  exact own_retJ X2 hx hret hlk (hb hby d6_46) (by decide) (by decide) ⟨rfl, N2, e2⟩
def Q_rm_body01 (Z : State) (a1 : Addr) (f : Nat → Int32) (x : Nat) (h0 : Heap) (n0 : Nat) (v : Option Value) (h : Heap) (L : List Loc) : Prop := v = some (.long (own_pk (x + 2) (0))) ∧ Fr n0 L ∧ h = h0
theorem pd_6 : parseMethodDescriptor "(J)I" = some ⟨[.long], some .int⟩ := by decide +kernel
theorem pd_8 : parseMethodDescriptor "(I)I" = some ⟨[.int], some .int⟩ := by decide +kernel
set_option maxRecDepth 65536 in
set_option maxHeartbeats 40000000 in
theorem rm_body01 (l : Launch) (Z : State) (a0 : Array Value) (hw : ∀ d ∈ tables_1, d.before a0 Z = true) (ws : List Jvm.Cond) (a1 : Addr) (f : Nat → Int32) (x : Nat) (h0 : Heap) (n0 : Nat) (Z0 : n0 ≤ h0.size) (A : BArr Z h0 a1 20 f) (hx' : x < 20) (hf : True) :
    MetFree l (⟨"com/example/warmjoin/warmjoin/PackedFields", "body", "([BJ)J"⟩ : MethodName) (head1 (Jvm.Cond.code (⟨"com/example/warmjoin/warmjoin/PackedFields", "body", "([BJ)J"⟩ : MethodName) prog_99_method_19_code 5 (some .long) :: ws) ({ frames := 1, cells := 0, slots := 0, locals := 22 } : Room)) (fun a U => a = #[(.ref a1), (.long (own_pk (x) (38)))] ∧ Z.Warmed39 U.vm ∧ U.heap = h0) (fun _ _ _ _ _ => True) (fun _ U o U' => ∃ v L, o = .returned v ∧ Q_rm_body01 Z a1 f x h0 n0 v U'.heap L ∧ FrameEnd U o U' L ({ frames := 1, cells := 0, slots := 0, locals := 22 } : Room).cells ({ frames := 1, cells := 0, slots := 0, locals := 22 } : Room).slots) := by
  refine own_met (y := (⟨"com/example/warmjoin/warmjoin/PackedFields", "body", "([BJ)J"⟩ : MethodName)) (Q := (Q_rm_body01 Z a1 f x h0 n0)) (plainFor_of_name pn_8) fun p e s m below meth c s₁ X0 hx hby hml hret hlk hown hnm hZ e0 => ?_
  refine own_entry (ef_6_RJ m a1 (own_pk (x) (38))) ?_
  refine own_to s₁ (mkF m 7 #[.val (.ref a1), .val (.long (own_pk (x) (38))), .second, .unset, .unset] [(.long ((((own_pk (x) (38)).toUInt64 >>> ((32 : Int32) &&& 0x3f).toInt64.toUInt64).toInt64) <<< ((32 : Int32) &&& 0x3f).toInt64))]) (fun tq kq => XS.lloadN X0.here hx rfl (hb hby d6_0) rfl (XS.bipush X0.here hx rfl (hb hby d6_1) (XS.lushr X0.here hx rfl (hb hby d6_3) rfl (XS.bipush X0.here hx rfl (hb hby d6_4) (XS.lshl X0.here hx rfl (hb hby d6_6) rfl kq))))) ?_
  rw [own_lo (by omega) (by omega)]
  refine own_to s₁ (mkF m 9 #[.val (.ref a1), .val (.long (own_pk (x) (38))), .second, .val (.long (own_pk (x) (0))), .second] [(.long (own_pk (x) (38)))]) (fun tq kq => XS.lstoreN X0.here hx rfl (hb hby d6_7) rfl (l' := #[.val (.ref a1), .val (.long (own_pk (x) (38))), .second, .val (.long (own_pk (x) (0))), .second]) rfl (XS.lloadN X0.here hx rfl (hb hby d6_8) rfl kq)) ?_
  obtain ⟨_, _, ⟨T1, L1, k1, n1⟩, -, X1, ⟨Lc1, hQ1, l1, y1, z1⟩, st1⟩ := Jvm.LawKit.callS X0 hx (y := (⟨"com/example/warmjoin/warmjoin/PackedFields", "isText", "(J)Z"⟩ : MethodName)) hown (mvT hZ (own_w hw 36 rfl)) (mvT hZ (own_w hw 37 rfl)) (mvT hZ (own_w hw 30 rfl)) (mvT hZ (own_w hw 38 rfl)) (by decide) (backOf (W := 0) (rm_isText l Z a0 hw [] (x) (38) h0 n0 Z0 (by omega) (by omega)) hZ (own_w hw 38 rfl) (own_w hw 30 rfl) (by decide) (by decide)) (g := (mkF m 9 #[.val (.ref a1), .val (.long (own_pk (x) (38))), .second, .val (.long (own_pk (x) (0))), .second] [(.long (own_pk (x) (38)))])) rfl (by rw [hml]; rfl) (argsL := [(.long (own_pk (x) (38)))]) (rest := []) (lenOf pd_5 rfl) rfl (by show 2 * 0 + _ ≤ _; exact Nat.le_of_eq rfl) (hb hby d6_9) (fun _ _ => ⟨rfl, e0, (by decide : 0 + 0 ≤ _), (by decide : 0 + 0 ≤ _)⟩)
  dsimp only [Pt.U, Pt.locs, Pt.cells, Pt.slots] at X1 l1 y1 z1 st1 hQ1
  have l1y := l1.symm
  clear l1
  subst l1y
  obtain rfl : k1 = 0 := y1
  obtain rfl : n1 = 0 := z1
  obtain ⟨rfl, N1q, e1⟩ := hQ1
  have N1 := Fr.app (Fr.nil n0) N1q
  refine own_to T1 (mkF m 12 #[.val (.ref a1), .val (.long (own_pk (x) (38))), .second, .val (.long (own_pk (x) (0))), .second] [(.int (Int32.ofNat (38 % 2)))]) (fun tq kq => st1 _ kq) ?_
  rw [show (Int32.ofNat (38 % 2)) = (0 : Int32) from rfl]
  refine own_to T1 (mkF m 25 #[.val (.ref a1), .val (.long (own_pk (x) (38))), .second, .val (.long (own_pk (x) (0))), .second] [(.long (own_pk (x) (38)))]) (fun tq kq => XS.ifYes X1.here hx rfl (pc0 := 12) (pc' := 24) rfl (hb hby d6_12) rfl ((if0 _ _).trans (teq (by decide : (0 : Int32) = (0 : Int32))).1) (by decide) (by decide) (XS.lloadN X1.here hx rfl (hb hby d6_24) rfl kq)) ?_
  obtain ⟨_, _, ⟨T2, L2, k2, n2⟩, -, X2, ⟨Lc2, hQ2, l2, y2, z2⟩, st2⟩ := Jvm.LawKit.callS X1 hx (y := (⟨"com/example/warmjoin/warmjoin/PackedFields", "hasLiterals", "(J)Z"⟩ : MethodName)) hown (mvT hZ (own_w hw 43 rfl)) (mvT hZ (own_w hw 44 rfl)) (mvT hZ (own_w hw 30 rfl)) (mvT hZ (own_w hw 45 rfl)) (by decide) (backOf (W := 0) (rm_hasLiterals l Z a0 hw [] (x) (38) h0 n0 Z0 (by omega) (by omega)) hZ (own_w hw 45 rfl) (own_w hw 30 rfl) (by decide) (by decide)) (g := (mkF m 25 #[.val (.ref a1), .val (.long (own_pk (x) (38))), .second, .val (.long (own_pk (x) (0))), .second] [(.long (own_pk (x) (38)))])) rfl (by rw [hml]; rfl) (argsL := [(.long (own_pk (x) (38)))]) (rest := []) (lenOf pd_5 rfl) rfl (by show 2 * 0 + _ ≤ _; exact Nat.le_of_eq rfl) (hb hby d6_25) (fun _ _ => ⟨rfl, e1, (by decide : 0 + 0 ≤ _), (by decide : 0 + 0 ≤ _)⟩)
  dsimp only [Pt.U, Pt.locs, Pt.cells, Pt.slots] at X2 l2 y2 z2 st2 hQ2
  have l2y := l2.symm
  clear l2
  subst l2y
  obtain rfl : k2 = 0 := y2
  obtain rfl : n2 = 0 := z2
  obtain ⟨rfl, N2q, e2⟩ := hQ2
  have N2 := Fr.app N1 N2q
  refine own_to T2 (mkF m 28 #[.val (.ref a1), .val (.long (own_pk (x) (38))), .second, .val (.long (own_pk (x) (0))), .second] [(.int (Int32.ofNat (38 / 2 % 2)))]) (fun tq kq => st2 _ kq) ?_
  rw [show (Int32.ofNat (38 / 2 % 2)) = (1 : Int32) from rfl]
  refine own_to T2 (mkF m 33 #[.val (.ref a1), .val (.long (own_pk (x) (38))), .second, .val (.long (own_pk (x) (0))), .second] [(.long (own_pk (x) (38))), (.long (own_pk (x) (0)))]) (fun tq kq => XS.ifNo X2.here hx rfl (hb hby d6_28) rfl ((if0 _ _).trans (feq (by decide : ¬ ((1 : Int32) = (0 : Int32)))).1) (XS.lloadN X2.here hx rfl (hb hby d6_31) rfl (XS.lloadN X2.here hx rfl (hb hby d6_32) rfl kq))) ?_
  obtain ⟨_, _, ⟨T3, L3, k3, n3⟩, -, X3, ⟨Lc3, hQ3, l3, y3, z3⟩, st3⟩ := Jvm.LawKit.callS X2 hx (y := (⟨"com/example/warmjoin/warmjoin/PackedFields", "fieldsOf", "(J)I"⟩ : MethodName)) hown (mvT hZ (own_w hw 75 rfl)) (mvT hZ (own_w hw 47 rfl)) (mvT hZ (own_w hw 30 rfl)) (mvT hZ (own_w hw 48 rfl)) (by decide) (backOf (W := 2) (rm_fieldsOf l Z a0 hw [] (x) (38) h0 n0 Z0 (by omega) (by omega)) hZ (own_w hw 48 rfl) (own_w hw 30 rfl) (by decide) (by decide)) (g := (mkF m 33 #[.val (.ref a1), .val (.long (own_pk (x) (38))), .second, .val (.long (own_pk (x) (0))), .second] [(.long (own_pk (x) (38))), (.long (own_pk (x) (0)))])) rfl (by rw [hml]; rfl) (argsL := [(.long (own_pk (x) (38)))]) (rest := [(.long (own_pk (x) (0)))]) (lenOf pd_6 rfl) rfl (by show 2 * 0 + _ ≤ _; exact Nat.le_of_eq rfl) (hb hby d6_33) (fun _ _ => ⟨rfl, e2, (by decide : 0 + 0 ≤ _), (by decide : 0 + 0 ≤ _)⟩)
  dsimp only [Pt.U, Pt.locs, Pt.cells, Pt.slots] at X3 l3 y3 z3 st3 hQ3
  have l3y := l3.symm
  clear l3
  subst l3y
  obtain rfl : k3 = 0 := y3
  obtain rfl : n3 = 0 := z3
  obtain ⟨rfl, N3q, e3⟩ := hQ3
  have N3 := Fr.app N2 N3q
  refine own_to T3 (mkF m 36 #[.val (.ref a1), .val (.long (own_pk (x) (38))), .second, .val (.long (own_pk (x) (0))), .second] [(.int (Int32.ofNat (38 / 4))), (.long (own_pk (x) (0)))]) (fun tq kq => st3 _ kq) ?_
  obtain ⟨_, _, ⟨T4, L4, k4, n4⟩, -, X4, ⟨Lc4, hQ4, l4, y4, z4⟩, st4⟩ := Jvm.LawKit.callS X3 hx (y := (⟨"com/example/warmjoin/warmjoin/PackedFields", "literalBytes", "(I)I"⟩ : MethodName)) hown (mvT hZ (own_w hw 76 rfl)) (mvT hZ (own_w hw 77 rfl)) (mvT hZ (own_w hw 30 rfl)) (mvT hZ (own_w hw 78 rfl)) (by decide) (backOf (W := 2) (rm_literalBytes l Z a0 hw [] (38 / 4) h0 n0 Z0 (by omega)) hZ (own_w hw 78 rfl) (own_w hw 30 rfl) (by decide) (by decide)) (g := (mkF m 36 #[.val (.ref a1), .val (.long (own_pk (x) (38))), .second, .val (.long (own_pk (x) (0))), .second] [(.int (Int32.ofNat (38 / 4))), (.long (own_pk (x) (0)))])) rfl (by rw [hml]; rfl) (argsL := [(.int (Int32.ofNat (38 / 4)))]) (rest := [(.long (own_pk (x) (0)))]) (lenOf pd_8 rfl) rfl (by show 2 * 0 + _ ≤ _; exact Nat.le_of_eq rfl) (hb hby d6_36) (fun _ _ => ⟨rfl, e3, (by decide : 0 + 0 ≤ _), (by decide : 0 + 0 ≤ _)⟩)
  dsimp only [Pt.U, Pt.locs, Pt.cells, Pt.slots] at X4 l4 y4 z4 st4 hQ4
  have l4y := l4.symm
  clear l4
  subst l4y
  obtain rfl : k4 = 0 := y4
  obtain rfl : n4 = 0 := z4
  obtain ⟨rfl, N4q, e4⟩ := hQ4
  have N4 := Fr.app N3 N4q
  refine own_to T4 (mkF m 39 #[.val (.ref a1), .val (.long (own_pk (x) (38))), .second, .val (.long (own_pk (x) (0))), .second] [(.int (Int32.ofNat ((38 / 4 + 7) / 8))), (.long (own_pk (x) (0)))]) (fun tq kq => st4 _ kq) ?_
  rw [show (Int32.ofNat ((38 / 4 + 7) / 8)) = Int32.ofNat 2 from rfl]
  refine own_to T4 (mkF m 44 #[.val (.ref a1), .val (.long (own_pk (x) (38))), .second, .val (.long (own_pk (x) (0))), .second] [(.long ((own_pk (x) (0)) + (((Int32.ofNat 2).toInt64) <<< ((32 : Int32) &&& 0x3f).toInt64)))]) (fun tq kq => XS.i2l X4.here hx rfl (hb hby d6_39) rfl (XS.bipush X4.here hx rfl (hb hby d6_40) (XS.lshl X4.here hx rfl (hb hby d6_42) rfl (XS.ladd X4.here hx rfl (hb hby d6_43) rfl kq)))) ?_
  rw [own_plus (x := x) (n := 0) (by omega) (by omega)]
  refine own_to T4 (mkF m 46 #[.val (.ref a1), .val (.long (own_pk (x) (38))), .second, .val (.long (own_pk (x + 2) (0))), .second] [(.long (own_pk (x + 2) (0)))]) (fun tq kq => XS.lstoreN X4.here hx rfl (hb hby d6_44) rfl (l' := #[.val (.ref a1), .val (.long (own_pk (x) (38))), .second, .val (.long (own_pk (x + 2) (0))), .second]) rfl (XS.lloadN X4.here hx rfl (hb hby d6_45) rfl kq)) ?_
  exact own_retJ X4 hx hret hlk (hb hby d6_46) (by decide) (by decide) ⟨rfl, N4, e4⟩
def Q_rm_body10 (Z : State) (a1 : Addr) (f : Nat → Int32) (x : Nat) (h0 : Heap) (n0 : Nat) (v : Option Value) (h : Heap) (L : List Loc) : Prop := v = some (.long (own_pk (x + 1) (8))) ∧ Fr n0 L ∧ h = h0
theorem pd_3 : parseMethodDescriptor "([BI)J" = some ⟨[(.array .byte), .int], some .long⟩ := by decide +kernel
set_option maxRecDepth 65536 in
set_option maxHeartbeats 40000000 in
theorem rm_body10 (l : Launch) (Z : State) (a0 : Array Value) (hw : ∀ d ∈ tables_1, d.before a0 Z = true) (ws : List Jvm.Cond) (a1 : Addr) (f : Nat → Int32) (x : Nat) (h0 : Heap) (n0 : Nat) (Z0 : n0 ≤ h0.size) (A : BArr Z h0 a1 20 f) (hx' : x < 20) (hf : f x = Int32.ofNat 8) :
    MetFree l (⟨"com/example/warmjoin/warmjoin/PackedFields", "body", "([BJ)J"⟩ : MethodName) (head1 (Jvm.Cond.code (⟨"com/example/warmjoin/warmjoin/PackedFields", "body", "([BJ)J"⟩ : MethodName) prog_99_method_19_code 5 (some .long) :: ws) ({ frames := 1, cells := 0, slots := 0, locals := 22 } : Room)) (fun a U => a = #[(.ref a1), (.long (own_pk (x) (37)))] ∧ Z.Warmed39 U.vm ∧ U.heap = h0) (fun _ _ _ _ _ => True) (fun _ U o U' => ∃ v L, o = .returned v ∧ Q_rm_body10 Z a1 f x h0 n0 v U'.heap L ∧ FrameEnd U o U' L ({ frames := 1, cells := 0, slots := 0, locals := 22 } : Room).cells ({ frames := 1, cells := 0, slots := 0, locals := 22 } : Room).slots) := by
  refine own_met (y := (⟨"com/example/warmjoin/warmjoin/PackedFields", "body", "([BJ)J"⟩ : MethodName)) (Q := (Q_rm_body10 Z a1 f x h0 n0)) (plainFor_of_name pn_8) fun p e s m below meth c s₁ X0 hx hby hml hret hlk hown hnm hZ e0 => ?_
  refine own_entry (ef_6_RJ m a1 (own_pk (x) (37))) ?_
  refine own_to s₁ (mkF m 7 #[.val (.ref a1), .val (.long (own_pk (x) (37))), .second, .unset, .unset] [(.long ((((own_pk (x) (37)).toUInt64 >>> ((32 : Int32) &&& 0x3f).toInt64.toUInt64).toInt64) <<< ((32 : Int32) &&& 0x3f).toInt64))]) (fun tq kq => XS.lloadN X0.here hx rfl (hb hby d6_0) rfl (XS.bipush X0.here hx rfl (hb hby d6_1) (XS.lushr X0.here hx rfl (hb hby d6_3) rfl (XS.bipush X0.here hx rfl (hb hby d6_4) (XS.lshl X0.here hx rfl (hb hby d6_6) rfl kq))))) ?_
  rw [own_lo (by omega) (by omega)]
  refine own_to s₁ (mkF m 9 #[.val (.ref a1), .val (.long (own_pk (x) (37))), .second, .val (.long (own_pk (x) (0))), .second] [(.long (own_pk (x) (37)))]) (fun tq kq => XS.lstoreN X0.here hx rfl (hb hby d6_7) rfl (l' := #[.val (.ref a1), .val (.long (own_pk (x) (37))), .second, .val (.long (own_pk (x) (0))), .second]) rfl (XS.lloadN X0.here hx rfl (hb hby d6_8) rfl kq)) ?_
  obtain ⟨_, _, ⟨T1, L1, k1, n1⟩, -, X1, ⟨Lc1, hQ1, l1, y1, z1⟩, st1⟩ := Jvm.LawKit.callS X0 hx (y := (⟨"com/example/warmjoin/warmjoin/PackedFields", "isText", "(J)Z"⟩ : MethodName)) hown (mvT hZ (own_w hw 36 rfl)) (mvT hZ (own_w hw 37 rfl)) (mvT hZ (own_w hw 30 rfl)) (mvT hZ (own_w hw 38 rfl)) (by decide) (backOf (W := 0) (rm_isText l Z a0 hw [] (x) (37) h0 n0 Z0 (by omega) (by omega)) hZ (own_w hw 38 rfl) (own_w hw 30 rfl) (by decide) (by decide)) (g := (mkF m 9 #[.val (.ref a1), .val (.long (own_pk (x) (37))), .second, .val (.long (own_pk (x) (0))), .second] [(.long (own_pk (x) (37)))])) rfl (by rw [hml]; rfl) (argsL := [(.long (own_pk (x) (37)))]) (rest := []) (lenOf pd_5 rfl) rfl (by show 2 * 0 + _ ≤ _; exact Nat.le_of_eq rfl) (hb hby d6_9) (fun _ _ => ⟨rfl, e0, (by decide : 0 + 0 ≤ _), (by decide : 0 + 0 ≤ _)⟩)
  dsimp only [Pt.U, Pt.locs, Pt.cells, Pt.slots] at X1 l1 y1 z1 st1 hQ1
  have l1y := l1.symm
  clear l1
  subst l1y
  obtain rfl : k1 = 0 := y1
  obtain rfl : n1 = 0 := z1
  obtain ⟨rfl, N1q, e1⟩ := hQ1
  have N1 := Fr.app (Fr.nil n0) N1q
  refine own_to T1 (mkF m 12 #[.val (.ref a1), .val (.long (own_pk (x) (37))), .second, .val (.long (own_pk (x) (0))), .second] [(.int (Int32.ofNat (37 % 2)))]) (fun tq kq => st1 _ kq) ?_
  rw [show (Int32.ofNat (37 % 2)) = (1 : Int32) from rfl]
  refine own_to T1 (mkF m 17 #[.val (.ref a1), .val (.long (own_pk (x) (37))), .second, .val (.long (own_pk (x) (0))), .second] [(.long (own_pk (x) (0))), (.ref a1)]) (fun tq kq => XS.ifNo X1.here hx rfl (hb hby d6_12) rfl ((if0 _ _).trans (feq (by decide : ¬ ((1 : Int32) = (0 : Int32)))).1) (XS.aloadN X1.here hx rfl (hb hby d6_15) rfl rfl (XS.lloadN X1.here hx rfl (hb hby d6_16) rfl kq))) ?_
  obtain ⟨_, _, ⟨T2, L2, k2, n2⟩, -, X2, ⟨Lc2, hQ2, l2, y2, z2⟩, st2⟩ := Jvm.LawKit.callS X1 hx (y := (⟨"com/example/warmjoin/warmjoin/PackedFields", "start", "(J)I"⟩ : MethodName)) hown (mvT hZ (own_w hw 39 rfl)) (mvT hZ (own_w hw 40 rfl)) (mvT hZ (own_w hw 30 rfl)) (mvT hZ (own_w hw 41 rfl)) (by decide) (backOf (W := 1) (rm_start l Z a0 hw [] (x) (0) h0 n0 Z0 (by omega) (by omega)) hZ (own_w hw 41 rfl) (own_w hw 30 rfl) (by decide) (by decide)) (g := (mkF m 17 #[.val (.ref a1), .val (.long (own_pk (x) (37))), .second, .val (.long (own_pk (x) (0))), .second] [(.long (own_pk (x) (0))), (.ref a1)])) rfl (by rw [hml]; rfl) (argsL := [(.long (own_pk (x) (0)))]) (rest := [(.ref a1)]) (lenOf pd_6 rfl) rfl (by show 2 * 0 + _ ≤ _; exact Nat.le_of_eq rfl) (hb hby d6_17) (fun _ _ => ⟨rfl, e1, (by decide : 0 + 0 ≤ _), (by decide : 0 + 0 ≤ _)⟩)
  dsimp only [Pt.U, Pt.locs, Pt.cells, Pt.slots] at X2 l2 y2 z2 st2 hQ2
  have l2y := l2.symm
  clear l2
  subst l2y
  obtain rfl : k2 = 0 := y2
  obtain rfl : n2 = 0 := z2
  obtain ⟨rfl, N2q, e2⟩ := hQ2
  have N2 := Fr.app N1 N2q
  refine own_to T2 (mkF m 20 #[.val (.ref a1), .val (.long (own_pk (x) (37))), .second, .val (.long (own_pk (x) (0))), .second] [(.int (Int32.ofNat (x))), (.ref a1)]) (fun tq kq => st2 _ kq) ?_
  obtain ⟨_, _, ⟨T3, L3, k3, n3⟩, -, X3, ⟨Lc3, hQ3, l3, y3, z3⟩, st3⟩ := Jvm.LawKit.callS X2 hx (y := (⟨"com/example/warmjoin/warmjoin/PackedFields", "number", "([BI)J"⟩ : MethodName)) hown (mvT hZ (own_w hw 42 rfl)) (mvT hZ (own_w hw 29 rfl)) (mvT hZ (own_w hw 30 rfl)) (mvT hZ (own_w hw 31 rfl)) (by decide) (backOf (W := 0) (rm_number l Z a0 hw [] a1 f (x) (8) h0 n0 Z0 A (by omega) hf (by omega)) hZ (own_w hw 31 rfl) (own_w hw 30 rfl) (by decide) (by decide)) (g := (mkF m 20 #[.val (.ref a1), .val (.long (own_pk (x) (37))), .second, .val (.long (own_pk (x) (0))), .second] [(.int (Int32.ofNat (x))), (.ref a1)])) rfl (by rw [hml]; rfl) (argsL := [(.ref a1), (.int (Int32.ofNat (x)))]) (rest := []) (lenOf pd_3 rfl) rfl (by show 2 * 0 + _ ≤ _; exact Nat.le_of_eq rfl) (hb hby d6_20) (fun _ _ => ⟨rfl, e2, (by decide : 0 + 0 ≤ _), (by decide : 0 + 0 ≤ _)⟩)
  dsimp only [Pt.U, Pt.locs, Pt.cells, Pt.slots] at X3 l3 y3 z3 st3 hQ3
  have l3y := l3.symm
  clear l3
  subst l3y
  obtain rfl : k3 = 0 := y3
  obtain rfl : n3 = 0 := z3
  obtain ⟨rfl, N3q, e3⟩ := hQ3
  have N3 := Fr.app N2 N3q
  refine own_to T3 (mkF m 25 #[.val (.ref a1), .val (.long (own_pk (x) (37))), .second, .val (.long (own_pk (x + 1) (8))), .second] [(.long (own_pk (x) (37)))]) (fun tq kq => st3 _ (XS.lstoreN X3.here hx rfl (hb hby d6_23) rfl (l' := #[.val (.ref a1), .val (.long (own_pk (x) (37))), .second, .val (.long (own_pk (x + 1) (8))), .second]) rfl (XS.lloadN X3.here hx rfl (hb hby d6_24) rfl kq))) ?_
  obtain ⟨_, _, ⟨T4, L4, k4, n4⟩, -, X4, ⟨Lc4, hQ4, l4, y4, z4⟩, st4⟩ := Jvm.LawKit.callS X3 hx (y := (⟨"com/example/warmjoin/warmjoin/PackedFields", "hasLiterals", "(J)Z"⟩ : MethodName)) hown (mvT hZ (own_w hw 43 rfl)) (mvT hZ (own_w hw 44 rfl)) (mvT hZ (own_w hw 30 rfl)) (mvT hZ (own_w hw 45 rfl)) (by decide) (backOf (W := 0) (rm_hasLiterals l Z a0 hw [] (x) (37) h0 n0 Z0 (by omega) (by omega)) hZ (own_w hw 45 rfl) (own_w hw 30 rfl) (by decide) (by decide)) (g := (mkF m 25 #[.val (.ref a1), .val (.long (own_pk (x) (37))), .second, .val (.long (own_pk (x + 1) (8))), .second] [(.long (own_pk (x) (37)))])) rfl (by rw [hml]; rfl) (argsL := [(.long (own_pk (x) (37)))]) (rest := []) (lenOf pd_5 rfl) rfl (by show 2 * 0 + _ ≤ _; exact Nat.le_of_eq rfl) (hb hby d6_25) (fun _ _ => ⟨rfl, e3, (by decide : 0 + 0 ≤ _), (by decide : 0 + 0 ≤ _)⟩)
  dsimp only [Pt.U, Pt.locs, Pt.cells, Pt.slots] at X4 l4 y4 z4 st4 hQ4
  have l4y := l4.symm
  clear l4
  subst l4y
  obtain rfl : k4 = 0 := y4
  obtain rfl : n4 = 0 := z4
  obtain ⟨rfl, N4q, e4⟩ := hQ4
  have N4 := Fr.app N3 N4q
  refine own_to T4 (mkF m 28 #[.val (.ref a1), .val (.long (own_pk (x) (37))), .second, .val (.long (own_pk (x + 1) (8))), .second] [(.int (Int32.ofNat (37 / 2 % 2)))]) (fun tq kq => st4 _ kq) ?_
  rw [show (Int32.ofNat (37 / 2 % 2)) = (0 : Int32) from rfl]
  refine own_to T4 (mkF m 46 #[.val (.ref a1), .val (.long (own_pk (x) (37))), .second, .val (.long (own_pk (x + 1) (8))), .second] [(.long (own_pk (x + 1) (8)))]) (fun tq kq => XS.ifYes X4.here hx rfl (pc0 := 28) (pc' := 45) rfl (hb hby d6_28) rfl ((if0 _ _).trans (teq (by decide : (0 : Int32) = (0 : Int32))).1) (by decide) (by decide) (XS.lloadN X4.here hx rfl (hb hby d6_45) rfl kq)) ?_
  exact own_retJ X4 hx hret hlk (hb hby d6_46) (by decide) (by decide) ⟨rfl, N4, e4⟩
def Q_rm_body11 (Z : State) (a1 : Addr) (f : Nat → Int32) (x : Nat) (h0 : Heap) (n0 : Nat) (v : Option Value) (h : Heap) (L : List Loc) : Prop := v = some (.long (own_pk (x + 1 + 2) (8))) ∧ Fr n0 L ∧ h = h0
set_option maxRecDepth 65536 in
set_option maxHeartbeats 40000000 in
theorem rm_body11 (l : Launch) (Z : State) (a0 : Array Value) (hw : ∀ d ∈ tables_1, d.before a0 Z = true) (ws : List Jvm.Cond) (a1 : Addr) (f : Nat → Int32) (x : Nat) (h0 : Heap) (n0 : Nat) (Z0 : n0 ≤ h0.size) (A : BArr Z h0 a1 20 f) (hx' : x < 20) (hf : f x = Int32.ofNat 8) :
    MetFree l (⟨"com/example/warmjoin/warmjoin/PackedFields", "body", "([BJ)J"⟩ : MethodName) (head1 (Jvm.Cond.code (⟨"com/example/warmjoin/warmjoin/PackedFields", "body", "([BJ)J"⟩ : MethodName) prog_99_method_19_code 5 (some .long) :: ws) ({ frames := 1, cells := 0, slots := 0, locals := 22 } : Room)) (fun a U => a = #[(.ref a1), (.long (own_pk (x) (39)))] ∧ Z.Warmed39 U.vm ∧ U.heap = h0) (fun _ _ _ _ _ => True) (fun _ U o U' => ∃ v L, o = .returned v ∧ Q_rm_body11 Z a1 f x h0 n0 v U'.heap L ∧ FrameEnd U o U' L ({ frames := 1, cells := 0, slots := 0, locals := 22 } : Room).cells ({ frames := 1, cells := 0, slots := 0, locals := 22 } : Room).slots) := by
  refine own_met (y := (⟨"com/example/warmjoin/warmjoin/PackedFields", "body", "([BJ)J"⟩ : MethodName)) (Q := (Q_rm_body11 Z a1 f x h0 n0)) (plainFor_of_name pn_8) fun p e s m below meth c s₁ X0 hx hby hml hret hlk hown hnm hZ e0 => ?_
  refine own_entry (ef_6_RJ m a1 (own_pk (x) (39))) ?_
  refine own_to s₁ (mkF m 7 #[.val (.ref a1), .val (.long (own_pk (x) (39))), .second, .unset, .unset] [(.long ((((own_pk (x) (39)).toUInt64 >>> ((32 : Int32) &&& 0x3f).toInt64.toUInt64).toInt64) <<< ((32 : Int32) &&& 0x3f).toInt64))]) (fun tq kq => XS.lloadN X0.here hx rfl (hb hby d6_0) rfl (XS.bipush X0.here hx rfl (hb hby d6_1) (XS.lushr X0.here hx rfl (hb hby d6_3) rfl (XS.bipush X0.here hx rfl (hb hby d6_4) (XS.lshl X0.here hx rfl (hb hby d6_6) rfl kq))))) ?_
  rw [own_lo (by omega) (by omega)]
  refine own_to s₁ (mkF m 9 #[.val (.ref a1), .val (.long (own_pk (x) (39))), .second, .val (.long (own_pk (x) (0))), .second] [(.long (own_pk (x) (39)))]) (fun tq kq => XS.lstoreN X0.here hx rfl (hb hby d6_7) rfl (l' := #[.val (.ref a1), .val (.long (own_pk (x) (39))), .second, .val (.long (own_pk (x) (0))), .second]) rfl (XS.lloadN X0.here hx rfl (hb hby d6_8) rfl kq)) ?_
  obtain ⟨_, _, ⟨T1, L1, k1, n1⟩, -, X1, ⟨Lc1, hQ1, l1, y1, z1⟩, st1⟩ := Jvm.LawKit.callS X0 hx (y := (⟨"com/example/warmjoin/warmjoin/PackedFields", "isText", "(J)Z"⟩ : MethodName)) hown (mvT hZ (own_w hw 36 rfl)) (mvT hZ (own_w hw 37 rfl)) (mvT hZ (own_w hw 30 rfl)) (mvT hZ (own_w hw 38 rfl)) (by decide) (backOf (W := 0) (rm_isText l Z a0 hw [] (x) (39) h0 n0 Z0 (by omega) (by omega)) hZ (own_w hw 38 rfl) (own_w hw 30 rfl) (by decide) (by decide)) (g := (mkF m 9 #[.val (.ref a1), .val (.long (own_pk (x) (39))), .second, .val (.long (own_pk (x) (0))), .second] [(.long (own_pk (x) (39)))])) rfl (by rw [hml]; rfl) (argsL := [(.long (own_pk (x) (39)))]) (rest := []) (lenOf pd_5 rfl) rfl (by show 2 * 0 + _ ≤ _; exact Nat.le_of_eq rfl) (hb hby d6_9) (fun _ _ => ⟨rfl, e0, (by decide : 0 + 0 ≤ _), (by decide : 0 + 0 ≤ _)⟩)
  dsimp only [Pt.U, Pt.locs, Pt.cells, Pt.slots] at X1 l1 y1 z1 st1 hQ1
  have l1y := l1.symm
  clear l1
  subst l1y
  obtain rfl : k1 = 0 := y1
  obtain rfl : n1 = 0 := z1
  obtain ⟨rfl, N1q, e1⟩ := hQ1
  have N1 := Fr.app (Fr.nil n0) N1q
  refine own_to T1 (mkF m 12 #[.val (.ref a1), .val (.long (own_pk (x) (39))), .second, .val (.long (own_pk (x) (0))), .second] [(.int (Int32.ofNat (39 % 2)))]) (fun tq kq => st1 _ kq) ?_
  rw [show (Int32.ofNat (39 % 2)) = (1 : Int32) from rfl]
  refine own_to T1 (mkF m 17 #[.val (.ref a1), .val (.long (own_pk (x) (39))), .second, .val (.long (own_pk (x) (0))), .second] [(.long (own_pk (x) (0))), (.ref a1)]) (fun tq kq => XS.ifNo X1.here hx rfl (hb hby d6_12) rfl ((if0 _ _).trans (feq (by decide : ¬ ((1 : Int32) = (0 : Int32)))).1) (XS.aloadN X1.here hx rfl (hb hby d6_15) rfl rfl (XS.lloadN X1.here hx rfl (hb hby d6_16) rfl kq))) ?_
  obtain ⟨_, _, ⟨T2, L2, k2, n2⟩, -, X2, ⟨Lc2, hQ2, l2, y2, z2⟩, st2⟩ := Jvm.LawKit.callS X1 hx (y := (⟨"com/example/warmjoin/warmjoin/PackedFields", "start", "(J)I"⟩ : MethodName)) hown (mvT hZ (own_w hw 39 rfl)) (mvT hZ (own_w hw 40 rfl)) (mvT hZ (own_w hw 30 rfl)) (mvT hZ (own_w hw 41 rfl)) (by decide) (backOf (W := 1) (rm_start l Z a0 hw [] (x) (0) h0 n0 Z0 (by omega) (by omega)) hZ (own_w hw 41 rfl) (own_w hw 30 rfl) (by decide) (by decide)) (g := (mkF m 17 #[.val (.ref a1), .val (.long (own_pk (x) (39))), .second, .val (.long (own_pk (x) (0))), .second] [(.long (own_pk (x) (0))), (.ref a1)])) rfl (by rw [hml]; rfl) (argsL := [(.long (own_pk (x) (0)))]) (rest := [(.ref a1)]) (lenOf pd_6 rfl) rfl (by show 2 * 0 + _ ≤ _; exact Nat.le_of_eq rfl) (hb hby d6_17) (fun _ _ => ⟨rfl, e1, (by decide : 0 + 0 ≤ _), (by decide : 0 + 0 ≤ _)⟩)
  dsimp only [Pt.U, Pt.locs, Pt.cells, Pt.slots] at X2 l2 y2 z2 st2 hQ2
  have l2y := l2.symm
  clear l2
  subst l2y
  obtain rfl : k2 = 0 := y2
  obtain rfl : n2 = 0 := z2
  obtain ⟨rfl, N2q, e2⟩ := hQ2
  have N2 := Fr.app N1 N2q
  refine own_to T2 (mkF m 20 #[.val (.ref a1), .val (.long (own_pk (x) (39))), .second, .val (.long (own_pk (x) (0))), .second] [(.int (Int32.ofNat (x))), (.ref a1)]) (fun tq kq => st2 _ kq) ?_
  obtain ⟨_, _, ⟨T3, L3, k3, n3⟩, -, X3, ⟨Lc3, hQ3, l3, y3, z3⟩, st3⟩ := Jvm.LawKit.callS X2 hx (y := (⟨"com/example/warmjoin/warmjoin/PackedFields", "number", "([BI)J"⟩ : MethodName)) hown (mvT hZ (own_w hw 42 rfl)) (mvT hZ (own_w hw 29 rfl)) (mvT hZ (own_w hw 30 rfl)) (mvT hZ (own_w hw 31 rfl)) (by decide) (backOf (W := 0) (rm_number l Z a0 hw [] a1 f (x) (8) h0 n0 Z0 A (by omega) hf (by omega)) hZ (own_w hw 31 rfl) (own_w hw 30 rfl) (by decide) (by decide)) (g := (mkF m 20 #[.val (.ref a1), .val (.long (own_pk (x) (39))), .second, .val (.long (own_pk (x) (0))), .second] [(.int (Int32.ofNat (x))), (.ref a1)])) rfl (by rw [hml]; rfl) (argsL := [(.ref a1), (.int (Int32.ofNat (x)))]) (rest := []) (lenOf pd_3 rfl) rfl (by show 2 * 0 + _ ≤ _; exact Nat.le_of_eq rfl) (hb hby d6_20) (fun _ _ => ⟨rfl, e2, (by decide : 0 + 0 ≤ _), (by decide : 0 + 0 ≤ _)⟩)
  dsimp only [Pt.U, Pt.locs, Pt.cells, Pt.slots] at X3 l3 y3 z3 st3 hQ3
  have l3y := l3.symm
  clear l3
  subst l3y
  obtain rfl : k3 = 0 := y3
  obtain rfl : n3 = 0 := z3
  obtain ⟨rfl, N3q, e3⟩ := hQ3
  have N3 := Fr.app N2 N3q
  refine own_to T3 (mkF m 25 #[.val (.ref a1), .val (.long (own_pk (x) (39))), .second, .val (.long (own_pk (x + 1) (8))), .second] [(.long (own_pk (x) (39)))]) (fun tq kq => st3 _ (XS.lstoreN X3.here hx rfl (hb hby d6_23) rfl (l' := #[.val (.ref a1), .val (.long (own_pk (x) (39))), .second, .val (.long (own_pk (x + 1) (8))), .second]) rfl (XS.lloadN X3.here hx rfl (hb hby d6_24) rfl kq))) ?_
  obtain ⟨_, _, ⟨T4, L4, k4, n4⟩, -, X4, ⟨Lc4, hQ4, l4, y4, z4⟩, st4⟩ := Jvm.LawKit.callS X3 hx (y := (⟨"com/example/warmjoin/warmjoin/PackedFields", "hasLiterals", "(J)Z"⟩ : MethodName)) hown (mvT hZ (own_w hw 43 rfl)) (mvT hZ (own_w hw 44 rfl)) (mvT hZ (own_w hw 30 rfl)) (mvT hZ (own_w hw 45 rfl)) (by decide) (backOf (W := 0) (rm_hasLiterals l Z a0 hw [] (x) (39) h0 n0 Z0 (by omega) (by omega)) hZ (own_w hw 45 rfl) (own_w hw 30 rfl) (by decide) (by decide)) (g := (mkF m 25 #[.val (.ref a1), .val (.long (own_pk (x) (39))), .second, .val (.long (own_pk (x + 1) (8))), .second] [(.long (own_pk (x) (39)))])) rfl (by rw [hml]; rfl) (argsL := [(.long (own_pk (x) (39)))]) (rest := []) (lenOf pd_5 rfl) rfl (by show 2 * 0 + _ ≤ _; exact Nat.le_of_eq rfl) (hb hby d6_25) (fun _ _ => ⟨rfl, e3, (by decide : 0 + 0 ≤ _), (by decide : 0 + 0 ≤ _)⟩)
  dsimp only [Pt.U, Pt.locs, Pt.cells, Pt.slots] at X4 l4 y4 z4 st4 hQ4
  have l4y := l4.symm
  clear l4
  subst l4y
  obtain rfl : k4 = 0 := y4
  obtain rfl : n4 = 0 := z4
  obtain ⟨rfl, N4q, e4⟩ := hQ4
  have N4 := Fr.app N3 N4q
  refine own_to T4 (mkF m 28 #[.val (.ref a1), .val (.long (own_pk (x) (39))), .second, .val (.long (own_pk (x + 1) (8))), .second] [(.int (Int32.ofNat (39 / 2 % 2)))]) (fun tq kq => st4 _ kq) ?_
  rw [show (Int32.ofNat (39 / 2 % 2)) = (1 : Int32) from rfl]
  refine own_to T4 (mkF m 33 #[.val (.ref a1), .val (.long (own_pk (x) (39))), .second, .val (.long (own_pk (x + 1) (8))), .second] [(.long (own_pk (x) (39))), (.long (own_pk (x + 1) (8)))]) (fun tq kq => XS.ifNo X4.here hx rfl (hb hby d6_28) rfl ((if0 _ _).trans (feq (by decide : ¬ ((1 : Int32) = (0 : Int32)))).1) (XS.lloadN X4.here hx rfl (hb hby d6_31) rfl (XS.lloadN X4.here hx rfl (hb hby d6_32) rfl kq))) ?_
  obtain ⟨_, _, ⟨T5, L5, k5, n5⟩, -, X5, ⟨Lc5, hQ5, l5, y5, z5⟩, st5⟩ := Jvm.LawKit.callS X4 hx (y := (⟨"com/example/warmjoin/warmjoin/PackedFields", "fieldsOf", "(J)I"⟩ : MethodName)) hown (mvT hZ (own_w hw 75 rfl)) (mvT hZ (own_w hw 47 rfl)) (mvT hZ (own_w hw 30 rfl)) (mvT hZ (own_w hw 48 rfl)) (by decide) (backOf (W := 2) (rm_fieldsOf l Z a0 hw [] (x) (39) h0 n0 Z0 (by omega) (by omega)) hZ (own_w hw 48 rfl) (own_w hw 30 rfl) (by decide) (by decide)) (g := (mkF m 33 #[.val (.ref a1), .val (.long (own_pk (x) (39))), .second, .val (.long (own_pk (x + 1) (8))), .second] [(.long (own_pk (x) (39))), (.long (own_pk (x + 1) (8)))])) rfl (by rw [hml]; rfl) (argsL := [(.long (own_pk (x) (39)))]) (rest := [(.long (own_pk (x + 1) (8)))]) (lenOf pd_6 rfl) rfl (by show 2 * 0 + _ ≤ _; exact Nat.le_of_eq rfl) (hb hby d6_33) (fun _ _ => ⟨rfl, e4, (by decide : 0 + 0 ≤ _), (by decide : 0 + 0 ≤ _)⟩)
  dsimp only [Pt.U, Pt.locs, Pt.cells, Pt.slots] at X5 l5 y5 z5 st5 hQ5
  have l5y := l5.symm
  clear l5
  subst l5y
  obtain rfl : k5 = 0 := y5
  obtain rfl : n5 = 0 := z5
  obtain ⟨rfl, N5q, e5⟩ := hQ5
  have N5 := Fr.app N4 N5q
  refine own_to T5 (mkF m 36 #[.val (.ref a1), .val (.long (own_pk (x) (39))), .second, .val (.long (own_pk (x + 1) (8))), .second] [(.int (Int32.ofNat (39 / 4))), (.long (own_pk (x + 1) (8)))]) (fun tq kq => st5 _ kq) ?_
  obtain ⟨_, _, ⟨T6, L6, k6, n6⟩, -, X6, ⟨Lc6, hQ6, l6, y6, z6⟩, st6⟩ := Jvm.LawKit.callS X5 hx (y := (⟨"com/example/warmjoin/warmjoin/PackedFields", "literalBytes", "(I)I"⟩ : MethodName)) hown (mvT hZ (own_w hw 76 rfl)) (mvT hZ (own_w hw 77 rfl)) (mvT hZ (own_w hw 30 rfl)) (mvT hZ (own_w hw 78 rfl)) (by decide) (backOf (W := 2) (rm_literalBytes l Z a0 hw [] (39 / 4) h0 n0 Z0 (by omega)) hZ (own_w hw 78 rfl) (own_w hw 30 rfl) (by decide) (by decide)) (g := (mkF m 36 #[.val (.ref a1), .val (.long (own_pk (x) (39))), .second, .val (.long (own_pk (x + 1) (8))), .second] [(.int (Int32.ofNat (39 / 4))), (.long (own_pk (x + 1) (8)))])) rfl (by rw [hml]; rfl) (argsL := [(.int (Int32.ofNat (39 / 4)))]) (rest := [(.long (own_pk (x + 1) (8)))]) (lenOf pd_8 rfl) rfl (by show 2 * 0 + _ ≤ _; exact Nat.le_of_eq rfl) (hb hby d6_36) (fun _ _ => ⟨rfl, e5, (by decide : 0 + 0 ≤ _), (by decide : 0 + 0 ≤ _)⟩)
  dsimp only [Pt.U, Pt.locs, Pt.cells, Pt.slots] at X6 l6 y6 z6 st6 hQ6
  have l6y := l6.symm
  clear l6
  subst l6y
  obtain rfl : k6 = 0 := y6
  obtain rfl : n6 = 0 := z6
  obtain ⟨rfl, N6q, e6⟩ := hQ6
  have N6 := Fr.app N5 N6q
  refine own_to T6 (mkF m 39 #[.val (.ref a1), .val (.long (own_pk (x) (39))), .second, .val (.long (own_pk (x + 1) (8))), .second] [(.int (Int32.ofNat ((39 / 4 + 7) / 8))), (.long (own_pk (x + 1) (8)))]) (fun tq kq => st6 _ kq) ?_
  rw [show (Int32.ofNat ((39 / 4 + 7) / 8)) = Int32.ofNat 2 from rfl]
  refine own_to T6 (mkF m 44 #[.val (.ref a1), .val (.long (own_pk (x) (39))), .second, .val (.long (own_pk (x + 1) (8))), .second] [(.long ((own_pk (x + 1) (8)) + (((Int32.ofNat 2).toInt64) <<< ((32 : Int32) &&& 0x3f).toInt64)))]) (fun tq kq => XS.i2l X6.here hx rfl (hb hby d6_39) rfl (XS.bipush X6.here hx rfl (hb hby d6_40) (XS.lshl X6.here hx rfl (hb hby d6_42) rfl (XS.ladd X6.here hx rfl (hb hby d6_43) rfl kq)))) ?_
  rw [own_plus (x := x + 1) (n := 8) (by omega) (by omega)]
  refine own_to T6 (mkF m 46 #[.val (.ref a1), .val (.long (own_pk (x) (39))), .second, .val (.long (own_pk (x + 1 + 2) (8))), .second] [(.long (own_pk (x + 1 + 2) (8)))]) (fun tq kq => XS.lstoreN X6.here hx rfl (hb hby d6_44) rfl (l' := #[.val (.ref a1), .val (.long (own_pk (x) (39))), .second, .val (.long (own_pk (x + 1 + 2) (8))), .second]) rfl (XS.lloadN X6.here hx rfl (hb hby d6_45) rfl kq)) ?_
  exact own_retJ X6 hx hret hlk (hb hby d6_46) (by decide) (by decide) ⟨rfl, N6, e6⟩
theorem own_small (x m : Int32) (k : Nat) (hk : m.toInt = k) (hm : 0 ≤ m.toInt) : ∃ u, u ≤ k ∧ (x &&& m) = Int32.ofNat u := by
  have b := c_and x m hm
  generalize x &&& m = y at *
  have hn : ¬ y < 0 := by
    rw [Int32.lt_iff_toInt_lt]
    have z0 : (0 : Int32).toInt = 0 := by decide
    omega
  have q := nat_of hn
  exact ⟨y.toNatClampNeg, by omega, (back32 hn).1.symm⟩
def Cur (Z : State) (h : Heap) (a : Addr) (pk : Value) (v1 v2 v3 v4 v5 v6 v7 v8 v9 : Int32) : Prop := Exa Z h a "com/example/warmjoin/warmjoin/PackedFields$Cursor" ∧ Fld Z h a "com/example/warmjoin/warmjoin/PackedFields$Cursor" "packed" "[B" pk ∧ Fld Z h a "com/example/warmjoin/warmjoin/PackedFields$Cursor" "to" "I" (.int v1) ∧ Fld Z h a "com/example/warmjoin/warmjoin/PackedFields$Cursor" "at" "I" (.int v2) ∧ Fld Z h a "com/example/warmjoin/warmjoin/PackedFields$Cursor" "left" "I" (.int v3) ∧ Fld Z h a "com/example/warmjoin/warmjoin/PackedFields$Cursor" "text" "Z" (.int v4) ∧ Fld Z h a "com/example/warmjoin/warmjoin/PackedFields$Cursor" "textEnd" "I" (.int v5) ∧ Fld Z h a "com/example/warmjoin/warmjoin/PackedFields$Cursor" "literals" "I" (.int v6) ∧ Fld Z h a "com/example/warmjoin/warmjoin/PackedFields$Cursor" "index" "I" (.int v7) ∧ Fld Z h a "com/example/warmjoin/warmjoin/PackedFields$Cursor" "offset" "I" (.int v8) ∧ Fld Z h a "com/example/warmjoin/warmjoin/PackedFields$Cursor" "length" "I" (.int v9)
theorem d1_0 : decode prog_100_method_1_code 0 = .ok (.aload_n 0, 1) := by decide +kernel
theorem d1_1 : decode prog_100_method_1_code 1 = .ok (.invokespecial 1, 3) := by decide +kernel
theorem d1_4 : decode prog_100_method_1_code 4 = .ok (.return_, 1) := by decide +kernel
theorem pn_1 : plainName "com/example/warmjoin/warmjoin/PackedFields$Cursor" = true := by first | (simp [plainName, overriddenIn]; done) | decide +kernel
theorem ef_1_R (m : MethodId) (x0 : Addr) : entryFrame m #[(.ref x0)] 1 = mkF m 0 #[.val (.ref x0)] [] := by first | (simp [entryFrame, mkF, argsToLocals, Value.category]; done) | rfl
def Q_rm_init (Z : State) (a1 : Addr) (h0 : Heap) (n0 : Nat) (v : Option Value) (h : Heap) (L : List Loc) : Prop := v = none ∧ Fr n0 L ∧ h = h0
set_option maxRecDepth 65536 in
set_option maxHeartbeats 40000000 in
theorem rm_init (l : Launch) (Z : State) (a0 : Array Value) (hw : ∀ d ∈ tables_1, d.before a0 Z = true) (ws : List Jvm.Cond) (a1 : Addr) (h0 : Heap) (n0 : Nat) (Z0 : n0 ≤ h0.size)  :
    MetFree l (⟨"com/example/warmjoin/warmjoin/PackedFields$Cursor", "<init>", "()V"⟩ : MethodName) (head1 (Jvm.Cond.code (⟨"com/example/warmjoin/warmjoin/PackedFields$Cursor", "<init>", "()V"⟩ : MethodName) prog_100_method_1_code 1 none :: ws) ({ frames := 1, cells := 0, slots := 0, locals := 12 } : Room)) (fun a U => a = #[(.ref a1)] ∧ Z.Warmed39 U.vm ∧ U.heap = h0) (fun _ _ _ _ _ => True) (fun _ U o U' => ∃ v L, o = .returned v ∧ Q_rm_init Z a1 h0 n0 v U'.heap L ∧ FrameEnd U o U' L ({ frames := 1, cells := 0, slots := 0, locals := 12 } : Room).cells ({ frames := 1, cells := 0, slots := 0, locals := 12 } : Room).slots) := by
  refine own_met (y := (⟨"com/example/warmjoin/warmjoin/PackedFields$Cursor", "<init>", "()V"⟩ : MethodName)) (Q := (Q_rm_init Z a1 h0 n0)) (plainFor_of_name pn_1) fun p e s m below meth c s₁ X0 hx hby hml hret hlk hown hnm hZ e0 => ?_
  refine own_entry (ef_1_R m a1) ?_
  refine own_to s₁ (mkF m 1 #[.val (.ref a1)] [(.ref a1)]) (fun tq kq => XS.aloadN X0.here hx rfl (hb hby d1_0) rfl rfl kq) ?_
  obtain ⟨T1, X1, e1, st1⟩ := initO X0 hx hZ hown (own_w hw 7 rfl) (own_w hw 8 rfl) (own_w hw 9 rfl) e0 (g := (mkF m 1 #[.val (.ref a1)] [(.ref a1)])) rfl (by rw [hml]; rfl) rfl (hb hby d1_1) (by decide) (W := 0) (by show 2 * 0 + _ ≤ _; exact Nat.le_of_eq rfl) (by decide)
  refine own_to T1 (mkF m 4 #[.val (.ref a1)] []) (fun tq kq => st1 _ kq) ?_
  exact own_retV X1 hx hret hlk (hb hby d1_4) (by decide) (by decide) ⟨rfl, (Fr.nil n0), e1⟩
theorem d3_0 : decode prog_100_method_2_code 0 = .ok (.aload_n 0, 1) := by decide +kernel
theorem d3_1 : decode prog_100_method_2_code 1 = .ok (.aload_n 1, 1) := by decide +kernel
theorem d3_2 : decode prog_100_method_2_code 2 = .ok (.putfield 7, 3) := by decide +kernel
theorem d3_5 : decode prog_100_method_2_code 5 = .ok (.aload_n 0, 1) := by decide +kernel
theorem d3_6 : decode prog_100_method_2_code 6 = .ok (.iload_n 3, 1) := by decide +kernel
theorem d3_7 : decode prog_100_method_2_code 7 = .ok (.putfield 13, 3) := by decide +kernel
theorem d3_10 : decode prog_100_method_2_code 10 = .ok (.aload_n 0, 1) := by decide +kernel
theorem d3_11 : decode prog_100_method_2_code 11 = .ok (.iload_n 2, 1) := by decide +kernel
theorem d3_12 : decode prog_100_method_2_code 12 = .ok (.putfield 17, 3) := by decide +kernel
theorem d3_15 : decode prog_100_method_2_code 15 = .ok (.aload_n 0, 1) := by decide +kernel
theorem d3_16 : decode prog_100_method_2_code 16 = .ok (.iconst 0, 1) := by decide +kernel
theorem d3_17 : decode prog_100_method_2_code 17 = .ok (.putfield 20, 3) := by decide +kernel
theorem d3_20 : decode prog_100_method_2_code 20 = .ok (.aload_n 0, 1) := by decide +kernel
theorem d3_21 : decode prog_100_method_2_code 21 = .ok (.areturn, 1) := by decide +kernel
theorem ef_3_RRII (m : MethodId) (x0 : Addr) (x1 : Addr) (x2 : Int32) (x3 : Int32) : entryFrame m #[(.ref x0), (.ref x1), (.int x2), (.int x3)] 4 = mkF m 0 #[.val (.ref x0), .val (.ref x1), .val (.int x2), .val (.int x3)] [] := by first | (simp [entryFrame, mkF, argsToLocals, Value.category]; done) | rfl
def Q_rm_over (Z : State) (a1 pk : Addr) (i' e' : Int32) (h0 : Heap) (n0 : Nat) (v : Option Value) (h : Heap) (L : List Loc) : Prop := v = some (.ref a1) ∧ Fr n0 L ∧ Keep h0 h [a1] ∧ Cur Z h a1 (.ref pk) e' i' (0 : Int32) (0 : Int32) (0 : Int32) (0 : Int32) (0 : Int32) (0 : Int32) (0 : Int32)
theorem sn_to_packed {Z : State} {a0 : Array Value} (hw : ∀ d ∈ tables_1, d.before a0 Z = true) : Jvm.RoadKit.slotOf Z "com/example/warmjoin/warmjoin/PackedFields$Cursor" "to" "I" ≠ Jvm.RoadKit.slotOf Z "com/example/warmjoin/warmjoin/PackedFields$Cursor" "packed" "[B" := Jvm.RoadKit.slot_ne (a0 := a0) (Or.inl (own_w hw 18 rfl)) (Or.inl (own_w hw 16 rfl)) (by decide) (t := .int) (t' := (.array .byte)) (by decide) (by decide)
theorem sn_at_packed {Z : State} {a0 : Array Value} (hw : ∀ d ∈ tables_1, d.before a0 Z = true) : Jvm.RoadKit.slotOf Z "com/example/warmjoin/warmjoin/PackedFields$Cursor" "at" "I" ≠ Jvm.RoadKit.slotOf Z "com/example/warmjoin/warmjoin/PackedFields$Cursor" "packed" "[B" := Jvm.RoadKit.slot_ne (a0 := a0) (Or.inl (own_w hw 20 rfl)) (Or.inl (own_w hw 16 rfl)) (by decide) (t := .int) (t' := (.array .byte)) (by decide) (by decide)
theorem sn_left_packed {Z : State} {a0 : Array Value} (hw : ∀ d ∈ tables_1, d.before a0 Z = true) : Jvm.RoadKit.slotOf Z "com/example/warmjoin/warmjoin/PackedFields$Cursor" "left" "I" ≠ Jvm.RoadKit.slotOf Z "com/example/warmjoin/warmjoin/PackedFields$Cursor" "packed" "[B" := Jvm.RoadKit.slot_ne (a0 := a0) (Or.inl (own_w hw 22 rfl)) (Or.inl (own_w hw 16 rfl)) (by decide) (t := .int) (t' := (.array .byte)) (by decide) (by decide)
theorem sn_text_packed {Z : State} {a0 : Array Value} (hw : ∀ d ∈ tables_1, d.before a0 Z = true) : Jvm.RoadKit.slotOf Z "com/example/warmjoin/warmjoin/PackedFields$Cursor" "text" "Z" ≠ Jvm.RoadKit.slotOf Z "com/example/warmjoin/warmjoin/PackedFields$Cursor" "packed" "[B" := Jvm.RoadKit.slot_ne (a0 := a0) (Or.inl (own_w hw 52 rfl)) (Or.inl (own_w hw 16 rfl)) (by decide) (t := .boolean) (t' := (.array .byte)) (by decide) (by decide)
theorem sn_textEnd_packed {Z : State} {a0 : Array Value} (hw : ∀ d ∈ tables_1, d.before a0 Z = true) : Jvm.RoadKit.slotOf Z "com/example/warmjoin/warmjoin/PackedFields$Cursor" "textEnd" "I" ≠ Jvm.RoadKit.slotOf Z "com/example/warmjoin/warmjoin/PackedFields$Cursor" "packed" "[B" := Jvm.RoadKit.slot_ne (a0 := a0) (Or.inl (own_w hw 57 rfl)) (Or.inl (own_w hw 16 rfl)) (by decide) (t := .int) (t' := (.array .byte)) (by decide) (by decide)
theorem sn_literals_packed {Z : State} {a0 : Array Value} (hw : ∀ d ∈ tables_1, d.before a0 Z = true) : Jvm.RoadKit.slotOf Z "com/example/warmjoin/warmjoin/PackedFields$Cursor" "literals" "I" ≠ Jvm.RoadKit.slotOf Z "com/example/warmjoin/warmjoin/PackedFields$Cursor" "packed" "[B" := Jvm.RoadKit.slot_ne (a0 := a0) (Or.inl (own_w hw 60 rfl)) (Or.inl (own_w hw 16 rfl)) (by decide) (t := .int) (t' := (.array .byte)) (by decide) (by decide)
theorem sn_index_packed {Z : State} {a0 : Array Value} (hw : ∀ d ∈ tables_1, d.before a0 Z = true) : Jvm.RoadKit.slotOf Z "com/example/warmjoin/warmjoin/PackedFields$Cursor" "index" "I" ≠ Jvm.RoadKit.slotOf Z "com/example/warmjoin/warmjoin/PackedFields$Cursor" "packed" "[B" := Jvm.RoadKit.slot_ne (a0 := a0) (Or.inl (own_w hw 62 rfl)) (Or.inl (own_w hw 16 rfl)) (by decide) (t := .int) (t' := (.array .byte)) (by decide) (by decide)
theorem sn_offset_packed {Z : State} {a0 : Array Value} (hw : ∀ d ∈ tables_1, d.before a0 Z = true) : Jvm.RoadKit.slotOf Z "com/example/warmjoin/warmjoin/PackedFields$Cursor" "offset" "I" ≠ Jvm.RoadKit.slotOf Z "com/example/warmjoin/warmjoin/PackedFields$Cursor" "packed" "[B" := Jvm.RoadKit.slot_ne (a0 := a0) (Or.inl (own_w hw 67 rfl)) (Or.inl (own_w hw 16 rfl)) (by decide) (t := .int) (t' := (.array .byte)) (by decide) (by decide)
theorem sn_length_packed {Z : State} {a0 : Array Value} (hw : ∀ d ∈ tables_1, d.before a0 Z = true) : Jvm.RoadKit.slotOf Z "com/example/warmjoin/warmjoin/PackedFields$Cursor" "length" "I" ≠ Jvm.RoadKit.slotOf Z "com/example/warmjoin/warmjoin/PackedFields$Cursor" "packed" "[B" := Jvm.RoadKit.slot_ne (a0 := a0) (Or.inl (own_w hw 69 rfl)) (Or.inl (own_w hw 16 rfl)) (by decide) (t := .int) (t' := (.array .byte)) (by decide) (by decide)
theorem sn_packed_to {Z : State} {a0 : Array Value} (hw : ∀ d ∈ tables_1, d.before a0 Z = true) : Jvm.RoadKit.slotOf Z "com/example/warmjoin/warmjoin/PackedFields$Cursor" "packed" "[B" ≠ Jvm.RoadKit.slotOf Z "com/example/warmjoin/warmjoin/PackedFields$Cursor" "to" "I" := Jvm.RoadKit.slot_ne (a0 := a0) (Or.inl (own_w hw 16 rfl)) (Or.inl (own_w hw 18 rfl)) (by decide) (t := (.array .byte)) (t' := .int) (by decide) (by decide)
theorem sn_at_to {Z : State} {a0 : Array Value} (hw : ∀ d ∈ tables_1, d.before a0 Z = true) : Jvm.RoadKit.slotOf Z "com/example/warmjoin/warmjoin/PackedFields$Cursor" "at" "I" ≠ Jvm.RoadKit.slotOf Z "com/example/warmjoin/warmjoin/PackedFields$Cursor" "to" "I" := Jvm.RoadKit.slot_ne (a0 := a0) (Or.inl (own_w hw 20 rfl)) (Or.inl (own_w hw 18 rfl)) (by decide) (t := .int) (t' := .int) (by decide) (by decide)
theorem sn_left_to {Z : State} {a0 : Array Value} (hw : ∀ d ∈ tables_1, d.before a0 Z = true) : Jvm.RoadKit.slotOf Z "com/example/warmjoin/warmjoin/PackedFields$Cursor" "left" "I" ≠ Jvm.RoadKit.slotOf Z "com/example/warmjoin/warmjoin/PackedFields$Cursor" "to" "I" := Jvm.RoadKit.slot_ne (a0 := a0) (Or.inl (own_w hw 22 rfl)) (Or.inl (own_w hw 18 rfl)) (by decide) (t := .int) (t' := .int) (by decide) (by decide)
theorem sn_text_to {Z : State} {a0 : Array Value} (hw : ∀ d ∈ tables_1, d.before a0 Z = true) : Jvm.RoadKit.slotOf Z "com/example/warmjoin/warmjoin/PackedFields$Cursor" "text" "Z" ≠ Jvm.RoadKit.slotOf Z "com/example/warmjoin/warmjoin/PackedFields$Cursor" "to" "I" := Jvm.RoadKit.slot_ne (a0 := a0) (Or.inl (own_w hw 52 rfl)) (Or.inl (own_w hw 18 rfl)) (by decide) (t := .boolean) (t' := .int) (by decide) (by decide)
theorem sn_textEnd_to {Z : State} {a0 : Array Value} (hw : ∀ d ∈ tables_1, d.before a0 Z = true) : Jvm.RoadKit.slotOf Z "com/example/warmjoin/warmjoin/PackedFields$Cursor" "textEnd" "I" ≠ Jvm.RoadKit.slotOf Z "com/example/warmjoin/warmjoin/PackedFields$Cursor" "to" "I" := Jvm.RoadKit.slot_ne (a0 := a0) (Or.inl (own_w hw 57 rfl)) (Or.inl (own_w hw 18 rfl)) (by decide) (t := .int) (t' := .int) (by decide) (by decide)
theorem sn_literals_to {Z : State} {a0 : Array Value} (hw : ∀ d ∈ tables_1, d.before a0 Z = true) : Jvm.RoadKit.slotOf Z "com/example/warmjoin/warmjoin/PackedFields$Cursor" "literals" "I" ≠ Jvm.RoadKit.slotOf Z "com/example/warmjoin/warmjoin/PackedFields$Cursor" "to" "I" := Jvm.RoadKit.slot_ne (a0 := a0) (Or.inl (own_w hw 60 rfl)) (Or.inl (own_w hw 18 rfl)) (by decide) (t := .int) (t' := .int) (by decide) (by decide)
theorem sn_index_to {Z : State} {a0 : Array Value} (hw : ∀ d ∈ tables_1, d.before a0 Z = true) : Jvm.RoadKit.slotOf Z "com/example/warmjoin/warmjoin/PackedFields$Cursor" "index" "I" ≠ Jvm.RoadKit.slotOf Z "com/example/warmjoin/warmjoin/PackedFields$Cursor" "to" "I" := Jvm.RoadKit.slot_ne (a0 := a0) (Or.inl (own_w hw 62 rfl)) (Or.inl (own_w hw 18 rfl)) (by decide) (t := .int) (t' := .int) (by decide) (by decide)
theorem sn_offset_to {Z : State} {a0 : Array Value} (hw : ∀ d ∈ tables_1, d.before a0 Z = true) : Jvm.RoadKit.slotOf Z "com/example/warmjoin/warmjoin/PackedFields$Cursor" "offset" "I" ≠ Jvm.RoadKit.slotOf Z "com/example/warmjoin/warmjoin/PackedFields$Cursor" "to" "I" := Jvm.RoadKit.slot_ne (a0 := a0) (Or.inl (own_w hw 67 rfl)) (Or.inl (own_w hw 18 rfl)) (by decide) (t := .int) (t' := .int) (by decide) (by decide)
theorem sn_length_to {Z : State} {a0 : Array Value} (hw : ∀ d ∈ tables_1, d.before a0 Z = true) : Jvm.RoadKit.slotOf Z "com/example/warmjoin/warmjoin/PackedFields$Cursor" "length" "I" ≠ Jvm.RoadKit.slotOf Z "com/example/warmjoin/warmjoin/PackedFields$Cursor" "to" "I" := Jvm.RoadKit.slot_ne (a0 := a0) (Or.inl (own_w hw 69 rfl)) (Or.inl (own_w hw 18 rfl)) (by decide) (t := .int) (t' := .int) (by decide) (by decide)
theorem sn_packed_at {Z : State} {a0 : Array Value} (hw : ∀ d ∈ tables_1, d.before a0 Z = true) : Jvm.RoadKit.slotOf Z "com/example/warmjoin/warmjoin/PackedFields$Cursor" "packed" "[B" ≠ Jvm.RoadKit.slotOf Z "com/example/warmjoin/warmjoin/PackedFields$Cursor" "at" "I" := Jvm.RoadKit.slot_ne (a0 := a0) (Or.inl (own_w hw 16 rfl)) (Or.inl (own_w hw 20 rfl)) (by decide) (t := (.array .byte)) (t' := .int) (by decide) (by decide)
theorem sn_to_at {Z : State} {a0 : Array Value} (hw : ∀ d ∈ tables_1, d.before a0 Z = true) : Jvm.RoadKit.slotOf Z "com/example/warmjoin/warmjoin/PackedFields$Cursor" "to" "I" ≠ Jvm.RoadKit.slotOf Z "com/example/warmjoin/warmjoin/PackedFields$Cursor" "at" "I" := Jvm.RoadKit.slot_ne (a0 := a0) (Or.inl (own_w hw 18 rfl)) (Or.inl (own_w hw 20 rfl)) (by decide) (t := .int) (t' := .int) (by decide) (by decide)
theorem sn_left_at {Z : State} {a0 : Array Value} (hw : ∀ d ∈ tables_1, d.before a0 Z = true) : Jvm.RoadKit.slotOf Z "com/example/warmjoin/warmjoin/PackedFields$Cursor" "left" "I" ≠ Jvm.RoadKit.slotOf Z "com/example/warmjoin/warmjoin/PackedFields$Cursor" "at" "I" := Jvm.RoadKit.slot_ne (a0 := a0) (Or.inl (own_w hw 22 rfl)) (Or.inl (own_w hw 20 rfl)) (by decide) (t := .int) (t' := .int) (by decide) (by decide)
theorem sn_text_at {Z : State} {a0 : Array Value} (hw : ∀ d ∈ tables_1, d.before a0 Z = true) : Jvm.RoadKit.slotOf Z "com/example/warmjoin/warmjoin/PackedFields$Cursor" "text" "Z" ≠ Jvm.RoadKit.slotOf Z "com/example/warmjoin/warmjoin/PackedFields$Cursor" "at" "I" := Jvm.RoadKit.slot_ne (a0 := a0) (Or.inl (own_w hw 52 rfl)) (Or.inl (own_w hw 20 rfl)) (by decide) (t := .boolean) (t' := .int) (by decide) (by decide)
theorem sn_textEnd_at {Z : State} {a0 : Array Value} (hw : ∀ d ∈ tables_1, d.before a0 Z = true) : Jvm.RoadKit.slotOf Z "com/example/warmjoin/warmjoin/PackedFields$Cursor" "textEnd" "I" ≠ Jvm.RoadKit.slotOf Z "com/example/warmjoin/warmjoin/PackedFields$Cursor" "at" "I" := Jvm.RoadKit.slot_ne (a0 := a0) (Or.inl (own_w hw 57 rfl)) (Or.inl (own_w hw 20 rfl)) (by decide) (t := .int) (t' := .int) (by decide) (by decide)
theorem sn_literals_at {Z : State} {a0 : Array Value} (hw : ∀ d ∈ tables_1, d.before a0 Z = true) : Jvm.RoadKit.slotOf Z "com/example/warmjoin/warmjoin/PackedFields$Cursor" "literals" "I" ≠ Jvm.RoadKit.slotOf Z "com/example/warmjoin/warmjoin/PackedFields$Cursor" "at" "I" := Jvm.RoadKit.slot_ne (a0 := a0) (Or.inl (own_w hw 60 rfl)) (Or.inl (own_w hw 20 rfl)) (by decide) (t := .int) (t' := .int) (by decide) (by decide)
theorem sn_index_at {Z : State} {a0 : Array Value} (hw : ∀ d ∈ tables_1, d.before a0 Z = true) : Jvm.RoadKit.slotOf Z "com/example/warmjoin/warmjoin/PackedFields$Cursor" "index" "I" ≠ Jvm.RoadKit.slotOf Z "com/example/warmjoin/warmjoin/PackedFields$Cursor" "at" "I" := Jvm.RoadKit.slot_ne (a0 := a0) (Or.inl (own_w hw 62 rfl)) (Or.inl (own_w hw 20 rfl)) (by decide) (t := .int) (t' := .int) (by decide) (by decide)
theorem sn_offset_at {Z : State} {a0 : Array Value} (hw : ∀ d ∈ tables_1, d.before a0 Z = true) : Jvm.RoadKit.slotOf Z "com/example/warmjoin/warmjoin/PackedFields$Cursor" "offset" "I" ≠ Jvm.RoadKit.slotOf Z "com/example/warmjoin/warmjoin/PackedFields$Cursor" "at" "I" := Jvm.RoadKit.slot_ne (a0 := a0) (Or.inl (own_w hw 67 rfl)) (Or.inl (own_w hw 20 rfl)) (by decide) (t := .int) (t' := .int) (by decide) (by decide)
theorem sn_length_at {Z : State} {a0 : Array Value} (hw : ∀ d ∈ tables_1, d.before a0 Z = true) : Jvm.RoadKit.slotOf Z "com/example/warmjoin/warmjoin/PackedFields$Cursor" "length" "I" ≠ Jvm.RoadKit.slotOf Z "com/example/warmjoin/warmjoin/PackedFields$Cursor" "at" "I" := Jvm.RoadKit.slot_ne (a0 := a0) (Or.inl (own_w hw 69 rfl)) (Or.inl (own_w hw 20 rfl)) (by decide) (t := .int) (t' := .int) (by decide) (by decide)
theorem sn_packed_left {Z : State} {a0 : Array Value} (hw : ∀ d ∈ tables_1, d.before a0 Z = true) : Jvm.RoadKit.slotOf Z "com/example/warmjoin/warmjoin/PackedFields$Cursor" "packed" "[B" ≠ Jvm.RoadKit.slotOf Z "com/example/warmjoin/warmjoin/PackedFields$Cursor" "left" "I" := Jvm.RoadKit.slot_ne (a0 := a0) (Or.inl (own_w hw 16 rfl)) (Or.inl (own_w hw 22 rfl)) (by decide) (t := (.array .byte)) (t' := .int) (by decide) (by decide)
theorem sn_to_left {Z : State} {a0 : Array Value} (hw : ∀ d ∈ tables_1, d.before a0 Z = true) : Jvm.RoadKit.slotOf Z "com/example/warmjoin/warmjoin/PackedFields$Cursor" "to" "I" ≠ Jvm.RoadKit.slotOf Z "com/example/warmjoin/warmjoin/PackedFields$Cursor" "left" "I" := Jvm.RoadKit.slot_ne (a0 := a0) (Or.inl (own_w hw 18 rfl)) (Or.inl (own_w hw 22 rfl)) (by decide) (t := .int) (t' := .int) (by decide) (by decide)
theorem sn_at_left {Z : State} {a0 : Array Value} (hw : ∀ d ∈ tables_1, d.before a0 Z = true) : Jvm.RoadKit.slotOf Z "com/example/warmjoin/warmjoin/PackedFields$Cursor" "at" "I" ≠ Jvm.RoadKit.slotOf Z "com/example/warmjoin/warmjoin/PackedFields$Cursor" "left" "I" := Jvm.RoadKit.slot_ne (a0 := a0) (Or.inl (own_w hw 20 rfl)) (Or.inl (own_w hw 22 rfl)) (by decide) (t := .int) (t' := .int) (by decide) (by decide)
theorem sn_text_left {Z : State} {a0 : Array Value} (hw : ∀ d ∈ tables_1, d.before a0 Z = true) : Jvm.RoadKit.slotOf Z "com/example/warmjoin/warmjoin/PackedFields$Cursor" "text" "Z" ≠ Jvm.RoadKit.slotOf Z "com/example/warmjoin/warmjoin/PackedFields$Cursor" "left" "I" := Jvm.RoadKit.slot_ne (a0 := a0) (Or.inl (own_w hw 52 rfl)) (Or.inl (own_w hw 22 rfl)) (by decide) (t := .boolean) (t' := .int) (by decide) (by decide)
theorem sn_textEnd_left {Z : State} {a0 : Array Value} (hw : ∀ d ∈ tables_1, d.before a0 Z = true) : Jvm.RoadKit.slotOf Z "com/example/warmjoin/warmjoin/PackedFields$Cursor" "textEnd" "I" ≠ Jvm.RoadKit.slotOf Z "com/example/warmjoin/warmjoin/PackedFields$Cursor" "left" "I" := Jvm.RoadKit.slot_ne (a0 := a0) (Or.inl (own_w hw 57 rfl)) (Or.inl (own_w hw 22 rfl)) (by decide) (t := .int) (t' := .int) (by decide) (by decide)
theorem sn_literals_left {Z : State} {a0 : Array Value} (hw : ∀ d ∈ tables_1, d.before a0 Z = true) : Jvm.RoadKit.slotOf Z "com/example/warmjoin/warmjoin/PackedFields$Cursor" "literals" "I" ≠ Jvm.RoadKit.slotOf Z "com/example/warmjoin/warmjoin/PackedFields$Cursor" "left" "I" := Jvm.RoadKit.slot_ne (a0 := a0) (Or.inl (own_w hw 60 rfl)) (Or.inl (own_w hw 22 rfl)) (by decide) (t := .int) (t' := .int) (by decide) (by decide)
theorem sn_index_left {Z : State} {a0 : Array Value} (hw : ∀ d ∈ tables_1, d.before a0 Z = true) : Jvm.RoadKit.slotOf Z "com/example/warmjoin/warmjoin/PackedFields$Cursor" "index" "I" ≠ Jvm.RoadKit.slotOf Z "com/example/warmjoin/warmjoin/PackedFields$Cursor" "left" "I" := Jvm.RoadKit.slot_ne (a0 := a0) (Or.inl (own_w hw 62 rfl)) (Or.inl (own_w hw 22 rfl)) (by decide) (t := .int) (t' := .int) (by decide) (by decide)
theorem sn_offset_left {Z : State} {a0 : Array Value} (hw : ∀ d ∈ tables_1, d.before a0 Z = true) : Jvm.RoadKit.slotOf Z "com/example/warmjoin/warmjoin/PackedFields$Cursor" "offset" "I" ≠ Jvm.RoadKit.slotOf Z "com/example/warmjoin/warmjoin/PackedFields$Cursor" "left" "I" := Jvm.RoadKit.slot_ne (a0 := a0) (Or.inl (own_w hw 67 rfl)) (Or.inl (own_w hw 22 rfl)) (by decide) (t := .int) (t' := .int) (by decide) (by decide)
theorem sn_length_left {Z : State} {a0 : Array Value} (hw : ∀ d ∈ tables_1, d.before a0 Z = true) : Jvm.RoadKit.slotOf Z "com/example/warmjoin/warmjoin/PackedFields$Cursor" "length" "I" ≠ Jvm.RoadKit.slotOf Z "com/example/warmjoin/warmjoin/PackedFields$Cursor" "left" "I" := Jvm.RoadKit.slot_ne (a0 := a0) (Or.inl (own_w hw 69 rfl)) (Or.inl (own_w hw 22 rfl)) (by decide) (t := .int) (t' := .int) (by decide) (by decide)
set_option maxRecDepth 65536 in
set_option maxHeartbeats 40000000 in
theorem rm_over (l : Launch) (Z : State) (a0 : Array Value) (hw : ∀ d ∈ tables_1, d.before a0 Z = true) (ws : List Jvm.Cond) (a1 pk : Addr) (i' e' : Int32) (h0 : Heap) (n0 : Nat) (Z0 : n0 ≤ h0.size) (U : Cur Z h0 a1 .null (0 : Int32) (0 : Int32) (0 : Int32) (0 : Int32) (0 : Int32) (0 : Int32) (0 : Int32) (0 : Int32) (0 : Int32)) (g_a1 : n0 ≤ a1) :
    MetFree l (⟨"com/example/warmjoin/warmjoin/PackedFields$Cursor", "over", "([BII)Lcom/example/warmjoin/warmjoin/PackedFields$Cursor;"⟩ : MethodName) (head1 (Jvm.Cond.code (⟨"com/example/warmjoin/warmjoin/PackedFields$Cursor", "over", "([BII)Lcom/example/warmjoin/warmjoin/PackedFields$Cursor;"⟩ : MethodName) prog_100_method_2_code 4 (some (.object "com/example/warmjoin/warmjoin/PackedFields$Cursor")) :: ws) ({ frames := 0, cells := 0, slots := 0, locals := 0 } : Room)) (fun a U => a = #[(.ref a1), (.ref pk), (.int i'), (.int e')] ∧ Z.Warmed39 U.vm ∧ U.heap = h0) (fun _ _ _ _ _ => True) (fun _ U o U' => ∃ v L, o = .returned v ∧ Q_rm_over Z a1 pk i' e' h0 n0 v U'.heap L ∧ FrameEnd U o U' L ({ frames := 0, cells := 0, slots := 0, locals := 0 } : Room).cells ({ frames := 0, cells := 0, slots := 0, locals := 0 } : Room).slots) := by
  refine own_met (y := (⟨"com/example/warmjoin/warmjoin/PackedFields$Cursor", "over", "([BII)Lcom/example/warmjoin/warmjoin/PackedFields$Cursor;"⟩ : MethodName)) (Q := (Q_rm_over Z a1 pk i' e' h0 n0)) (plainFor_of_name pn_1) fun p e s m below meth c s₁ X0 hx hby hml hret hlk hown hnm hZ e0 => ?_
  refine own_entry (ef_3_RRII m a1 pk i' e') ?_
  obtain ⟨E1, F0, F1, F2, F3, F4, F5, F6, F7, F8, F9⟩ := U
  have K0 := Keep.refl h0 [a1]
  refine own_to s₁ (mkF m 2 #[.val (.ref a1), .val (.ref pk), .val (.int i'), .val (.int e')] [(.ref pk), (.ref a1)]) (fun tq kq => XS.aloadN X0.here hx rfl (hb hby d3_0) rfl rfl (XS.aloadN X0.here hx rfl (hb hby d3_1) rfl rfl kq)) ?_
  obtain ⟨T1, h1, X1, e1, W1, st1⟩ := putF X0 hx hZ hown (host := "") (Or.inl (own_w hw 15 rfl)) Via.refl e0 F0 E1 (Or.inl (own_w hw 16 rfl)) (own_w hw 2 rfl) (ty := (.array .byte)) (by decide) rfl rfl (g := (mkF m 2 #[.val (.ref a1), .val (.ref pk), .val (.int i'), .val (.int e')] [(.ref pk), (.ref a1)])) rfl rfl (hb hby d3_2)
  have f2 := E1.wr W1
  have f3 := F1.other W1 (Or.inr (sn_to_packed hw))
  have f4 := F2.other W1 (Or.inr (sn_at_packed hw))
  have f5 := F3.other W1 (Or.inr (sn_left_packed hw))
  have f6 := F4.other W1 (Or.inr (sn_text_packed hw))
  have f7 := F5.other W1 (Or.inr (sn_textEnd_packed hw))
  have f8 := F6.other W1 (Or.inr (sn_literals_packed hw))
  have f9 := F7.other W1 (Or.inr (sn_index_packed hw))
  have f10 := F8.other W1 (Or.inr (sn_offset_packed hw))
  have f11 := F9.other W1 (Or.inr (sn_length_packed hw))
  have f12 := F0.same W1
  have N1 := Fr.snoc X1 (Fr.nil n0) g_a1
  have Zs1 : n0 ≤ h1.size := by rw [W1.size]; exact Z0
  have K1 := K0.wr W1 (Or.inl (List.mem_of_getElem? (i := 0) rfl))
  refine own_to T1 (mkF m 7 #[.val (.ref a1), .val (.ref pk), .val (.int i'), .val (.int e')] [(.int e'), (.ref a1)]) (fun tq kq => st1 _ (XS.aloadN X1.here hx rfl (hb hby d3_5) rfl rfl (XS.iloadN X1.here hx rfl (hb hby d3_6) rfl kq))) ?_
  obtain ⟨T13, h13, X13, e13, W13, st13⟩ := putF X1 hx hZ hown (host := "") (Or.inl (own_w hw 17 rfl)) Via.refl e1 f3 f2 (Or.inl (own_w hw 18 rfl)) (own_w hw 2 rfl) (ty := .int) (by decide) rfl rfl (g := (mkF m 7 #[.val (.ref a1), .val (.ref pk), .val (.int i'), .val (.int e')] [(.int e'), (.ref a1)])) rfl rfl (hb hby d3_7)
  have f14 := f2.wr W13
  have f15 := f12.other W13 (Or.inr (sn_packed_to hw))
  have f16 := f4.other W13 (Or.inr (sn_at_to hw))
  have f17 := f5.other W13 (Or.inr (sn_left_to hw))
  have f18 := f6.other W13 (Or.inr (sn_text_to hw))
  have f19 := f7.other W13 (Or.inr (sn_textEnd_to hw))
  have f20 := f8.other W13 (Or.inr (sn_literals_to hw))
  have f21 := f9.other W13 (Or.inr (sn_index_to hw))
  have f22 := f10.other W13 (Or.inr (sn_offset_to hw))
  have f23 := f11.other W13 (Or.inr (sn_length_to hw))
  have f24 := f3.same W13
  have N13 := Fr.snoc X13 N1 g_a1
  have Zs13 : n0 ≤ h13.size := by rw [W13.size]; exact Zs1
  have K13 := K1.wr W13 (Or.inl (List.mem_of_getElem? (i := 0) rfl))
  refine own_to T13 (mkF m 12 #[.val (.ref a1), .val (.ref pk), .val (.int i'), .val (.int e')] [(.int i'), (.ref a1)]) (fun tq kq => st13 _ (XS.aloadN X13.here hx rfl (hb hby d3_10) rfl rfl (XS.iloadN X13.here hx rfl (hb hby d3_11) rfl kq))) ?_
  obtain ⟨T25, h25, X25, e25, W25, st25⟩ := putF X13 hx hZ hown (host := "") (Or.inl (own_w hw 19 rfl)) Via.refl e13 f16 f14 (Or.inl (own_w hw 20 rfl)) (own_w hw 2 rfl) (ty := .int) (by decide) rfl rfl (g := (mkF m 12 #[.val (.ref a1), .val (.ref pk), .val (.int i'), .val (.int e')] [(.int i'), (.ref a1)])) rfl rfl (hb hby d3_12)
  have f26 := f14.wr W25
  have f27 := f15.other W25 (Or.inr (sn_packed_at hw))
  have f28 := f24.other W25 (Or.inr (sn_to_at hw))
  have f29 := f17.other W25 (Or.inr (sn_left_at hw))
  have f30 := f18.other W25 (Or.inr (sn_text_at hw))
  have f31 := f19.other W25 (Or.inr (sn_textEnd_at hw))
  have f32 := f20.other W25 (Or.inr (sn_literals_at hw))
  have f33 := f21.other W25 (Or.inr (sn_index_at hw))
  have f34 := f22.other W25 (Or.inr (sn_offset_at hw))
  have f35 := f23.other W25 (Or.inr (sn_length_at hw))
  have f36 := f16.same W25
  have N25 := Fr.snoc X25 N13 g_a1
  have Zs25 : n0 ≤ h25.size := by rw [W25.size]; exact Zs13
  have K25 := K13.wr W25 (Or.inl (List.mem_of_getElem? (i := 0) rfl))
  refine own_to T25 (mkF m 17 #[.val (.ref a1), .val (.ref pk), .val (.int i'), .val (.int e')] [(.int (0 : Int32)), (.ref a1)]) (fun tq kq => st25 _ (XS.aloadN X25.here hx rfl (hb hby d3_15) rfl rfl (XS.iconst X25.here hx rfl (hb hby d3_16) kq))) ?_
  obtain ⟨T37, h37, X37, e37, W37, st37⟩ := putF X25 hx hZ hown (host := "") (Or.inl (own_w hw 21 rfl)) Via.refl e25 f29 f26 (Or.inl (own_w hw 22 rfl)) (own_w hw 2 rfl) (ty := .int) (by decide) rfl rfl (g := (mkF m 17 #[.val (.ref a1), .val (.ref pk), .val (.int i'), .val (.int e')] [(.int (0 : Int32)), (.ref a1)])) rfl rfl (hb hby d3_17)
  have f38 := f26.wr W37
  have f39 := f27.other W37 (Or.inr (sn_packed_left hw))
  have f40 := f28.other W37 (Or.inr (sn_to_left hw))
  have f41 := f36.other W37 (Or.inr (sn_at_left hw))
  have f42 := f30.other W37 (Or.inr (sn_text_left hw))
  have f43 := f31.other W37 (Or.inr (sn_textEnd_left hw))
  have f44 := f32.other W37 (Or.inr (sn_literals_left hw))
  have f45 := f33.other W37 (Or.inr (sn_index_left hw))
  have f46 := f34.other W37 (Or.inr (sn_offset_left hw))
  have f47 := f35.other W37 (Or.inr (sn_length_left hw))
  have f48 := f29.same W37
  have N37 := Fr.snoc X37 N25 g_a1
  have Zs37 : n0 ≤ h37.size := by rw [W37.size]; exact Zs25
  have K37 := K25.wr W37 (Or.inl (List.mem_of_getElem? (i := 0) rfl))
  refine own_to T37 (mkF m 21 #[.val (.ref a1), .val (.ref pk), .val (.int i'), .val (.int e')] [(.ref a1)]) (fun tq kq => st37 _ (XS.aloadN X37.here hx rfl (hb hby d3_20) rfl rfl kq)) ?_
  exact own_retA X37 hx hret hlk rfl rfl (hb hby d3_21) (by decide) (by decide) (by rw [e37]; exact ⟨rfl, N37, K37, ⟨f38, f39, f40, f41, f48, f42, f43, f44, f45, f46, f47⟩⟩)
theorem d4_0 : decode prog_100_method_3_code 0 = .ok (.aload_n 0, 1) := by decide +kernel
theorem d4_1 : decode prog_100_method_3_code 1 = .ok (.getfield 20, 3) := by decide +kernel
theorem d4_4 : decode prog_100_method_3_code 4 = .ok (.ifCond .ne 109, 3) := by decide +kernel
theorem d4_7 : decode prog_100_method_3_code 7 = .ok (.aload_n 0, 1) := by decide +kernel
theorem d4_8 : decode prog_100_method_3_code 8 = .ok (.getfield 17, 3) := by decide +kernel
theorem d4_11 : decode prog_100_method_3_code 11 = .ok (.aload_n 0, 1) := by decide +kernel
theorem d4_12 : decode prog_100_method_3_code 12 = .ok (.getfield 13, 3) := by decide +kernel
theorem d4_15 : decode prog_100_method_3_code 15 = .ok (.if_icmp .lt 5, 3) := by decide +kernel
theorem d4_18 : decode prog_100_method_3_code 18 = .ok (.iconst 0, 1) := by decide +kernel
theorem d4_19 : decode prog_100_method_3_code 19 = .ok (.ireturn, 1) := by decide +kernel
theorem d4_20 : decode prog_100_method_3_code 20 = .ok (.aload_n 0, 1) := by decide +kernel
theorem d4_21 : decode prog_100_method_3_code 21 = .ok (.getfield 7, 3) := by decide +kernel
theorem d4_24 : decode prog_100_method_3_code 24 = .ok (.aload_n 0, 1) := by decide +kernel
theorem d4_25 : decode prog_100_method_3_code 25 = .ok (.getfield 17, 3) := by decide +kernel
theorem d4_28 : decode prog_100_method_3_code 28 = .ok (.invokestatic 23, 3) := by decide +kernel
theorem d4_31 : decode prog_100_method_3_code 31 = .ok (.lstore_n 1, 1) := by decide +kernel
theorem d4_32 : decode prog_100_method_3_code 32 = .ok (.aload_n 0, 1) := by decide +kernel
theorem d4_33 : decode prog_100_method_3_code 33 = .ok (.getfield 7, 3) := by decide +kernel
theorem d4_36 : decode prog_100_method_3_code 36 = .ok (.lload_n 1, 1) := by decide +kernel
theorem d4_37 : decode prog_100_method_3_code 37 = .ok (.invokestatic 29, 3) := by decide +kernel
theorem d4_40 : decode prog_100_method_3_code 40 = .ok (.lstore_n 3, 1) := by decide +kernel
theorem d4_41 : decode prog_100_method_3_code 41 = .ok (.aload_n 0, 1) := by decide +kernel
theorem d4_42 : decode prog_100_method_3_code 42 = .ok (.lload_n 1, 1) := by decide +kernel
theorem d4_43 : decode prog_100_method_3_code 43 = .ok (.invokestatic 33, 3) := by decide +kernel
theorem d4_46 : decode prog_100_method_3_code 46 = .ok (.putfield 20, 3) := by decide +kernel
theorem d4_49 : decode prog_100_method_3_code 49 = .ok (.aload_n 0, 1) := by decide +kernel
theorem d4_50 : decode prog_100_method_3_code 50 = .ok (.lload_n 3, 1) := by decide +kernel
theorem d4_51 : decode prog_100_method_3_code 51 = .ok (.invokestatic 37, 3) := by decide +kernel
theorem d4_54 : decode prog_100_method_3_code 54 = .ok (.putfield 17, 3) := by decide +kernel
theorem d4_57 : decode prog_100_method_3_code 57 = .ok (.aload_n 0, 1) := by decide +kernel
theorem d4_58 : decode prog_100_method_3_code 58 = .ok (.lload_n 1, 1) := by decide +kernel
theorem d4_59 : decode prog_100_method_3_code 59 = .ok (.invokestatic 40, 3) := by decide +kernel
theorem d4_62 : decode prog_100_method_3_code 62 = .ok (.putfield 44, 3) := by decide +kernel
theorem d4_65 : decode prog_100_method_3_code 65 = .ok (.aload_n 0, 1) := by decide +kernel
theorem d4_66 : decode prog_100_method_3_code 66 = .ok (.aload_n 0, 1) := by decide +kernel
theorem d4_67 : decode prog_100_method_3_code 67 = .ok (.getfield 17, 3) := by decide +kernel
theorem d4_70 : decode prog_100_method_3_code 70 = .ok (.lload_n 3, 1) := by decide +kernel
theorem d4_71 : decode prog_100_method_3_code 71 = .ok (.invokestatic 48, 3) := by decide +kernel
theorem d4_74 : decode prog_100_method_3_code 74 = .ok (.iadd, 1) := by decide +kernel
theorem d4_75 : decode prog_100_method_3_code 75 = .ok (.putfield 51, 3) := by decide +kernel
theorem d4_78 : decode prog_100_method_3_code 78 = .ok (.aload_n 0, 1) := by decide +kernel
theorem d4_79 : decode prog_100_method_3_code 79 = .ok (.lload_n 1, 1) := by decide +kernel
theorem d4_80 : decode prog_100_method_3_code 80 = .ok (.invokestatic 54, 3) := by decide +kernel
theorem d4_83 : decode prog_100_method_3_code 83 = .ok (.ifCond .eq 18, 3) := by decide +kernel
theorem d4_86 : decode prog_100_method_3_code 86 = .ok (.aload_n 0, 1) := by decide +kernel
theorem d4_87 : decode prog_100_method_3_code 87 = .ok (.getfield 17, 3) := by decide +kernel
theorem d4_90 : decode prog_100_method_3_code 90 = .ok (.aload_n 0, 1) := by decide +kernel
theorem d4_91 : decode prog_100_method_3_code 91 = .ok (.getfield 20, 3) := by decide +kernel
theorem d4_94 : decode prog_100_method_3_code 94 = .ok (.invokestatic 57, 3) := by decide +kernel
theorem d4_97 : decode prog_100_method_3_code 97 = .ok (.isub, 1) := by decide +kernel
theorem d4_98 : decode prog_100_method_3_code 98 = .ok (.goto 4, 3) := by decide +kernel
theorem d4_101 : decode prog_100_method_3_code 101 = .ok (.iconst (-1), 1) := by decide +kernel
theorem d4_102 : decode prog_100_method_3_code 102 = .ok (.putfield 61, 3) := by decide +kernel
theorem d4_105 : decode prog_100_method_3_code 105 = .ok (.aload_n 0, 1) := by decide +kernel
theorem d4_106 : decode prog_100_method_3_code 106 = .ok (.iconst (-1), 1) := by decide +kernel
theorem d4_107 : decode prog_100_method_3_code 107 = .ok (.putfield 64, 3) := by decide +kernel
theorem d4_110 : decode prog_100_method_3_code 110 = .ok (.goto (-110), 3) := by decide +kernel
theorem d4_113 : decode prog_100_method_3_code 113 = .ok (.aload_n 0, 1) := by decide +kernel
theorem d4_114 : decode prog_100_method_3_code 114 = .ok (.getfield 44, 3) := by decide +kernel
theorem d4_117 : decode prog_100_method_3_code 117 = .ok (.ifCond .eq 59, 3) := by decide +kernel
theorem d4_120 : decode prog_100_method_3_code 120 = .ok (.aload_n 0, 1) := by decide +kernel
theorem d4_121 : decode prog_100_method_3_code 121 = .ok (.getfield 7, 3) := by decide +kernel
theorem d4_124 : decode prog_100_method_3_code 124 = .ok (.aload_n 0, 1) := by decide +kernel
theorem d4_125 : decode prog_100_method_3_code 125 = .ok (.getfield 17, 3) := by decide +kernel
theorem d4_128 : decode prog_100_method_3_code 128 = .ok (.aload_n 0, 1) := by decide +kernel
theorem d4_129 : decode prog_100_method_3_code 129 = .ok (.getfield 51, 3) := by decide +kernel
theorem d4_132 : decode prog_100_method_3_code 132 = .ok (.invokestatic 67, 3) := by decide +kernel
theorem d4_135 : decode prog_100_method_3_code 135 = .ok (.istore_n 1, 1) := by decide +kernel
theorem d4_136 : decode prog_100_method_3_code 136 = .ok (.aload_n 0, 1) := by decide +kernel
theorem d4_137 : decode prog_100_method_3_code 137 = .ok (.aload_n 0, 1) := by decide +kernel
theorem d4_138 : decode prog_100_method_3_code 138 = .ok (.getfield 17, 3) := by decide +kernel
theorem d4_141 : decode prog_100_method_3_code 141 = .ok (.putfield 71, 3) := by decide +kernel
theorem d4_144 : decode prog_100_method_3_code 144 = .ok (.aload_n 0, 1) := by decide +kernel
theorem d4_145 : decode prog_100_method_3_code 145 = .ok (.iload_n 1, 1) := by decide +kernel
theorem d4_146 : decode prog_100_method_3_code 146 = .ok (.aload_n 0, 1) := by decide +kernel
theorem d4_147 : decode prog_100_method_3_code 147 = .ok (.getfield 17, 3) := by decide +kernel
theorem d4_150 : decode prog_100_method_3_code 150 = .ok (.isub, 1) := by decide +kernel
theorem d4_151 : decode prog_100_method_3_code 151 = .ok (.putfield 74, 3) := by decide +kernel
theorem d4_154 : decode prog_100_method_3_code 154 = .ok (.aload_n 0, 1) := by decide +kernel
theorem d4_155 : decode prog_100_method_3_code 155 = .ok (.iload_n 1, 1) := by decide +kernel
theorem d4_156 : decode prog_100_method_3_code 156 = .ok (.aload_n 0, 1) := by decide +kernel
theorem d4_157 : decode prog_100_method_3_code 157 = .ok (.getfield 51, 3) := by decide +kernel
theorem d4_160 : decode prog_100_method_3_code 160 = .ok (.if_icmp .ge 9, 3) := by decide +kernel
theorem d4_163 : decode prog_100_method_3_code 163 = .ok (.iload_n 1, 1) := by decide +kernel
theorem d4_164 : decode prog_100_method_3_code 164 = .ok (.iconst 1, 1) := by decide +kernel
theorem d4_165 : decode prog_100_method_3_code 165 = .ok (.iadd, 1) := by decide +kernel
theorem d4_166 : decode prog_100_method_3_code 166 = .ok (.goto 4, 3) := by decide +kernel
theorem d4_169 : decode prog_100_method_3_code 169 = .ok (.iload_n 1, 1) := by decide +kernel
theorem d4_170 : decode prog_100_method_3_code 170 = .ok (.putfield 17, 3) := by decide +kernel
theorem d4_173 : decode prog_100_method_3_code 173 = .ok (.goto 43, 3) := by decide +kernel
theorem d4_176 : decode prog_100_method_3_code 176 = .ok (.aload_n 0, 1) := by decide +kernel
theorem d4_177 : decode prog_100_method_3_code 177 = .ok (.getfield 7, 3) := by decide +kernel
theorem d4_180 : decode prog_100_method_3_code 180 = .ok (.aload_n 0, 1) := by decide +kernel
theorem d4_181 : decode prog_100_method_3_code 181 = .ok (.getfield 17, 3) := by decide +kernel
theorem d4_184 : decode prog_100_method_3_code 184 = .ok (.invokestatic 23, 3) := by decide +kernel
theorem d4_187 : decode prog_100_method_3_code 187 = .ok (.lstore_n 1, 1) := by decide +kernel
theorem d4_188 : decode prog_100_method_3_code 188 = .ok (.aload_n 0, 1) := by decide +kernel
theorem d4_189 : decode prog_100_method_3_code 189 = .ok (.lload_n 1, 1) := by decide +kernel
theorem d4_190 : decode prog_100_method_3_code 190 = .ok (.l2i, 1) := by decide +kernel
theorem d4_191 : decode prog_100_method_3_code 191 = .ok (.putfield 74, 3) := by decide +kernel
theorem d4_194 : decode prog_100_method_3_code 194 = .ok (.aload_n 0, 1) := by decide +kernel
theorem d4_195 : decode prog_100_method_3_code 195 = .ok (.lload_n 1, 1) := by decide +kernel
theorem d4_196 : decode prog_100_method_3_code 196 = .ok (.bipush 32, 2) := by decide +kernel
theorem d4_198 : decode prog_100_method_3_code 198 = .ok (.lushr, 1) := by decide +kernel
theorem d4_199 : decode prog_100_method_3_code 199 = .ok (.l2i, 1) := by decide +kernel
theorem d4_200 : decode prog_100_method_3_code 200 = .ok (.putfield 71, 3) := by decide +kernel
theorem d4_203 : decode prog_100_method_3_code 203 = .ok (.aload_n 0, 1) := by decide +kernel
theorem d4_204 : decode prog_100_method_3_code 204 = .ok (.aload_n 0, 1) := by decide +kernel
theorem d4_205 : decode prog_100_method_3_code 205 = .ok (.getfield 71, 3) := by decide +kernel
theorem d4_208 : decode prog_100_method_3_code 208 = .ok (.aload_n 0, 1) := by decide +kernel
theorem d4_209 : decode prog_100_method_3_code 209 = .ok (.getfield 74, 3) := by decide +kernel
theorem d4_212 : decode prog_100_method_3_code 212 = .ok (.iadd, 1) := by decide +kernel
theorem d4_213 : decode prog_100_method_3_code 213 = .ok (.putfield 17, 3) := by decide +kernel
theorem d4_216 : decode prog_100_method_3_code 216 = .ok (.aload_n 0, 1) := by decide +kernel
theorem d4_217 : decode prog_100_method_3_code 217 = .ok (.dup, 1) := by decide +kernel
theorem d4_218 : decode prog_100_method_3_code 218 = .ok (.getfield 20, 3) := by decide +kernel
theorem d4_221 : decode prog_100_method_3_code 221 = .ok (.iconst 1, 1) := by decide +kernel
theorem d4_222 : decode prog_100_method_3_code 222 = .ok (.isub, 1) := by decide +kernel
theorem d4_223 : decode prog_100_method_3_code 223 = .ok (.putfield 20, 3) := by decide +kernel
theorem d4_226 : decode prog_100_method_3_code 226 = .ok (.aload_n 0, 1) := by decide +kernel
theorem d4_227 : decode prog_100_method_3_code 227 = .ok (.dup, 1) := by decide +kernel
theorem d4_228 : decode prog_100_method_3_code 228 = .ok (.getfield 64, 3) := by decide +kernel
theorem d4_231 : decode prog_100_method_3_code 231 = .ok (.iconst 1, 1) := by decide +kernel
theorem d4_232 : decode prog_100_method_3_code 232 = .ok (.iadd, 1) := by decide +kernel
theorem d4_233 : decode prog_100_method_3_code 233 = .ok (.putfield 64, 3) := by decide +kernel
theorem d4_236 : decode prog_100_method_3_code 236 = .ok (.iconst 1, 1) := by decide +kernel
theorem d4_237 : decode prog_100_method_3_code 237 = .ok (.ireturn, 1) := by decide +kernel
theorem ef_4_R (m : MethodId) (x0 : Addr) : entryFrame m #[(.ref x0)] 5 = mkF m 0 #[.val (.ref x0), .unset, .unset, .unset, .unset] [] := by first | (simp [entryFrame, mkF, argsToLocals, Value.category]; done) | rfl
def Q_rm_next000 (Z : State) (a1 pk : Addr) (f : Nat → Int32) (i e' : Nat) (u4 u5 u6 u7 u8 u9 : Int32) (h0 : Heap) (n0 : Nat) (v : Option Value) (h : Heap) (L : List Loc) : Prop := v = some (.int (1 : Int32)) ∧ Fr n0 L ∧ Keep h0 h [a1] ∧ ∃ o' l', Cur Z h a1 (.ref pk) (Int32.ofNat e') (Int32.ofNat (i + 1 + 1 + 1)) (Int32.ofNat (9 - 1)) (0 : Int32) (Int32.ofNat (i + 1 + 0)) (-1 : Int32) (Int32.ofNat (0)) o' l'
theorem pd_4 : parseMethodDescriptor "([BJ)J" = some ⟨[(.array .byte), .long], some .long⟩ := by decide +kernel
theorem sn_packed_text {Z : State} {a0 : Array Value} (hw : ∀ d ∈ tables_1, d.before a0 Z = true) : Jvm.RoadKit.slotOf Z "com/example/warmjoin/warmjoin/PackedFields$Cursor" "packed" "[B" ≠ Jvm.RoadKit.slotOf Z "com/example/warmjoin/warmjoin/PackedFields$Cursor" "text" "Z" := Jvm.RoadKit.slot_ne (a0 := a0) (Or.inl (own_w hw 16 rfl)) (Or.inl (own_w hw 52 rfl)) (by decide) (t := (.array .byte)) (t' := .boolean) (by decide) (by decide)
theorem sn_to_text {Z : State} {a0 : Array Value} (hw : ∀ d ∈ tables_1, d.before a0 Z = true) : Jvm.RoadKit.slotOf Z "com/example/warmjoin/warmjoin/PackedFields$Cursor" "to" "I" ≠ Jvm.RoadKit.slotOf Z "com/example/warmjoin/warmjoin/PackedFields$Cursor" "text" "Z" := Jvm.RoadKit.slot_ne (a0 := a0) (Or.inl (own_w hw 18 rfl)) (Or.inl (own_w hw 52 rfl)) (by decide) (t := .int) (t' := .boolean) (by decide) (by decide)
theorem sn_at_text {Z : State} {a0 : Array Value} (hw : ∀ d ∈ tables_1, d.before a0 Z = true) : Jvm.RoadKit.slotOf Z "com/example/warmjoin/warmjoin/PackedFields$Cursor" "at" "I" ≠ Jvm.RoadKit.slotOf Z "com/example/warmjoin/warmjoin/PackedFields$Cursor" "text" "Z" := Jvm.RoadKit.slot_ne (a0 := a0) (Or.inl (own_w hw 20 rfl)) (Or.inl (own_w hw 52 rfl)) (by decide) (t := .int) (t' := .boolean) (by decide) (by decide)
theorem sn_left_text {Z : State} {a0 : Array Value} (hw : ∀ d ∈ tables_1, d.before a0 Z = true) : Jvm.RoadKit.slotOf Z "com/example/warmjoin/warmjoin/PackedFields$Cursor" "left" "I" ≠ Jvm.RoadKit.slotOf Z "com/example/warmjoin/warmjoin/PackedFields$Cursor" "text" "Z" := Jvm.RoadKit.slot_ne (a0 := a0) (Or.inl (own_w hw 22 rfl)) (Or.inl (own_w hw 52 rfl)) (by decide) (t := .int) (t' := .boolean) (by decide) (by decide)
theorem sn_textEnd_text {Z : State} {a0 : Array Value} (hw : ∀ d ∈ tables_1, d.before a0 Z = true) : Jvm.RoadKit.slotOf Z "com/example/warmjoin/warmjoin/PackedFields$Cursor" "textEnd" "I" ≠ Jvm.RoadKit.slotOf Z "com/example/warmjoin/warmjoin/PackedFields$Cursor" "text" "Z" := Jvm.RoadKit.slot_ne (a0 := a0) (Or.inl (own_w hw 57 rfl)) (Or.inl (own_w hw 52 rfl)) (by decide) (t := .int) (t' := .boolean) (by decide) (by decide)
theorem sn_literals_text {Z : State} {a0 : Array Value} (hw : ∀ d ∈ tables_1, d.before a0 Z = true) : Jvm.RoadKit.slotOf Z "com/example/warmjoin/warmjoin/PackedFields$Cursor" "literals" "I" ≠ Jvm.RoadKit.slotOf Z "com/example/warmjoin/warmjoin/PackedFields$Cursor" "text" "Z" := Jvm.RoadKit.slot_ne (a0 := a0) (Or.inl (own_w hw 60 rfl)) (Or.inl (own_w hw 52 rfl)) (by decide) (t := .int) (t' := .boolean) (by decide) (by decide)
theorem sn_index_text {Z : State} {a0 : Array Value} (hw : ∀ d ∈ tables_1, d.before a0 Z = true) : Jvm.RoadKit.slotOf Z "com/example/warmjoin/warmjoin/PackedFields$Cursor" "index" "I" ≠ Jvm.RoadKit.slotOf Z "com/example/warmjoin/warmjoin/PackedFields$Cursor" "text" "Z" := Jvm.RoadKit.slot_ne (a0 := a0) (Or.inl (own_w hw 62 rfl)) (Or.inl (own_w hw 52 rfl)) (by decide) (t := .int) (t' := .boolean) (by decide) (by decide)
theorem sn_offset_text {Z : State} {a0 : Array Value} (hw : ∀ d ∈ tables_1, d.before a0 Z = true) : Jvm.RoadKit.slotOf Z "com/example/warmjoin/warmjoin/PackedFields$Cursor" "offset" "I" ≠ Jvm.RoadKit.slotOf Z "com/example/warmjoin/warmjoin/PackedFields$Cursor" "text" "Z" := Jvm.RoadKit.slot_ne (a0 := a0) (Or.inl (own_w hw 67 rfl)) (Or.inl (own_w hw 52 rfl)) (by decide) (t := .int) (t' := .boolean) (by decide) (by decide)
theorem sn_length_text {Z : State} {a0 : Array Value} (hw : ∀ d ∈ tables_1, d.before a0 Z = true) : Jvm.RoadKit.slotOf Z "com/example/warmjoin/warmjoin/PackedFields$Cursor" "length" "I" ≠ Jvm.RoadKit.slotOf Z "com/example/warmjoin/warmjoin/PackedFields$Cursor" "text" "Z" := Jvm.RoadKit.slot_ne (a0 := a0) (Or.inl (own_w hw 69 rfl)) (Or.inl (own_w hw 52 rfl)) (by decide) (t := .int) (t' := .boolean) (by decide) (by decide)
theorem sn_packed_textEnd {Z : State} {a0 : Array Value} (hw : ∀ d ∈ tables_1, d.before a0 Z = true) : Jvm.RoadKit.slotOf Z "com/example/warmjoin/warmjoin/PackedFields$Cursor" "packed" "[B" ≠ Jvm.RoadKit.slotOf Z "com/example/warmjoin/warmjoin/PackedFields$Cursor" "textEnd" "I" := Jvm.RoadKit.slot_ne (a0 := a0) (Or.inl (own_w hw 16 rfl)) (Or.inl (own_w hw 57 rfl)) (by decide) (t := (.array .byte)) (t' := .int) (by decide) (by decide)
theorem sn_to_textEnd {Z : State} {a0 : Array Value} (hw : ∀ d ∈ tables_1, d.before a0 Z = true) : Jvm.RoadKit.slotOf Z "com/example/warmjoin/warmjoin/PackedFields$Cursor" "to" "I" ≠ Jvm.RoadKit.slotOf Z "com/example/warmjoin/warmjoin/PackedFields$Cursor" "textEnd" "I" := Jvm.RoadKit.slot_ne (a0 := a0) (Or.inl (own_w hw 18 rfl)) (Or.inl (own_w hw 57 rfl)) (by decide) (t := .int) (t' := .int) (by decide) (by decide)
theorem sn_at_textEnd {Z : State} {a0 : Array Value} (hw : ∀ d ∈ tables_1, d.before a0 Z = true) : Jvm.RoadKit.slotOf Z "com/example/warmjoin/warmjoin/PackedFields$Cursor" "at" "I" ≠ Jvm.RoadKit.slotOf Z "com/example/warmjoin/warmjoin/PackedFields$Cursor" "textEnd" "I" := Jvm.RoadKit.slot_ne (a0 := a0) (Or.inl (own_w hw 20 rfl)) (Or.inl (own_w hw 57 rfl)) (by decide) (t := .int) (t' := .int) (by decide) (by decide)
theorem sn_left_textEnd {Z : State} {a0 : Array Value} (hw : ∀ d ∈ tables_1, d.before a0 Z = true) : Jvm.RoadKit.slotOf Z "com/example/warmjoin/warmjoin/PackedFields$Cursor" "left" "I" ≠ Jvm.RoadKit.slotOf Z "com/example/warmjoin/warmjoin/PackedFields$Cursor" "textEnd" "I" := Jvm.RoadKit.slot_ne (a0 := a0) (Or.inl (own_w hw 22 rfl)) (Or.inl (own_w hw 57 rfl)) (by decide) (t := .int) (t' := .int) (by decide) (by decide)
theorem sn_text_textEnd {Z : State} {a0 : Array Value} (hw : ∀ d ∈ tables_1, d.before a0 Z = true) : Jvm.RoadKit.slotOf Z "com/example/warmjoin/warmjoin/PackedFields$Cursor" "text" "Z" ≠ Jvm.RoadKit.slotOf Z "com/example/warmjoin/warmjoin/PackedFields$Cursor" "textEnd" "I" := Jvm.RoadKit.slot_ne (a0 := a0) (Or.inl (own_w hw 52 rfl)) (Or.inl (own_w hw 57 rfl)) (by decide) (t := .boolean) (t' := .int) (by decide) (by decide)
theorem sn_literals_textEnd {Z : State} {a0 : Array Value} (hw : ∀ d ∈ tables_1, d.before a0 Z = true) : Jvm.RoadKit.slotOf Z "com/example/warmjoin/warmjoin/PackedFields$Cursor" "literals" "I" ≠ Jvm.RoadKit.slotOf Z "com/example/warmjoin/warmjoin/PackedFields$Cursor" "textEnd" "I" := Jvm.RoadKit.slot_ne (a0 := a0) (Or.inl (own_w hw 60 rfl)) (Or.inl (own_w hw 57 rfl)) (by decide) (t := .int) (t' := .int) (by decide) (by decide)
theorem sn_index_textEnd {Z : State} {a0 : Array Value} (hw : ∀ d ∈ tables_1, d.before a0 Z = true) : Jvm.RoadKit.slotOf Z "com/example/warmjoin/warmjoin/PackedFields$Cursor" "index" "I" ≠ Jvm.RoadKit.slotOf Z "com/example/warmjoin/warmjoin/PackedFields$Cursor" "textEnd" "I" := Jvm.RoadKit.slot_ne (a0 := a0) (Or.inl (own_w hw 62 rfl)) (Or.inl (own_w hw 57 rfl)) (by decide) (t := .int) (t' := .int) (by decide) (by decide)
theorem sn_offset_textEnd {Z : State} {a0 : Array Value} (hw : ∀ d ∈ tables_1, d.before a0 Z = true) : Jvm.RoadKit.slotOf Z "com/example/warmjoin/warmjoin/PackedFields$Cursor" "offset" "I" ≠ Jvm.RoadKit.slotOf Z "com/example/warmjoin/warmjoin/PackedFields$Cursor" "textEnd" "I" := Jvm.RoadKit.slot_ne (a0 := a0) (Or.inl (own_w hw 67 rfl)) (Or.inl (own_w hw 57 rfl)) (by decide) (t := .int) (t' := .int) (by decide) (by decide)
theorem sn_length_textEnd {Z : State} {a0 : Array Value} (hw : ∀ d ∈ tables_1, d.before a0 Z = true) : Jvm.RoadKit.slotOf Z "com/example/warmjoin/warmjoin/PackedFields$Cursor" "length" "I" ≠ Jvm.RoadKit.slotOf Z "com/example/warmjoin/warmjoin/PackedFields$Cursor" "textEnd" "I" := Jvm.RoadKit.slot_ne (a0 := a0) (Or.inl (own_w hw 69 rfl)) (Or.inl (own_w hw 57 rfl)) (by decide) (t := .int) (t' := .int) (by decide) (by decide)
theorem sn_packed_literals {Z : State} {a0 : Array Value} (hw : ∀ d ∈ tables_1, d.before a0 Z = true) : Jvm.RoadKit.slotOf Z "com/example/warmjoin/warmjoin/PackedFields$Cursor" "packed" "[B" ≠ Jvm.RoadKit.slotOf Z "com/example/warmjoin/warmjoin/PackedFields$Cursor" "literals" "I" := Jvm.RoadKit.slot_ne (a0 := a0) (Or.inl (own_w hw 16 rfl)) (Or.inl (own_w hw 60 rfl)) (by decide) (t := (.array .byte)) (t' := .int) (by decide) (by decide)
theorem sn_to_literals {Z : State} {a0 : Array Value} (hw : ∀ d ∈ tables_1, d.before a0 Z = true) : Jvm.RoadKit.slotOf Z "com/example/warmjoin/warmjoin/PackedFields$Cursor" "to" "I" ≠ Jvm.RoadKit.slotOf Z "com/example/warmjoin/warmjoin/PackedFields$Cursor" "literals" "I" := Jvm.RoadKit.slot_ne (a0 := a0) (Or.inl (own_w hw 18 rfl)) (Or.inl (own_w hw 60 rfl)) (by decide) (t := .int) (t' := .int) (by decide) (by decide)
theorem sn_at_literals {Z : State} {a0 : Array Value} (hw : ∀ d ∈ tables_1, d.before a0 Z = true) : Jvm.RoadKit.slotOf Z "com/example/warmjoin/warmjoin/PackedFields$Cursor" "at" "I" ≠ Jvm.RoadKit.slotOf Z "com/example/warmjoin/warmjoin/PackedFields$Cursor" "literals" "I" := Jvm.RoadKit.slot_ne (a0 := a0) (Or.inl (own_w hw 20 rfl)) (Or.inl (own_w hw 60 rfl)) (by decide) (t := .int) (t' := .int) (by decide) (by decide)
theorem sn_left_literals {Z : State} {a0 : Array Value} (hw : ∀ d ∈ tables_1, d.before a0 Z = true) : Jvm.RoadKit.slotOf Z "com/example/warmjoin/warmjoin/PackedFields$Cursor" "left" "I" ≠ Jvm.RoadKit.slotOf Z "com/example/warmjoin/warmjoin/PackedFields$Cursor" "literals" "I" := Jvm.RoadKit.slot_ne (a0 := a0) (Or.inl (own_w hw 22 rfl)) (Or.inl (own_w hw 60 rfl)) (by decide) (t := .int) (t' := .int) (by decide) (by decide)
theorem sn_text_literals {Z : State} {a0 : Array Value} (hw : ∀ d ∈ tables_1, d.before a0 Z = true) : Jvm.RoadKit.slotOf Z "com/example/warmjoin/warmjoin/PackedFields$Cursor" "text" "Z" ≠ Jvm.RoadKit.slotOf Z "com/example/warmjoin/warmjoin/PackedFields$Cursor" "literals" "I" := Jvm.RoadKit.slot_ne (a0 := a0) (Or.inl (own_w hw 52 rfl)) (Or.inl (own_w hw 60 rfl)) (by decide) (t := .boolean) (t' := .int) (by decide) (by decide)
theorem sn_textEnd_literals {Z : State} {a0 : Array Value} (hw : ∀ d ∈ tables_1, d.before a0 Z = true) : Jvm.RoadKit.slotOf Z "com/example/warmjoin/warmjoin/PackedFields$Cursor" "textEnd" "I" ≠ Jvm.RoadKit.slotOf Z "com/example/warmjoin/warmjoin/PackedFields$Cursor" "literals" "I" := Jvm.RoadKit.slot_ne (a0 := a0) (Or.inl (own_w hw 57 rfl)) (Or.inl (own_w hw 60 rfl)) (by decide) (t := .int) (t' := .int) (by decide) (by decide)
theorem sn_index_literals {Z : State} {a0 : Array Value} (hw : ∀ d ∈ tables_1, d.before a0 Z = true) : Jvm.RoadKit.slotOf Z "com/example/warmjoin/warmjoin/PackedFields$Cursor" "index" "I" ≠ Jvm.RoadKit.slotOf Z "com/example/warmjoin/warmjoin/PackedFields$Cursor" "literals" "I" := Jvm.RoadKit.slot_ne (a0 := a0) (Or.inl (own_w hw 62 rfl)) (Or.inl (own_w hw 60 rfl)) (by decide) (t := .int) (t' := .int) (by decide) (by decide)
theorem sn_offset_literals {Z : State} {a0 : Array Value} (hw : ∀ d ∈ tables_1, d.before a0 Z = true) : Jvm.RoadKit.slotOf Z "com/example/warmjoin/warmjoin/PackedFields$Cursor" "offset" "I" ≠ Jvm.RoadKit.slotOf Z "com/example/warmjoin/warmjoin/PackedFields$Cursor" "literals" "I" := Jvm.RoadKit.slot_ne (a0 := a0) (Or.inl (own_w hw 67 rfl)) (Or.inl (own_w hw 60 rfl)) (by decide) (t := .int) (t' := .int) (by decide) (by decide)
theorem sn_length_literals {Z : State} {a0 : Array Value} (hw : ∀ d ∈ tables_1, d.before a0 Z = true) : Jvm.RoadKit.slotOf Z "com/example/warmjoin/warmjoin/PackedFields$Cursor" "length" "I" ≠ Jvm.RoadKit.slotOf Z "com/example/warmjoin/warmjoin/PackedFields$Cursor" "literals" "I" := Jvm.RoadKit.slot_ne (a0 := a0) (Or.inl (own_w hw 69 rfl)) (Or.inl (own_w hw 60 rfl)) (by decide) (t := .int) (t' := .int) (by decide) (by decide)
theorem sn_packed_index {Z : State} {a0 : Array Value} (hw : ∀ d ∈ tables_1, d.before a0 Z = true) : Jvm.RoadKit.slotOf Z "com/example/warmjoin/warmjoin/PackedFields$Cursor" "packed" "[B" ≠ Jvm.RoadKit.slotOf Z "com/example/warmjoin/warmjoin/PackedFields$Cursor" "index" "I" := Jvm.RoadKit.slot_ne (a0 := a0) (Or.inl (own_w hw 16 rfl)) (Or.inl (own_w hw 62 rfl)) (by decide) (t := (.array .byte)) (t' := .int) (by decide) (by decide)
theorem sn_to_index {Z : State} {a0 : Array Value} (hw : ∀ d ∈ tables_1, d.before a0 Z = true) : Jvm.RoadKit.slotOf Z "com/example/warmjoin/warmjoin/PackedFields$Cursor" "to" "I" ≠ Jvm.RoadKit.slotOf Z "com/example/warmjoin/warmjoin/PackedFields$Cursor" "index" "I" := Jvm.RoadKit.slot_ne (a0 := a0) (Or.inl (own_w hw 18 rfl)) (Or.inl (own_w hw 62 rfl)) (by decide) (t := .int) (t' := .int) (by decide) (by decide)
theorem sn_at_index {Z : State} {a0 : Array Value} (hw : ∀ d ∈ tables_1, d.before a0 Z = true) : Jvm.RoadKit.slotOf Z "com/example/warmjoin/warmjoin/PackedFields$Cursor" "at" "I" ≠ Jvm.RoadKit.slotOf Z "com/example/warmjoin/warmjoin/PackedFields$Cursor" "index" "I" := Jvm.RoadKit.slot_ne (a0 := a0) (Or.inl (own_w hw 20 rfl)) (Or.inl (own_w hw 62 rfl)) (by decide) (t := .int) (t' := .int) (by decide) (by decide)
theorem sn_left_index {Z : State} {a0 : Array Value} (hw : ∀ d ∈ tables_1, d.before a0 Z = true) : Jvm.RoadKit.slotOf Z "com/example/warmjoin/warmjoin/PackedFields$Cursor" "left" "I" ≠ Jvm.RoadKit.slotOf Z "com/example/warmjoin/warmjoin/PackedFields$Cursor" "index" "I" := Jvm.RoadKit.slot_ne (a0 := a0) (Or.inl (own_w hw 22 rfl)) (Or.inl (own_w hw 62 rfl)) (by decide) (t := .int) (t' := .int) (by decide) (by decide)
theorem sn_text_index {Z : State} {a0 : Array Value} (hw : ∀ d ∈ tables_1, d.before a0 Z = true) : Jvm.RoadKit.slotOf Z "com/example/warmjoin/warmjoin/PackedFields$Cursor" "text" "Z" ≠ Jvm.RoadKit.slotOf Z "com/example/warmjoin/warmjoin/PackedFields$Cursor" "index" "I" := Jvm.RoadKit.slot_ne (a0 := a0) (Or.inl (own_w hw 52 rfl)) (Or.inl (own_w hw 62 rfl)) (by decide) (t := .boolean) (t' := .int) (by decide) (by decide)
theorem sn_textEnd_index {Z : State} {a0 : Array Value} (hw : ∀ d ∈ tables_1, d.before a0 Z = true) : Jvm.RoadKit.slotOf Z "com/example/warmjoin/warmjoin/PackedFields$Cursor" "textEnd" "I" ≠ Jvm.RoadKit.slotOf Z "com/example/warmjoin/warmjoin/PackedFields$Cursor" "index" "I" := Jvm.RoadKit.slot_ne (a0 := a0) (Or.inl (own_w hw 57 rfl)) (Or.inl (own_w hw 62 rfl)) (by decide) (t := .int) (t' := .int) (by decide) (by decide)
theorem sn_literals_index {Z : State} {a0 : Array Value} (hw : ∀ d ∈ tables_1, d.before a0 Z = true) : Jvm.RoadKit.slotOf Z "com/example/warmjoin/warmjoin/PackedFields$Cursor" "literals" "I" ≠ Jvm.RoadKit.slotOf Z "com/example/warmjoin/warmjoin/PackedFields$Cursor" "index" "I" := Jvm.RoadKit.slot_ne (a0 := a0) (Or.inl (own_w hw 60 rfl)) (Or.inl (own_w hw 62 rfl)) (by decide) (t := .int) (t' := .int) (by decide) (by decide)
theorem sn_offset_index {Z : State} {a0 : Array Value} (hw : ∀ d ∈ tables_1, d.before a0 Z = true) : Jvm.RoadKit.slotOf Z "com/example/warmjoin/warmjoin/PackedFields$Cursor" "offset" "I" ≠ Jvm.RoadKit.slotOf Z "com/example/warmjoin/warmjoin/PackedFields$Cursor" "index" "I" := Jvm.RoadKit.slot_ne (a0 := a0) (Or.inl (own_w hw 67 rfl)) (Or.inl (own_w hw 62 rfl)) (by decide) (t := .int) (t' := .int) (by decide) (by decide)
theorem sn_length_index {Z : State} {a0 : Array Value} (hw : ∀ d ∈ tables_1, d.before a0 Z = true) : Jvm.RoadKit.slotOf Z "com/example/warmjoin/warmjoin/PackedFields$Cursor" "length" "I" ≠ Jvm.RoadKit.slotOf Z "com/example/warmjoin/warmjoin/PackedFields$Cursor" "index" "I" := Jvm.RoadKit.slot_ne (a0 := a0) (Or.inl (own_w hw 69 rfl)) (Or.inl (own_w hw 62 rfl)) (by decide) (t := .int) (t' := .int) (by decide) (by decide)
theorem sn_packed_length {Z : State} {a0 : Array Value} (hw : ∀ d ∈ tables_1, d.before a0 Z = true) : Jvm.RoadKit.slotOf Z "com/example/warmjoin/warmjoin/PackedFields$Cursor" "packed" "[B" ≠ Jvm.RoadKit.slotOf Z "com/example/warmjoin/warmjoin/PackedFields$Cursor" "length" "I" := Jvm.RoadKit.slot_ne (a0 := a0) (Or.inl (own_w hw 16 rfl)) (Or.inl (own_w hw 69 rfl)) (by decide) (t := (.array .byte)) (t' := .int) (by decide) (by decide)
theorem sn_to_length {Z : State} {a0 : Array Value} (hw : ∀ d ∈ tables_1, d.before a0 Z = true) : Jvm.RoadKit.slotOf Z "com/example/warmjoin/warmjoin/PackedFields$Cursor" "to" "I" ≠ Jvm.RoadKit.slotOf Z "com/example/warmjoin/warmjoin/PackedFields$Cursor" "length" "I" := Jvm.RoadKit.slot_ne (a0 := a0) (Or.inl (own_w hw 18 rfl)) (Or.inl (own_w hw 69 rfl)) (by decide) (t := .int) (t' := .int) (by decide) (by decide)
theorem sn_at_length {Z : State} {a0 : Array Value} (hw : ∀ d ∈ tables_1, d.before a0 Z = true) : Jvm.RoadKit.slotOf Z "com/example/warmjoin/warmjoin/PackedFields$Cursor" "at" "I" ≠ Jvm.RoadKit.slotOf Z "com/example/warmjoin/warmjoin/PackedFields$Cursor" "length" "I" := Jvm.RoadKit.slot_ne (a0 := a0) (Or.inl (own_w hw 20 rfl)) (Or.inl (own_w hw 69 rfl)) (by decide) (t := .int) (t' := .int) (by decide) (by decide)
theorem sn_left_length {Z : State} {a0 : Array Value} (hw : ∀ d ∈ tables_1, d.before a0 Z = true) : Jvm.RoadKit.slotOf Z "com/example/warmjoin/warmjoin/PackedFields$Cursor" "left" "I" ≠ Jvm.RoadKit.slotOf Z "com/example/warmjoin/warmjoin/PackedFields$Cursor" "length" "I" := Jvm.RoadKit.slot_ne (a0 := a0) (Or.inl (own_w hw 22 rfl)) (Or.inl (own_w hw 69 rfl)) (by decide) (t := .int) (t' := .int) (by decide) (by decide)
theorem sn_text_length {Z : State} {a0 : Array Value} (hw : ∀ d ∈ tables_1, d.before a0 Z = true) : Jvm.RoadKit.slotOf Z "com/example/warmjoin/warmjoin/PackedFields$Cursor" "text" "Z" ≠ Jvm.RoadKit.slotOf Z "com/example/warmjoin/warmjoin/PackedFields$Cursor" "length" "I" := Jvm.RoadKit.slot_ne (a0 := a0) (Or.inl (own_w hw 52 rfl)) (Or.inl (own_w hw 69 rfl)) (by decide) (t := .boolean) (t' := .int) (by decide) (by decide)
theorem sn_textEnd_length {Z : State} {a0 : Array Value} (hw : ∀ d ∈ tables_1, d.before a0 Z = true) : Jvm.RoadKit.slotOf Z "com/example/warmjoin/warmjoin/PackedFields$Cursor" "textEnd" "I" ≠ Jvm.RoadKit.slotOf Z "com/example/warmjoin/warmjoin/PackedFields$Cursor" "length" "I" := Jvm.RoadKit.slot_ne (a0 := a0) (Or.inl (own_w hw 57 rfl)) (Or.inl (own_w hw 69 rfl)) (by decide) (t := .int) (t' := .int) (by decide) (by decide)
theorem sn_literals_length {Z : State} {a0 : Array Value} (hw : ∀ d ∈ tables_1, d.before a0 Z = true) : Jvm.RoadKit.slotOf Z "com/example/warmjoin/warmjoin/PackedFields$Cursor" "literals" "I" ≠ Jvm.RoadKit.slotOf Z "com/example/warmjoin/warmjoin/PackedFields$Cursor" "length" "I" := Jvm.RoadKit.slot_ne (a0 := a0) (Or.inl (own_w hw 60 rfl)) (Or.inl (own_w hw 69 rfl)) (by decide) (t := .int) (t' := .int) (by decide) (by decide)
theorem sn_index_length {Z : State} {a0 : Array Value} (hw : ∀ d ∈ tables_1, d.before a0 Z = true) : Jvm.RoadKit.slotOf Z "com/example/warmjoin/warmjoin/PackedFields$Cursor" "index" "I" ≠ Jvm.RoadKit.slotOf Z "com/example/warmjoin/warmjoin/PackedFields$Cursor" "length" "I" := Jvm.RoadKit.slot_ne (a0 := a0) (Or.inl (own_w hw 62 rfl)) (Or.inl (own_w hw 69 rfl)) (by decide) (t := .int) (t' := .int) (by decide) (by decide)
theorem sn_offset_length {Z : State} {a0 : Array Value} (hw : ∀ d ∈ tables_1, d.before a0 Z = true) : Jvm.RoadKit.slotOf Z "com/example/warmjoin/warmjoin/PackedFields$Cursor" "offset" "I" ≠ Jvm.RoadKit.slotOf Z "com/example/warmjoin/warmjoin/PackedFields$Cursor" "length" "I" := Jvm.RoadKit.slot_ne (a0 := a0) (Or.inl (own_w hw 67 rfl)) (Or.inl (own_w hw 69 rfl)) (by decide) (t := .int) (t' := .int) (by decide) (by decide)
theorem sn_packed_offset {Z : State} {a0 : Array Value} (hw : ∀ d ∈ tables_1, d.before a0 Z = true) : Jvm.RoadKit.slotOf Z "com/example/warmjoin/warmjoin/PackedFields$Cursor" "packed" "[B" ≠ Jvm.RoadKit.slotOf Z "com/example/warmjoin/warmjoin/PackedFields$Cursor" "offset" "I" := Jvm.RoadKit.slot_ne (a0 := a0) (Or.inl (own_w hw 16 rfl)) (Or.inl (own_w hw 67 rfl)) (by decide) (t := (.array .byte)) (t' := .int) (by decide) (by decide)
theorem sn_to_offset {Z : State} {a0 : Array Value} (hw : ∀ d ∈ tables_1, d.before a0 Z = true) : Jvm.RoadKit.slotOf Z "com/example/warmjoin/warmjoin/PackedFields$Cursor" "to" "I" ≠ Jvm.RoadKit.slotOf Z "com/example/warmjoin/warmjoin/PackedFields$Cursor" "offset" "I" := Jvm.RoadKit.slot_ne (a0 := a0) (Or.inl (own_w hw 18 rfl)) (Or.inl (own_w hw 67 rfl)) (by decide) (t := .int) (t' := .int) (by decide) (by decide)
theorem sn_at_offset {Z : State} {a0 : Array Value} (hw : ∀ d ∈ tables_1, d.before a0 Z = true) : Jvm.RoadKit.slotOf Z "com/example/warmjoin/warmjoin/PackedFields$Cursor" "at" "I" ≠ Jvm.RoadKit.slotOf Z "com/example/warmjoin/warmjoin/PackedFields$Cursor" "offset" "I" := Jvm.RoadKit.slot_ne (a0 := a0) (Or.inl (own_w hw 20 rfl)) (Or.inl (own_w hw 67 rfl)) (by decide) (t := .int) (t' := .int) (by decide) (by decide)
theorem sn_left_offset {Z : State} {a0 : Array Value} (hw : ∀ d ∈ tables_1, d.before a0 Z = true) : Jvm.RoadKit.slotOf Z "com/example/warmjoin/warmjoin/PackedFields$Cursor" "left" "I" ≠ Jvm.RoadKit.slotOf Z "com/example/warmjoin/warmjoin/PackedFields$Cursor" "offset" "I" := Jvm.RoadKit.slot_ne (a0 := a0) (Or.inl (own_w hw 22 rfl)) (Or.inl (own_w hw 67 rfl)) (by decide) (t := .int) (t' := .int) (by decide) (by decide)
theorem sn_text_offset {Z : State} {a0 : Array Value} (hw : ∀ d ∈ tables_1, d.before a0 Z = true) : Jvm.RoadKit.slotOf Z "com/example/warmjoin/warmjoin/PackedFields$Cursor" "text" "Z" ≠ Jvm.RoadKit.slotOf Z "com/example/warmjoin/warmjoin/PackedFields$Cursor" "offset" "I" := Jvm.RoadKit.slot_ne (a0 := a0) (Or.inl (own_w hw 52 rfl)) (Or.inl (own_w hw 67 rfl)) (by decide) (t := .boolean) (t' := .int) (by decide) (by decide)
theorem sn_textEnd_offset {Z : State} {a0 : Array Value} (hw : ∀ d ∈ tables_1, d.before a0 Z = true) : Jvm.RoadKit.slotOf Z "com/example/warmjoin/warmjoin/PackedFields$Cursor" "textEnd" "I" ≠ Jvm.RoadKit.slotOf Z "com/example/warmjoin/warmjoin/PackedFields$Cursor" "offset" "I" := Jvm.RoadKit.slot_ne (a0 := a0) (Or.inl (own_w hw 57 rfl)) (Or.inl (own_w hw 67 rfl)) (by decide) (t := .int) (t' := .int) (by decide) (by decide)
theorem sn_literals_offset {Z : State} {a0 : Array Value} (hw : ∀ d ∈ tables_1, d.before a0 Z = true) : Jvm.RoadKit.slotOf Z "com/example/warmjoin/warmjoin/PackedFields$Cursor" "literals" "I" ≠ Jvm.RoadKit.slotOf Z "com/example/warmjoin/warmjoin/PackedFields$Cursor" "offset" "I" := Jvm.RoadKit.slot_ne (a0 := a0) (Or.inl (own_w hw 60 rfl)) (Or.inl (own_w hw 67 rfl)) (by decide) (t := .int) (t' := .int) (by decide) (by decide)
theorem sn_index_offset {Z : State} {a0 : Array Value} (hw : ∀ d ∈ tables_1, d.before a0 Z = true) : Jvm.RoadKit.slotOf Z "com/example/warmjoin/warmjoin/PackedFields$Cursor" "index" "I" ≠ Jvm.RoadKit.slotOf Z "com/example/warmjoin/warmjoin/PackedFields$Cursor" "offset" "I" := Jvm.RoadKit.slot_ne (a0 := a0) (Or.inl (own_w hw 62 rfl)) (Or.inl (own_w hw 67 rfl)) (by decide) (t := .int) (t' := .int) (by decide) (by decide)
theorem sn_length_offset {Z : State} {a0 : Array Value} (hw : ∀ d ∈ tables_1, d.before a0 Z = true) : Jvm.RoadKit.slotOf Z "com/example/warmjoin/warmjoin/PackedFields$Cursor" "length" "I" ≠ Jvm.RoadKit.slotOf Z "com/example/warmjoin/warmjoin/PackedFields$Cursor" "offset" "I" := Jvm.RoadKit.slot_ne (a0 := a0) (Or.inl (own_w hw 69 rfl)) (Or.inl (own_w hw 67 rfl)) (by decide) (t := .int) (t' := .int) (by decide) (by decide)
set_option maxRecDepth 65536 in
set_option maxHeartbeats 40000000 in
theorem rm_next000 (l : Launch) (Z : State) (a0 : Array Value) (hw : ∀ d ∈ tables_1, d.before a0 Z = true) (ws : List Jvm.Cond) (a1 pk : Addr) (f : Nat → Int32) (i e' : Nat) (u4 u5 u6 u7 u8 u9 : Int32) (h0 : Heap) (n0 : Nat) (Z0 : n0 ≤ h0.size) (U : Cur Z h0 a1 (.ref pk) (Int32.ofNat e') (Int32.ofNat i) (0 : Int32) u4 u5 u6 u7 u8 u9) (hne : a1 ≠ pk) (g_a1 : n0 ≤ a1) (A : BArr Z h0 pk 20 f) (hi : i < 4) (hie : i < e') (he : e' < 20) (hf0 : f i = Int32.ofNat 36) (hfc : f (i + 1) = Int32.ofNat 1) :
    MetFree l (⟨"com/example/warmjoin/warmjoin/PackedFields$Cursor", "next", "()Z"⟩ : MethodName) (head1 (Jvm.Cond.code (⟨"com/example/warmjoin/warmjoin/PackedFields$Cursor", "next", "()Z"⟩ : MethodName) prog_100_method_3_code 5 (some .boolean) :: ws) ({ frames := 2, cells := 0, slots := 0, locals := 38 } : Room)) (fun a U => a = #[(.ref a1)] ∧ Z.Warmed39 U.vm ∧ U.heap = h0) (fun _ _ _ _ _ => True) (fun _ U o U' => ∃ v L, o = .returned v ∧ Q_rm_next000 Z a1 pk f i e' u4 u5 u6 u7 u8 u9 h0 n0 v U'.heap L ∧ FrameEnd U o U' L ({ frames := 2, cells := 0, slots := 0, locals := 38 } : Room).cells ({ frames := 2, cells := 0, slots := 0, locals := 38 } : Room).slots) := by
  refine own_met (y := (⟨"com/example/warmjoin/warmjoin/PackedFields$Cursor", "next", "()Z"⟩ : MethodName)) (Q := (Q_rm_next000 Z a1 pk f i e' u4 u5 u6 u7 u8 u9 h0 n0)) (plainFor_of_name pn_1) fun p e s m below meth c s₁ X0 hx hby hml hret hlk hown hnm hZ e0 => ?_
  refine own_entry (ef_4_R m a1) ?_
  obtain ⟨E1, F0, F1, F2, F3, F4, F5, F6, F7, F8, F9⟩ := U
  have K0 := Keep.refl h0 [a1]
  refine own_to s₁ (mkF m 1 #[.val (.ref a1), .unset, .unset, .unset, .unset] [(.ref a1)]) (fun tq kq => XS.aloadN X0.here hx rfl (hb hby d4_0) rfl rfl kq) ?_
  obtain ⟨T1, X1, e1, st1⟩ := getF X0 hx hZ hown (host := "") (Or.inl (own_w hw 21 rfl)) Via.refl e0 F3 (g := (mkF m 1 #[.val (.ref a1), .unset, .unset, .unset, .unset] [(.ref a1)])) rfl rfl (hb hby d4_1)
  refine own_to T1 (mkF m 8 #[.val (.ref a1), .unset, .unset, .unset, .unset] [(.ref a1)]) (fun tq kq => st1 _ (XS.ifNo X1.here hx rfl (hb hby d4_4) rfl ((if0 _ _).trans (teq (by decide : (0 : Int32) = (0 : Int32))).2) (XS.aloadN X1.here hx rfl (hb hby d4_7) rfl rfl kq))) ?_
  obtain ⟨T2, X2, e2, st2⟩ := getF X1 hx hZ hown (host := "") (Or.inl (own_w hw 19 rfl)) Via.refl e1 F2 (g := (mkF m 8 #[.val (.ref a1), .unset, .unset, .unset, .unset] [(.ref a1)])) rfl rfl (hb hby d4_8)
  refine own_to T2 (mkF m 12 #[.val (.ref a1), .unset, .unset, .unset, .unset] [(.ref a1), (.int (Int32.ofNat i))]) (fun tq kq => st2 _ (XS.aloadN X2.here hx rfl (hb hby d4_11) rfl rfl kq)) ?_
  obtain ⟨T3, X3, e3, st3⟩ := getF X2 hx hZ hown (host := "") (Or.inl (own_w hw 17 rfl)) Via.refl e2 F1 (g := (mkF m 12 #[.val (.ref a1), .unset, .unset, .unset, .unset] [(.ref a1), (.int (Int32.ofNat i))])) rfl rfl (hb hby d4_12)
  refine own_to T3 (mkF m 21 #[.val (.ref a1), .unset, .unset, .unset, .unset] [(.ref a1)]) (fun tq kq => st3 _ (XS.icmpYes X3.here hx rfl (pc0 := 15) (pc' := 20) rfl (hb hby d4_15) rfl (tlt ((own_ltn (by omega) (by omega)).mpr hie)).1 (by decide) (by decide) (XS.aloadN X3.here hx rfl (hb hby d4_20) rfl rfl kq))) ?_
  obtain ⟨T4, X4, e4, st4⟩ := getF X3 hx hZ hown (host := "") (Or.inl (own_w hw 15 rfl)) Via.refl e3 F0 (g := (mkF m 21 #[.val (.ref a1), .unset, .unset, .unset, .unset] [(.ref a1)])) rfl rfl (hb hby d4_21)
  refine own_to T4 (mkF m 25 #[.val (.ref a1), .unset, .unset, .unset, .unset] [(.ref a1), (.ref pk)]) (fun tq kq => st4 _ (XS.aloadN X4.here hx rfl (hb hby d4_24) rfl rfl kq)) ?_
  obtain ⟨T5, X5, e5, st5⟩ := getF X4 hx hZ hown (host := "") (Or.inl (own_w hw 19 rfl)) Via.refl e4 F2 (g := (mkF m 25 #[.val (.ref a1), .unset, .unset, .unset, .unset] [(.ref a1), (.ref pk)])) rfl rfl (hb hby d4_25)
  refine own_to T5 (mkF m 28 #[.val (.ref a1), .unset, .unset, .unset, .unset] [(.int (Int32.ofNat i)), (.ref pk)]) (fun tq kq => st5 _ kq) ?_
  obtain ⟨_, _, ⟨T6, L6, k6, n6⟩, -, X6, ⟨Lc6, hQ6, l6, y6, z6⟩, st6⟩ := callSN X5 hx (y := (⟨"com/example/warmjoin/warmjoin/PackedFields", "number", "([BI)J"⟩ : MethodName)) hown (own_mvMN hZ (own_w hw 28 rfl)) (mvT hZ (own_w hw 29 rfl)) (mvT hZ (own_w hw 30 rfl)) (mvT hZ (own_w hw 31 rfl)) (by decide) (backOf (W := 0) (rm_number l Z a0 hw [] pk f (i) (36) h0 n0 Z0 A (by omega) hf0 (by omega)) hZ (own_w hw 31 rfl) (own_w hw 30 rfl) (by decide) (by decide)) (g := (mkF m 28 #[.val (.ref a1), .unset, .unset, .unset, .unset] [(.int (Int32.ofNat i)), (.ref pk)])) rfl (by rw [hml]; rfl) (argsL := [(.ref pk), (.int (Int32.ofNat i))]) (rest := []) (lenOf pd_3 rfl) rfl (by show 2 * 0 + _ ≤ _; exact Nat.le_of_eq rfl) (hb hby d4_28) (fun _ _ => ⟨rfl, e5, (by decide : 0 + 0 ≤ _), (by decide : 0 + 0 ≤ _)⟩)
  dsimp only [Pt.U, Pt.locs, Pt.cells, Pt.slots] at X6 l6 y6 z6 st6 hQ6
  have l6y := l6.symm
  clear l6
  subst l6y
  obtain rfl : k6 = 0 := y6
  obtain rfl : n6 = 0 := z6
  obtain ⟨rfl, N6q, e6⟩ := hQ6
  have N6 := Fr.app (Fr.nil n0) N6q
  refine own_to T6 (mkF m 33 #[.val (.ref a1), .val (.long (own_pk (i + 1) (36))), .second, .unset, .unset] [(.ref a1)]) (fun tq kq => st6.trans (XS.lstoreN X6.here hx rfl (hb hby d4_31) rfl (l' := #[.val (.ref a1), .val (.long (own_pk (i + 1) (36))), .second, .unset, .unset]) rfl (XS.aloadN X6.here hx rfl (hb hby d4_32) rfl rfl kq))) ?_
  obtain ⟨T7, X7, e7, st7⟩ := getF X6 hx hZ hown (host := "") (Or.inl (own_w hw 15 rfl)) Via.refl e6 F0 (g := (mkF m 33 #[.val (.ref a1), .val (.long (own_pk (i + 1) (36))), .second, .unset, .unset] [(.ref a1)])) rfl rfl (hb hby d4_33)
  refine own_to T7 (mkF m 37 #[.val (.ref a1), .val (.long (own_pk (i + 1) (36))), .second, .unset, .unset] [(.long (own_pk (i + 1) (36))), (.ref pk)]) (fun tq kq => st7 _ (XS.lloadN X7.here hx rfl (hb hby d4_36) rfl kq)) ?_
  obtain ⟨_, _, ⟨T8, L8, k8, n8⟩, -, X8, ⟨Lc8, hQ8, l8, y8, z8⟩, st8⟩ := callSN X7 hx (y := (⟨"com/example/warmjoin/warmjoin/PackedFields", "body", "([BJ)J"⟩ : MethodName)) hown (own_mvMN hZ (own_w hw 33 rfl)) (mvT hZ (own_w hw 34 rfl)) (mvT hZ (own_w hw 30 rfl)) (mvT hZ (own_w hw 35 rfl)) (by decide) (backOf (W := 0) (rm_body00 l Z a0 hw [] pk f (i + 1) h0 n0 Z0 A (by omega) trivial) hZ (own_w hw 35 rfl) (own_w hw 30 rfl) (by decide) (by decide)) (g := (mkF m 37 #[.val (.ref a1), .val (.long (own_pk (i + 1) (36))), .second, .unset, .unset] [(.long (own_pk (i + 1) (36))), (.ref pk)])) rfl (by rw [hml]; rfl) (argsL := [(.ref pk), (.long (own_pk (i + 1) (36)))]) (rest := []) (lenOf pd_4 rfl) rfl (by show 2 * 0 + _ ≤ _; exact Nat.le_of_eq rfl) (hb hby d4_37) (fun _ _ => ⟨rfl, e7, (by decide : 0 + 0 ≤ _), (by decide : 0 + 0 ≤ _)⟩)
  dsimp only [Pt.U, Pt.locs, Pt.cells, Pt.slots] at X8 l8 y8 z8 st8 hQ8
  have l8y := l8.symm
  clear l8
  subst l8y
  obtain rfl : k8 = 0 := y8
  obtain rfl : n8 = 0 := z8
  obtain ⟨rfl, N8q, e8⟩ := hQ8
  have N8 := Fr.app N6 N8q
  refine own_to T8 (mkF m 43 #[.val (.ref a1), .val (.long (own_pk (i + 1) (36))), .second, .val (.long (own_pk (i + 1) (0))), .second] [(.long (own_pk (i + 1) (36))), (.ref a1)]) (fun tq kq => st8.trans (XS.lstoreN X8.here hx rfl (hb hby d4_40) rfl (l' := #[.val (.ref a1), .val (.long (own_pk (i + 1) (36))), .second, .val (.long (own_pk (i + 1) (0))), .second]) rfl (XS.aloadN X8.here hx rfl (hb hby d4_41) rfl rfl (XS.lloadN X8.here hx rfl (hb hby d4_42) rfl kq)))) ?_
  obtain ⟨_, _, ⟨T9, L9, k9, n9⟩, -, X9, ⟨Lc9, hQ9, l9, y9, z9⟩, st9⟩ := callSN X8 hx (y := (⟨"com/example/warmjoin/warmjoin/PackedFields", "fieldsOf", "(J)I"⟩ : MethodName)) hown (own_mvMN hZ (own_w hw 46 rfl)) (mvT hZ (own_w hw 47 rfl)) (mvT hZ (own_w hw 30 rfl)) (mvT hZ (own_w hw 48 rfl)) (by decide) (backOf (W := 1) (rm_fieldsOf l Z a0 hw [] (i + 1) (36) h0 n0 Z0 (by omega) (by omega)) hZ (own_w hw 48 rfl) (own_w hw 30 rfl) (by decide) (by decide)) (g := (mkF m 43 #[.val (.ref a1), .val (.long (own_pk (i + 1) (36))), .second, .val (.long (own_pk (i + 1) (0))), .second] [(.long (own_pk (i + 1) (36))), (.ref a1)])) rfl (by rw [hml]; rfl) (argsL := [(.long (own_pk (i + 1) (36)))]) (rest := [(.ref a1)]) (lenOf pd_6 rfl) rfl (by show 2 * 0 + _ ≤ _; exact Nat.le_of_eq rfl) (hb hby d4_43) (fun _ _ => ⟨rfl, e8, (by decide : 0 + 0 ≤ _), (by decide : 0 + 0 ≤ _)⟩)
  dsimp only [Pt.U, Pt.locs, Pt.cells, Pt.slots] at X9 l9 y9 z9 st9 hQ9
  have l9y := l9.symm
  clear l9
  subst l9y
  obtain rfl : k9 = 0 := y9
  obtain rfl : n9 = 0 := z9
  obtain ⟨rfl, N9q, e9⟩ := hQ9
  have N9 := Fr.app N8 N9q
  refine own_to T9 (mkF m 46 #[.val (.ref a1), .val (.long (own_pk (i + 1) (36))), .second, .val (.long (own_pk (i + 1) (0))), .second] [(.int (Int32.ofNat (36 / 4))), (.ref a1)]) (fun tq kq => st9.trans kq) ?_
  rw [show (Int32.ofNat (36 / 4)) = (Int32.ofNat (9)) from rfl]
  obtain ⟨T10, h10, X10, e10, W10, st10⟩ := putF X9 hx hZ hown (host := "") (Or.inl (own_w hw 21 rfl)) Via.refl e9 F3 E1 (Or.inl (own_w hw 22 rfl)) (own_w hw 2 rfl) (ty := .int) (by decide) rfl rfl (g := (mkF m 46 #[.val (.ref a1), .val (.long (own_pk (i + 1) (36))), .second, .val (.long (own_pk (i + 1) (0))), .second] [(.int (Int32.ofNat (9))), (.ref a1)])) rfl rfl (hb hby d4_46)
  have f11 := E1.wr W10
  have f12 := F0.other W10 (Or.inr (sn_packed_left hw))
  have f13 := F1.other W10 (Or.inr (sn_to_left hw))
  have f14 := F2.other W10 (Or.inr (sn_at_left hw))
  have f15 := F4.other W10 (Or.inr (sn_text_left hw))
  have f16 := F5.other W10 (Or.inr (sn_textEnd_left hw))
  have f17 := F6.other W10 (Or.inr (sn_literals_left hw))
  have f18 := F7.other W10 (Or.inr (sn_index_left hw))
  have f19 := F8.other W10 (Or.inr (sn_offset_left hw))
  have f20 := F9.other W10 (Or.inr (sn_length_left hw))
  have f21 := A.other W10 (Ne.symm hne)
  have f22 := F3.same W10
  have N10 := Fr.snoc X10 N9 g_a1
  have Zs10 : n0 ≤ h10.size := by rw [W10.size]; exact Z0
  have K10 := K0.wr W10 (Or.inl (List.mem_of_getElem? (i := 0) rfl))
  refine own_to T10 (mkF m 51 #[.val (.ref a1), .val (.long (own_pk (i + 1) (36))), .second, .val (.long (own_pk (i + 1) (0))), .second] [(.long (own_pk (i + 1) (0))), (.ref a1)]) (fun tq kq => st10 _ (XS.aloadN X10.here hx rfl (hb hby d4_49) rfl rfl (XS.lloadN X10.here hx rfl (hb hby d4_50) rfl kq))) ?_
  obtain ⟨_, _, ⟨T23, L23, k23, n23⟩, -, X23, ⟨Lc23, hQ23, l23, y23, z23⟩, st23⟩ := Jvm.LawKit.callS X10 hx (y := (⟨"com/example/warmjoin/warmjoin/PackedFields", "start", "(J)I"⟩ : MethodName)) hown (mvT hZ (own_w hw 49 rfl)) (mvT hZ (own_w hw 40 rfl)) (mvT hZ (own_w hw 30 rfl)) (mvT hZ (own_w hw 41 rfl)) (by decide) (backOf (W := 1) (rm_start l Z a0 hw [] (i + 1) (0) h10 n0 Zs10 (by omega) (by omega)) hZ (own_w hw 41 rfl) (own_w hw 30 rfl) (by decide) (by decide)) (g := (mkF m 51 #[.val (.ref a1), .val (.long (own_pk (i + 1) (36))), .second, .val (.long (own_pk (i + 1) (0))), .second] [(.long (own_pk (i + 1) (0))), (.ref a1)])) rfl (by rw [hml]; rfl) (argsL := [(.long (own_pk (i + 1) (0)))]) (rest := [(.ref a1)]) (lenOf pd_6 rfl) rfl (by show 2 * 0 + _ ≤ _; exact Nat.le_of_eq rfl) (hb hby d4_51) (fun _ _ => ⟨rfl, e10, (by decide : 0 + 0 ≤ _), (by decide : 0 + 0 ≤ _)⟩)
  dsimp only [Pt.U, Pt.locs, Pt.cells, Pt.slots] at X23 l23 y23 z23 st23 hQ23
  have l23y := l23.symm
  clear l23
  subst l23y
  obtain rfl : k23 = 0 := y23
  obtain rfl : n23 = 0 := z23
  obtain ⟨rfl, N23q, e23⟩ := hQ23
  have N23 := Fr.app N10 N23q
  refine own_to T23 (mkF m 54 #[.val (.ref a1), .val (.long (own_pk (i + 1) (36))), .second, .val (.long (own_pk (i + 1) (0))), .second] [(.int (Int32.ofNat (i + 1))), (.ref a1)]) (fun tq kq => st23 _ kq) ?_
  obtain ⟨T24, h24, X24, e24, W24, st24⟩ := putF X23 hx hZ hown (host := "") (Or.inl (own_w hw 19 rfl)) Via.refl e23 f14 f11 (Or.inl (own_w hw 20 rfl)) (own_w hw 2 rfl) (ty := .int) (by decide) rfl rfl (g := (mkF m 54 #[.val (.ref a1), .val (.long (own_pk (i + 1) (36))), .second, .val (.long (own_pk (i + 1) (0))), .second] [(.int (Int32.ofNat (i + 1))), (.ref a1)])) rfl rfl (hb hby d4_54)
  have f25 := f11.wr W24
  have f26 := f12.other W24 (Or.inr (sn_packed_at hw))
  have f27 := f13.other W24 (Or.inr (sn_to_at hw))
  have f28 := f22.other W24 (Or.inr (sn_left_at hw))
  have f29 := f15.other W24 (Or.inr (sn_text_at hw))
  have f30 := f16.other W24 (Or.inr (sn_textEnd_at hw))
  have f31 := f17.other W24 (Or.inr (sn_literals_at hw))
  have f32 := f18.other W24 (Or.inr (sn_index_at hw))
  have f33 := f19.other W24 (Or.inr (sn_offset_at hw))
  have f34 := f20.other W24 (Or.inr (sn_length_at hw))
  have f35 := f21.other W24 (Ne.symm hne)
  have f36 := f14.same W24
  have N24 := Fr.snoc X24 N23 g_a1
  have Zs24 : n0 ≤ h24.size := by rw [W24.size]; exact Zs10
  have K24 := K10.wr W24 (Or.inl (List.mem_of_getElem? (i := 0) rfl))
  refine own_to T24 (mkF m 59 #[.val (.ref a1), .val (.long (own_pk (i + 1) (36))), .second, .val (.long (own_pk (i + 1) (0))), .second] [(.long (own_pk (i + 1) (36))), (.ref a1)]) (fun tq kq => st24 _ (XS.aloadN X24.here hx rfl (hb hby d4_57) rfl rfl (XS.lloadN X24.here hx rfl (hb hby d4_58) rfl kq))) ?_
  obtain ⟨_, _, ⟨T37, L37, k37, n37⟩, -, X37, ⟨Lc37, hQ37, l37, y37, z37⟩, st37⟩ := callSN X24 hx (y := (⟨"com/example/warmjoin/warmjoin/PackedFields", "isText", "(J)Z"⟩ : MethodName)) hown (own_mvMN hZ (own_w hw 50 rfl)) (mvT hZ (own_w hw 37 rfl)) (mvT hZ (own_w hw 30 rfl)) (mvT hZ (own_w hw 38 rfl)) (by decide) (backOf (W := 1) (rm_isText l Z a0 hw [] (i + 1) (36) h24 n0 Zs24 (by omega) (by omega)) hZ (own_w hw 38 rfl) (own_w hw 30 rfl) (by decide) (by decide)) (g := (mkF m 59 #[.val (.ref a1), .val (.long (own_pk (i + 1) (36))), .second, .val (.long (own_pk (i + 1) (0))), .second] [(.long (own_pk (i + 1) (36))), (.ref a1)])) rfl (by rw [hml]; rfl) (argsL := [(.long (own_pk (i + 1) (36)))]) (rest := [(.ref a1)]) (lenOf pd_5 rfl) rfl (by show 2 * 0 + _ ≤ _; exact Nat.le_of_eq rfl) (hb hby d4_59) (fun _ _ => ⟨rfl, e24, (by decide : 0 + 0 ≤ _), (by decide : 0 + 0 ≤ _)⟩)
  dsimp only [Pt.U, Pt.locs, Pt.cells, Pt.slots] at X37 l37 y37 z37 st37 hQ37
  have l37y := l37.symm
  clear l37
  subst l37y
  obtain rfl : k37 = 0 := y37
  obtain rfl : n37 = 0 := z37
  obtain ⟨rfl, N37q, e37⟩ := hQ37
  have N37 := Fr.app N24 N37q
  refine own_to T37 (mkF m 62 #[.val (.ref a1), .val (.long (own_pk (i + 1) (36))), .second, .val (.long (own_pk (i + 1) (0))), .second] [(.int (Int32.ofNat (36 % 2))), (.ref a1)]) (fun tq kq => st37.trans kq) ?_
  rw [show (Int32.ofNat (36 % 2)) = (0 : Int32) from rfl]
  obtain ⟨T38, h38, X38, e38, W38, st38⟩ := putFN X37 hx hZ hown (own_w hw 51 rfl) Via.refl e37 f29 f25 (Or.inl (own_w hw 52 rfl)) (own_w hw 2 rfl) (ty := .boolean) (v' := (.int (0 : Int32))) (by decide) rfl rfl (g := (mkF m 62 #[.val (.ref a1), .val (.long (own_pk (i + 1) (36))), .second, .val (.long (own_pk (i + 1) (0))), .second] [(.int (0 : Int32)), (.ref a1)])) rfl rfl (hb hby d4_62)
  have f39 := f25.wr W38
  have f40 := f26.other W38 (Or.inr (sn_packed_text hw))
  have f41 := f27.other W38 (Or.inr (sn_to_text hw))
  have f42 := f36.other W38 (Or.inr (sn_at_text hw))
  have f43 := f28.other W38 (Or.inr (sn_left_text hw))
  have f44 := f30.other W38 (Or.inr (sn_textEnd_text hw))
  have f45 := f31.other W38 (Or.inr (sn_literals_text hw))
  have f46 := f32.other W38 (Or.inr (sn_index_text hw))
  have f47 := f33.other W38 (Or.inr (sn_offset_text hw))
  have f48 := f34.other W38 (Or.inr (sn_length_text hw))
  have f49 := f35.other W38 (Ne.symm hne)
  have f50 := f29.same W38
  have N38 := Fr.snoc X38 N37 g_a1
  have Zs38 : n0 ≤ h38.size := by rw [W38.size]; exact Zs24
  have K38 := K24.wr W38 (Or.inl (List.mem_of_getElem? (i := 0) rfl))
  refine own_to T38 (mkF m 67 #[.val (.ref a1), .val (.long (own_pk (i + 1) (36))), .second, .val (.long (own_pk (i + 1) (0))), .second] [(.ref a1), (.ref a1)]) (fun tq kq => st38 _ (XS.aloadN X38.here hx rfl (hb hby d4_65) rfl rfl (XS.aloadN X38.here hx rfl (hb hby d4_66) rfl rfl kq))) ?_
  obtain ⟨T51, X51, e51, st51⟩ := getF X38 hx hZ hown (host := "") (Or.inl (own_w hw 19 rfl)) Via.refl e38 f42 (g := (mkF m 67 #[.val (.ref a1), .val (.long (own_pk (i + 1) (36))), .second, .val (.long (own_pk (i + 1) (0))), .second] [(.ref a1), (.ref a1)])) rfl rfl (hb hby d4_67)
  refine own_to T51 (mkF m 71 #[.val (.ref a1), .val (.long (own_pk (i + 1) (36))), .second, .val (.long (own_pk (i + 1) (0))), .second] [(.long (own_pk (i + 1) (0))), (.int (Int32.ofNat (i + 1))), (.ref a1)]) (fun tq kq => st51 _ (XS.lloadN X51.here hx rfl (hb hby d4_70) rfl kq)) ?_
  obtain ⟨_, _, ⟨T52, L52, k52, n52⟩, -, X52, ⟨Lc52, hQ52, l52, y52, z52⟩, st52⟩ := Jvm.LawKit.callS X51 hx (y := (⟨"com/example/warmjoin/warmjoin/PackedFields", "length", "(J)I"⟩ : MethodName)) hown (mvT hZ (own_w hw 53 rfl)) (mvT hZ (own_w hw 54 rfl)) (mvT hZ (own_w hw 30 rfl)) (mvT hZ (own_w hw 55 rfl)) (by decide) (backOf (W := 2) (rm_length l Z a0 hw [] (i + 1) (0) h38 n0 Zs38 (by omega) (by omega)) hZ (own_w hw 55 rfl) (own_w hw 30 rfl) (by decide) (by decide)) (g := (mkF m 71 #[.val (.ref a1), .val (.long (own_pk (i + 1) (36))), .second, .val (.long (own_pk (i + 1) (0))), .second] [(.long (own_pk (i + 1) (0))), (.int (Int32.ofNat (i + 1))), (.ref a1)])) rfl (by rw [hml]; rfl) (argsL := [(.long (own_pk (i + 1) (0)))]) (rest := [(.int (Int32.ofNat (i + 1))), (.ref a1)]) (lenOf pd_6 rfl) rfl (by show 2 * 0 + _ ≤ _; exact Nat.le_of_eq rfl) (hb hby d4_71) (fun _ _ => ⟨rfl, e51, (by decide : 0 + 0 ≤ _), (by decide : 0 + 0 ≤ _)⟩)
  dsimp only [Pt.U, Pt.locs, Pt.cells, Pt.slots] at X52 l52 y52 z52 st52 hQ52
  have l52y := l52.symm
  clear l52
  subst l52y
  obtain rfl : k52 = 0 := y52
  obtain rfl : n52 = 0 := z52
  obtain ⟨rfl, N52q, e52⟩ := hQ52
  have N52 := Fr.app N38 N52q
  refine own_to T52 (mkF m 75 #[.val (.ref a1), .val (.long (own_pk (i + 1) (36))), .second, .val (.long (own_pk (i + 1) (0))), .second] [(.int ((Int32.ofNat (i + 1)) + (Int32.ofNat (0)))), (.ref a1)]) (fun tq kq => st52 _ (XS.iadd X52.here hx rfl (hb hby d4_74) rfl kq)) ?_
  rw [show ((Int32.ofNat (i + 1)) + (Int32.ofNat (0))) = (Int32.ofNat (i + 1 + 0)) from own_addn (i + 1) 0 (by omega) (by omega)]
  obtain ⟨T53, h53, X53, e53, W53, st53⟩ := putF X52 hx hZ hown (host := "") (Or.inl (own_w hw 56 rfl)) Via.refl e52 f44 f39 (Or.inl (own_w hw 57 rfl)) (own_w hw 2 rfl) (ty := .int) (by decide) rfl rfl (g := (mkF m 75 #[.val (.ref a1), .val (.long (own_pk (i + 1) (36))), .second, .val (.long (own_pk (i + 1) (0))), .second] [(.int (Int32.ofNat (i + 1 + 0))), (.ref a1)])) rfl rfl (hb hby d4_75)
  have f54 := f39.wr W53
  have f55 := f40.other W53 (Or.inr (sn_packed_textEnd hw))
  have f56 := f41.other W53 (Or.inr (sn_to_textEnd hw))
  have f57 := f42.other W53 (Or.inr (sn_at_textEnd hw))
  have f58 := f43.other W53 (Or.inr (sn_left_textEnd hw))
  have f59 := f50.other W53 (Or.inr (sn_text_textEnd hw))
  have f60 := f45.other W53 (Or.inr (sn_literals_textEnd hw))
  have f61 := f46.other W53 (Or.inr (sn_index_textEnd hw))
  have f62 := f47.other W53 (Or.inr (sn_offset_textEnd hw))
  have f63 := f48.other W53 (Or.inr (sn_length_textEnd hw))
  have f64 := f49.other W53 (Ne.symm hne)
  have f65 := f44.same W53
  have N53 := Fr.snoc X53 N52 g_a1
  have Zs53 : n0 ≤ h53.size := by rw [W53.size]; exact Zs38
  have K53 := K38.wr W53 (Or.inl (List.mem_of_getElem? (i := 0) rfl))
  refine own_to T53 (mkF m 80 #[.val (.ref a1), .val (.long (own_pk (i + 1) (36))), .second, .val (.long (own_pk (i + 1) (0))), .second] [(.long (own_pk (i + 1) (36))), (.ref a1)]) (fun tq kq => st53 _ (XS.aloadN X53.here hx rfl (hb hby d4_78) rfl rfl (XS.lloadN X53.here hx rfl (hb hby d4_79) rfl kq))) ?_
  obtain ⟨_, _, ⟨T66, L66, k66, n66⟩, -, X66, ⟨Lc66, hQ66, l66, y66, z66⟩, st66⟩ := callSN X53 hx (y := (⟨"com/example/warmjoin/warmjoin/PackedFields", "hasLiterals", "(J)Z"⟩ : MethodName)) hown (own_mvMN hZ (own_w hw 58 rfl)) (mvT hZ (own_w hw 44 rfl)) (mvT hZ (own_w hw 30 rfl)) (mvT hZ (own_w hw 45 rfl)) (by decide) (backOf (W := 1) (rm_hasLiterals l Z a0 hw [] (i + 1) (36) h53 n0 Zs53 (by omega) (by omega)) hZ (own_w hw 45 rfl) (own_w hw 30 rfl) (by decide) (by decide)) (g := (mkF m 80 #[.val (.ref a1), .val (.long (own_pk (i + 1) (36))), .second, .val (.long (own_pk (i + 1) (0))), .second] [(.long (own_pk (i + 1) (36))), (.ref a1)])) rfl (by rw [hml]; rfl) (argsL := [(.long (own_pk (i + 1) (36)))]) (rest := [(.ref a1)]) (lenOf pd_5 rfl) rfl (by show 2 * 0 + _ ≤ _; exact Nat.le_of_eq rfl) (hb hby d4_80) (fun _ _ => ⟨rfl, e53, (by decide : 0 + 0 ≤ _), (by decide : 0 + 0 ≤ _)⟩)
  dsimp only [Pt.U, Pt.locs, Pt.cells, Pt.slots] at X66 l66 y66 z66 st66 hQ66
  have l66y := l66.symm
  clear l66
  subst l66y
  obtain rfl : k66 = 0 := y66
  obtain rfl : n66 = 0 := z66
  obtain ⟨rfl, N66q, e66⟩ := hQ66
  have N66 := Fr.app N53 N66q
  refine own_to T66 (mkF m 83 #[.val (.ref a1), .val (.long (own_pk (i + 1) (36))), .second, .val (.long (own_pk (i + 1) (0))), .second] [(.int (Int32.ofNat (36 / 2 % 2))), (.ref a1)]) (fun tq kq => st66.trans kq) ?_
  rw [show (Int32.ofNat (36 / 2 % 2)) = (0 : Int32) from rfl]
  refine own_to T66 (mkF m 102 #[.val (.ref a1), .val (.long (own_pk (i + 1) (36))), .second, .val (.long (own_pk (i + 1) (0))), .second] [(.int (-1 : Int32)), (.ref a1)]) (fun tq kq => XS.ifYes X66.here hx rfl (pc0 := 83) (pc' := 101) rfl (hb hby d4_83) rfl ((if0 _ _).trans (teq (by decide : (0 : Int32) = (0 : Int32))).1) (by decide) (by decide) (XS.iconst X66.here hx rfl (hb hby d4_101) kq)) ?_
  obtain ⟨T67, h67, X67, e67, W67, st67⟩ := putF X66 hx hZ hown (host := "") (Or.inl (own_w hw 59 rfl)) Via.refl e66 f60 f54 (Or.inl (own_w hw 60 rfl)) (own_w hw 2 rfl) (ty := .int) (by decide) rfl rfl (g := (mkF m 102 #[.val (.ref a1), .val (.long (own_pk (i + 1) (36))), .second, .val (.long (own_pk (i + 1) (0))), .second] [(.int (-1 : Int32)), (.ref a1)])) rfl rfl (hb hby d4_102)
  have f68 := f54.wr W67
  have f69 := f55.other W67 (Or.inr (sn_packed_literals hw))
  have f70 := f56.other W67 (Or.inr (sn_to_literals hw))
  have f71 := f57.other W67 (Or.inr (sn_at_literals hw))
  have f72 := f58.other W67 (Or.inr (sn_left_literals hw))
  have f73 := f59.other W67 (Or.inr (sn_text_literals hw))
  have f74 := f65.other W67 (Or.inr (sn_textEnd_literals hw))
  have f75 := f61.other W67 (Or.inr (sn_index_literals hw))
  have f76 := f62.other W67 (Or.inr (sn_offset_literals hw))
  have f77 := f63.other W67 (Or.inr (sn_length_literals hw))
  have f78 := f64.other W67 (Ne.symm hne)
  have f79 := f60.same W67
  have N67 := Fr.snoc X67 N66 g_a1
  have Zs67 : n0 ≤ h67.size := by rw [W67.size]; exact Zs53
  have K67 := K53.wr W67 (Or.inl (List.mem_of_getElem? (i := 0) rfl))
  refine own_to T67 (mkF m 107 #[.val (.ref a1), .val (.long (own_pk (i + 1) (36))), .second, .val (.long (own_pk (i + 1) (0))), .second] [(.int (-1 : Int32)), (.ref a1)]) (fun tq kq => st67 _ (XS.aloadN X67.here hx rfl (hb hby d4_105) rfl rfl (XS.iconst X67.here hx rfl (hb hby d4_106) kq))) ?_
  obtain ⟨T80, h80, X80, e80, W80, st80⟩ := putF X67 hx hZ hown (host := "") (Or.inl (own_w hw 61 rfl)) Via.refl e67 f75 f68 (Or.inl (own_w hw 62 rfl)) (own_w hw 2 rfl) (ty := .int) (by decide) rfl rfl (g := (mkF m 107 #[.val (.ref a1), .val (.long (own_pk (i + 1) (36))), .second, .val (.long (own_pk (i + 1) (0))), .second] [(.int (-1 : Int32)), (.ref a1)])) rfl rfl (hb hby d4_107)
  have f81 := f68.wr W80
  have f82 := f69.other W80 (Or.inr (sn_packed_index hw))
  have f83 := f70.other W80 (Or.inr (sn_to_index hw))
  have f84 := f71.other W80 (Or.inr (sn_at_index hw))
  have f85 := f72.other W80 (Or.inr (sn_left_index hw))
  have f86 := f73.other W80 (Or.inr (sn_text_index hw))
  have f87 := f74.other W80 (Or.inr (sn_textEnd_index hw))
  have f88 := f79.other W80 (Or.inr (sn_literals_index hw))
  have f89 := f76.other W80 (Or.inr (sn_offset_index hw))
  have f90 := f77.other W80 (Or.inr (sn_length_index hw))
  have f91 := f78.other W80 (Ne.symm hne)
  have f92 := f75.same W80
  have N80 := Fr.snoc X80 N67 g_a1
  have Zs80 : n0 ≤ h80.size := by rw [W80.size]; exact Zs67
  have K80 := K67.wr W80 (Or.inl (List.mem_of_getElem? (i := 0) rfl))
  refine own_to T80 (mkF m 1 #[.val (.ref a1), .val (.long (own_pk (i + 1) (36))), .second, .val (.long (own_pk (i + 1) (0))), .second] [(.ref a1)]) (fun tq kq => st80 _ (XS.goto X80.here hx rfl (pc0 := 110) (pc' := 0) rfl (hb hby d4_110) (by decide) (by decide) (XS.aloadN X80.here hx rfl (hb hby d4_0) rfl rfl kq))) ?_
  obtain ⟨T93, X93, e93, st93⟩ := getF X80 hx hZ hown (host := "") (Or.inl (own_w hw 21 rfl)) Via.refl e80 f85 (g := (mkF m 1 #[.val (.ref a1), .val (.long (own_pk (i + 1) (36))), .second, .val (.long (own_pk (i + 1) (0))), .second] [(.ref a1)])) rfl rfl (hb hby d4_1)
  refine own_to T93 (mkF m 114 #[.val (.ref a1), .val (.long (own_pk (i + 1) (36))), .second, .val (.long (own_pk (i + 1) (0))), .second] [(.ref a1)]) (fun tq kq => st93 _ (XS.ifYes X93.here hx rfl (pc0 := 4) (pc' := 113) rfl (hb hby d4_4) rfl ((if0 _ _).trans (feq (mt (own_eqn (b := 0) (by omega) (by decide)).mp (by omega))).2) (by decide) (by decide) (XS.aloadN X93.here hx rfl (hb hby d4_113) rfl rfl kq))) ?_
  obtain ⟨T94, X94, e94, st94⟩ := getF X93 hx hZ hown (host := "") (Or.inl (own_w hw 51 rfl)) Via.refl e93 f86 (g := (mkF m 114 #[.val (.ref a1), .val (.long (own_pk (i + 1) (36))), .second, .val (.long (own_pk (i + 1) (0))), .second] [(.ref a1)])) rfl rfl (hb hby d4_114)
  refine own_to T94 (mkF m 177 #[.val (.ref a1), .val (.long (own_pk (i + 1) (36))), .second, .val (.long (own_pk (i + 1) (0))), .second] [(.ref a1)]) (fun tq kq => st94 _ (XS.ifYes X94.here hx rfl (pc0 := 117) (pc' := 176) rfl (hb hby d4_117) rfl ((if0 _ _).trans (teq (by decide : (0 : Int32) = (0 : Int32))).1) (by decide) (by decide) (XS.aloadN X94.here hx rfl (hb hby d4_176) rfl rfl kq))) ?_
  obtain ⟨T95, X95, e95, st95⟩ := getF X94 hx hZ hown (host := "") (Or.inl (own_w hw 15 rfl)) Via.refl e94 f82 (g := (mkF m 177 #[.val (.ref a1), .val (.long (own_pk (i + 1) (36))), .second, .val (.long (own_pk (i + 1) (0))), .second] [(.ref a1)])) rfl rfl (hb hby d4_177)
  refine own_to T95 (mkF m 181 #[.val (.ref a1), .val (.long (own_pk (i + 1) (36))), .second, .val (.long (own_pk (i + 1) (0))), .second] [(.ref a1), (.ref pk)]) (fun tq kq => st95 _ (XS.aloadN X95.here hx rfl (hb hby d4_180) rfl rfl kq)) ?_
  obtain ⟨T96, X96, e96, st96⟩ := getF X95 hx hZ hown (host := "") (Or.inl (own_w hw 19 rfl)) Via.refl e95 f84 (g := (mkF m 181 #[.val (.ref a1), .val (.long (own_pk (i + 1) (36))), .second, .val (.long (own_pk (i + 1) (0))), .second] [(.ref a1), (.ref pk)])) rfl rfl (hb hby d4_181)
  refine own_to T96 (mkF m 184 #[.val (.ref a1), .val (.long (own_pk (i + 1) (36))), .second, .val (.long (own_pk (i + 1) (0))), .second] [(.int (Int32.ofNat (i + 1))), (.ref pk)]) (fun tq kq => st96 _ kq) ?_
  obtain ⟨_, _, ⟨T97, L97, k97, n97⟩, -, X97, ⟨Lc97, hQ97, l97, y97, z97⟩, st97⟩ := callSN X96 hx (y := (⟨"com/example/warmjoin/warmjoin/PackedFields", "number", "([BI)J"⟩ : MethodName)) hown (own_mvMN hZ (own_w hw 28 rfl)) (mvT hZ (own_w hw 29 rfl)) (mvT hZ (own_w hw 30 rfl)) (mvT hZ (own_w hw 31 rfl)) (by decide) (backOf (W := 0) (rm_number l Z a0 hw [] pk f (i + 1) (1) h80 n0 Zs80 f91 (by omega) hfc (by omega)) hZ (own_w hw 31 rfl) (own_w hw 30 rfl) (by decide) (by decide)) (g := (mkF m 184 #[.val (.ref a1), .val (.long (own_pk (i + 1) (36))), .second, .val (.long (own_pk (i + 1) (0))), .second] [(.int (Int32.ofNat (i + 1))), (.ref pk)])) rfl (by rw [hml]; rfl) (argsL := [(.ref pk), (.int (Int32.ofNat (i + 1)))]) (rest := []) (lenOf pd_3 rfl) rfl (by show 2 * 0 + _ ≤ _; exact Nat.le_of_eq rfl) (hb hby d4_184) (fun _ _ => ⟨rfl, e96, (by decide : 0 + 0 ≤ _), (by decide : 0 + 0 ≤ _)⟩)
  dsimp only [Pt.U, Pt.locs, Pt.cells, Pt.slots] at X97 l97 y97 z97 st97 hQ97
  have l97y := l97.symm
  clear l97
  subst l97y
  obtain rfl : k97 = 0 := y97
  obtain rfl : n97 = 0 := z97
  obtain ⟨rfl, N97q, e97⟩ := hQ97
  have N97 := Fr.app N80 N97q
  refine own_to T97 (mkF m 191 #[.val (.ref a1), .val (.long (own_pk (i + 1 + 1) (1))), .second, .val (.long (own_pk (i + 1) (0))), .second] [(.int ((own_pk (i + 1 + 1) (1)).toInt32)), (.ref a1)]) (fun tq kq => st97.trans (XS.lstoreN X97.here hx rfl (hb hby d4_187) rfl (l' := #[.val (.ref a1), .val (.long (own_pk (i + 1 + 1) (1))), .second, .val (.long (own_pk (i + 1) (0))), .second]) rfl (XS.aloadN X97.here hx rfl (hb hby d4_188) rfl rfl (XS.lloadN X97.here hx rfl (hb hby d4_189) rfl (XS.l2i X97.here hx rfl (hb hby d4_190) rfl kq))))) ?_
  rw [show ((own_pk (i + 1 + 1) (1)).toInt32) = (Int32.ofNat (1)) from own_len (by omega) (by omega)]
  obtain ⟨T98, h98, X98, e98, W98, st98⟩ := putF X97 hx hZ hown (host := "") (Or.inl (own_w hw 68 rfl)) Via.refl e97 f90 f81 (Or.inl (own_w hw 69 rfl)) (own_w hw 2 rfl) (ty := .int) (by decide) rfl rfl (g := (mkF m 191 #[.val (.ref a1), .val (.long (own_pk (i + 1 + 1) (1))), .second, .val (.long (own_pk (i + 1) (0))), .second] [(.int (Int32.ofNat (1))), (.ref a1)])) rfl rfl (hb hby d4_191)
  have f99 := f81.wr W98
  have f100 := f82.other W98 (Or.inr (sn_packed_length hw))
  have f101 := f83.other W98 (Or.inr (sn_to_length hw))
  have f102 := f84.other W98 (Or.inr (sn_at_length hw))
  have f103 := f85.other W98 (Or.inr (sn_left_length hw))
  have f104 := f86.other W98 (Or.inr (sn_text_length hw))
  have f105 := f87.other W98 (Or.inr (sn_textEnd_length hw))
  have f106 := f88.other W98 (Or.inr (sn_literals_length hw))
  have f107 := f92.other W98 (Or.inr (sn_index_length hw))
  have f108 := f89.other W98 (Or.inr (sn_offset_length hw))
  have f109 := f91.other W98 (Ne.symm hne)
  have f110 := f90.same W98
  have N98 := Fr.snoc X98 N97 g_a1
  have Zs98 : n0 ≤ h98.size := by rw [W98.size]; exact Zs80
  have K98 := K80.wr W98 (Or.inl (List.mem_of_getElem? (i := 0) rfl))
  refine own_to T98 (mkF m 200 #[.val (.ref a1), .val (.long (own_pk (i + 1 + 1) (1))), .second, .val (.long (own_pk (i + 1) (0))), .second] [(.int ((((own_pk (i + 1 + 1) (1)).toUInt64 >>> ((32 : Int32) &&& 0x3f).toInt64.toUInt64).toInt64).toInt32)), (.ref a1)]) (fun tq kq => st98 _ (XS.aloadN X98.here hx rfl (hb hby d4_194) rfl rfl (XS.lloadN X98.here hx rfl (hb hby d4_195) rfl (XS.bipush X98.here hx rfl (hb hby d4_196) (XS.lushr X98.here hx rfl (hb hby d4_198) rfl (XS.l2i X98.here hx rfl (hb hby d4_199) rfl kq)))))) ?_
  rw [show ((((own_pk (i + 1 + 1) (1)).toUInt64 >>> ((32 : Int32) &&& 0x3f).toInt64.toUInt64).toInt64).toInt32) = (Int32.ofNat (i + 1 + 1)) from own_start (by omega) (by omega)]
  obtain ⟨T111, h111, X111, e111, W111, st111⟩ := putF X98 hx hZ hown (host := "") (Or.inl (own_w hw 66 rfl)) Via.refl e98 f108 f99 (Or.inl (own_w hw 67 rfl)) (own_w hw 2 rfl) (ty := .int) (by decide) rfl rfl (g := (mkF m 200 #[.val (.ref a1), .val (.long (own_pk (i + 1 + 1) (1))), .second, .val (.long (own_pk (i + 1) (0))), .second] [(.int (Int32.ofNat (i + 1 + 1))), (.ref a1)])) rfl rfl (hb hby d4_200)
  have f112 := f99.wr W111
  have f113 := f100.other W111 (Or.inr (sn_packed_offset hw))
  have f114 := f101.other W111 (Or.inr (sn_to_offset hw))
  have f115 := f102.other W111 (Or.inr (sn_at_offset hw))
  have f116 := f103.other W111 (Or.inr (sn_left_offset hw))
  have f117 := f104.other W111 (Or.inr (sn_text_offset hw))
  have f118 := f105.other W111 (Or.inr (sn_textEnd_offset hw))
  have f119 := f106.other W111 (Or.inr (sn_literals_offset hw))
  have f120 := f107.other W111 (Or.inr (sn_index_offset hw))
  have f121 := f110.other W111 (Or.inr (sn_length_offset hw))
  have f122 := f109.other W111 (Ne.symm hne)
  have f123 := f108.same W111
  have N111 := Fr.snoc X111 N98 g_a1
  have Zs111 : n0 ≤ h111.size := by rw [W111.size]; exact Zs98
  have K111 := K98.wr W111 (Or.inl (List.mem_of_getElem? (i := 0) rfl))
  refine own_to T111 (mkF m 205 #[.val (.ref a1), .val (.long (own_pk (i + 1 + 1) (1))), .second, .val (.long (own_pk (i + 1) (0))), .second] [(.ref a1), (.ref a1)]) (fun tq kq => st111 _ (XS.aloadN X111.here hx rfl (hb hby d4_203) rfl rfl (XS.aloadN X111.here hx rfl (hb hby d4_204) rfl rfl kq))) ?_
  obtain ⟨T124, X124, e124, st124⟩ := getF X111 hx hZ hown (host := "") (Or.inl (own_w hw 66 rfl)) Via.refl e111 f123 (g := (mkF m 205 #[.val (.ref a1), .val (.long (own_pk (i + 1 + 1) (1))), .second, .val (.long (own_pk (i + 1) (0))), .second] [(.ref a1), (.ref a1)])) rfl rfl (hb hby d4_205)
  refine own_to T124 (mkF m 209 #[.val (.ref a1), .val (.long (own_pk (i + 1 + 1) (1))), .second, .val (.long (own_pk (i + 1) (0))), .second] [(.ref a1), (.int (Int32.ofNat (i + 1 + 1))), (.ref a1)]) (fun tq kq => st124 _ (XS.aloadN X124.here hx rfl (hb hby d4_208) rfl rfl kq)) ?_
  obtain ⟨T125, X125, e125, st125⟩ := getF X124 hx hZ hown (host := "") (Or.inl (own_w hw 68 rfl)) Via.refl e124 f121 (g := (mkF m 209 #[.val (.ref a1), .val (.long (own_pk (i + 1 + 1) (1))), .second, .val (.long (own_pk (i + 1) (0))), .second] [(.ref a1), (.int (Int32.ofNat (i + 1 + 1))), (.ref a1)])) rfl rfl (hb hby d4_209)
  refine own_to T125 (mkF m 213 #[.val (.ref a1), .val (.long (own_pk (i + 1 + 1) (1))), .second, .val (.long (own_pk (i + 1) (0))), .second] [(.int ((Int32.ofNat (i + 1 + 1)) + (Int32.ofNat (1)))), (.ref a1)]) (fun tq kq => st125 _ (XS.iadd X125.here hx rfl (hb hby d4_212) rfl kq)) ?_
  rw [show ((Int32.ofNat (i + 1 + 1)) + (Int32.ofNat (1))) = (Int32.ofNat (i + 1 + 1 + 1)) from own_addn (i + 1 + 1) 1 (by omega) (by decide)]
  obtain ⟨T126, h126, X126, e126, W126, st126⟩ := putF X125 hx hZ hown (host := "") (Or.inl (own_w hw 19 rfl)) Via.refl e125 f115 f112 (Or.inl (own_w hw 20 rfl)) (own_w hw 2 rfl) (ty := .int) (by decide) rfl rfl (g := (mkF m 213 #[.val (.ref a1), .val (.long (own_pk (i + 1 + 1) (1))), .second, .val (.long (own_pk (i + 1) (0))), .second] [(.int (Int32.ofNat (i + 1 + 1 + 1))), (.ref a1)])) rfl rfl (hb hby d4_213)
  have f127 := f112.wr W126
  have f128 := f113.other W126 (Or.inr (sn_packed_at hw))
  have f129 := f114.other W126 (Or.inr (sn_to_at hw))
  have f130 := f116.other W126 (Or.inr (sn_left_at hw))
  have f131 := f117.other W126 (Or.inr (sn_text_at hw))
  have f132 := f118.other W126 (Or.inr (sn_textEnd_at hw))
  have f133 := f119.other W126 (Or.inr (sn_literals_at hw))
  have f134 := f120.other W126 (Or.inr (sn_index_at hw))
  have f135 := f123.other W126 (Or.inr (sn_offset_at hw))
  have f136 := f121.other W126 (Or.inr (sn_length_at hw))
  have f137 := f122.other W126 (Ne.symm hne)
  have f138 := f115.same W126
  have N126 := Fr.snoc X126 N111 g_a1
  have Zs126 : n0 ≤ h126.size := by rw [W126.size]; exact Zs111
  have K126 := K111.wr W126 (Or.inl (List.mem_of_getElem? (i := 0) rfl))
  refine own_to T126 (mkF m 218 #[.val (.ref a1), .val (.long (own_pk (i + 1 + 1) (1))), .second, .val (.long (own_pk (i + 1) (0))), .second] [(.ref a1), (.ref a1)]) (fun tq kq => st126 _ (XS.aloadN X126.here hx rfl (hb hby d4_216) rfl rfl (XS.dup X126.here hx rfl (hb hby d4_217) rfl rfl kq))) ?_
  obtain ⟨T139, X139, e139, st139⟩ := getF X126 hx hZ hown (host := "") (Or.inl (own_w hw 21 rfl)) Via.refl e126 f130 (g := (mkF m 218 #[.val (.ref a1), .val (.long (own_pk (i + 1 + 1) (1))), .second, .val (.long (own_pk (i + 1) (0))), .second] [(.ref a1), (.ref a1)])) rfl rfl (hb hby d4_218)
  refine own_to T139 (mkF m 223 #[.val (.ref a1), .val (.long (own_pk (i + 1 + 1) (1))), .second, .val (.long (own_pk (i + 1) (0))), .second] [(.int ((Int32.ofNat (9)) - (1 : Int32))), (.ref a1)]) (fun tq kq => st139 _ (XS.iconst X139.here hx rfl (hb hby d4_221) (XS.isub X139.here hx rfl (hb hby d4_222) rfl kq))) ?_
  rw [show ((Int32.ofNat (9)) - (1 : Int32)) = (Int32.ofNat (9 - 1)) from own_subn 9 1 (by omega) (by omega)]
  obtain ⟨T140, h140, X140, e140, W140, st140⟩ := putF X139 hx hZ hown (host := "") (Or.inl (own_w hw 21 rfl)) Via.refl e139 f130 f127 (Or.inl (own_w hw 22 rfl)) (own_w hw 2 rfl) (ty := .int) (by decide) rfl rfl (g := (mkF m 223 #[.val (.ref a1), .val (.long (own_pk (i + 1 + 1) (1))), .second, .val (.long (own_pk (i + 1) (0))), .second] [(.int (Int32.ofNat (9 - 1))), (.ref a1)])) rfl rfl (hb hby d4_223)
  have f141 := f127.wr W140
  have f142 := f128.other W140 (Or.inr (sn_packed_left hw))
  have f143 := f129.other W140 (Or.inr (sn_to_left hw))
  have f144 := f138.other W140 (Or.inr (sn_at_left hw))
  have f145 := f131.other W140 (Or.inr (sn_text_left hw))
  have f146 := f132.other W140 (Or.inr (sn_textEnd_left hw))
  have f147 := f133.other W140 (Or.inr (sn_literals_left hw))
  have f148 := f134.other W140 (Or.inr (sn_index_left hw))
  have f149 := f135.other W140 (Or.inr (sn_offset_left hw))
  have f150 := f136.other W140 (Or.inr (sn_length_left hw))
  have f151 := f137.other W140 (Ne.symm hne)
  have f152 := f130.same W140
  have N140 := Fr.snoc X140 N126 g_a1
  have Zs140 : n0 ≤ h140.size := by rw [W140.size]; exact Zs126
  have K140 := K126.wr W140 (Or.inl (List.mem_of_getElem? (i := 0) rfl))
  refine own_to T140 (mkF m 228 #[.val (.ref a1), .val (.long (own_pk (i + 1 + 1) (1))), .second, .val (.long (own_pk (i + 1) (0))), .second] [(.ref a1), (.ref a1)]) (fun tq kq => st140 _ (XS.aloadN X140.here hx rfl (hb hby d4_226) rfl rfl (XS.dup X140.here hx rfl (hb hby d4_227) rfl rfl kq))) ?_
  obtain ⟨T153, X153, e153, st153⟩ := getF X140 hx hZ hown (host := "") (Or.inl (own_w hw 61 rfl)) Via.refl e140 f148 (g := (mkF m 228 #[.val (.ref a1), .val (.long (own_pk (i + 1 + 1) (1))), .second, .val (.long (own_pk (i + 1) (0))), .second] [(.ref a1), (.ref a1)])) rfl rfl (hb hby d4_228)
  refine own_to T153 (mkF m 233 #[.val (.ref a1), .val (.long (own_pk (i + 1 + 1) (1))), .second, .val (.long (own_pk (i + 1) (0))), .second] [(.int ((-1 : Int32) + (1 : Int32))), (.ref a1)]) (fun tq kq => st153 _ (XS.iconst X153.here hx rfl (hb hby d4_231) (XS.iadd X153.here hx rfl (hb hby d4_232) rfl kq))) ?_
  rw [show ((-1 : Int32) + (1 : Int32)) = (Int32.ofNat (0)) from by decide]
  obtain ⟨T154, h154, X154, e154, W154, st154⟩ := putF X153 hx hZ hown (host := "") (Or.inl (own_w hw 61 rfl)) Via.refl e153 f148 f141 (Or.inl (own_w hw 62 rfl)) (own_w hw 2 rfl) (ty := .int) (by decide) rfl rfl (g := (mkF m 233 #[.val (.ref a1), .val (.long (own_pk (i + 1 + 1) (1))), .second, .val (.long (own_pk (i + 1) (0))), .second] [(.int (Int32.ofNat (0))), (.ref a1)])) rfl rfl (hb hby d4_233)
  have f155 := f141.wr W154
  have f156 := f142.other W154 (Or.inr (sn_packed_index hw))
  have f157 := f143.other W154 (Or.inr (sn_to_index hw))
  have f158 := f144.other W154 (Or.inr (sn_at_index hw))
  have f159 := f152.other W154 (Or.inr (sn_left_index hw))
  have f160 := f145.other W154 (Or.inr (sn_text_index hw))
  have f161 := f146.other W154 (Or.inr (sn_textEnd_index hw))
  have f162 := f147.other W154 (Or.inr (sn_literals_index hw))
  have f163 := f149.other W154 (Or.inr (sn_offset_index hw))
  have f164 := f150.other W154 (Or.inr (sn_length_index hw))
  have f165 := f151.other W154 (Ne.symm hne)
  have f166 := f148.same W154
  have N154 := Fr.snoc X154 N140 g_a1
  have Zs154 : n0 ≤ h154.size := by rw [W154.size]; exact Zs140
  have K154 := K140.wr W154 (Or.inl (List.mem_of_getElem? (i := 0) rfl))
  refine own_to T154 (mkF m 237 #[.val (.ref a1), .val (.long (own_pk (i + 1 + 1) (1))), .second, .val (.long (own_pk (i + 1) (0))), .second] [(.int (1 : Int32))]) (fun tq kq => st154 _ (XS.iconst X154.here hx rfl (hb hby d4_236) kq)) ?_
  exact own_retZ X154 hx hret hlk (hb hby d4_237) (by decide) (by decide) (Or.inr rfl) (by rw [e154]; exact ⟨rfl, N154, K154, _, _, ⟨f155, f156, f157, f158, f159, f160, f161, f162, f166, f163, f164⟩⟩)
def Q_rm_next001 (Z : State) (a1 pk : Addr) (f : Nat → Int32) (i e' : Nat) (u4 u5 u6 u7 u8 u9 : Int32) (h0 : Heap) (n0 : Nat) (v : Option Value) (h : Heap) (L : List Loc) : Prop := v = some (.int (1 : Int32)) ∧ Fr n0 L ∧ Keep h0 h [a1] ∧ ∃ o' l', Cur Z h a1 (.ref pk) (Int32.ofNat e') (Int32.ofNat (i + 1 + 2 + 1 + 1)) (Int32.ofNat (9 - 1)) (0 : Int32) (Int32.ofNat (i + 1 + 2 + 0)) (Int32.ofNat (i + 1 + 2 - 2)) (Int32.ofNat (0)) o' l'
set_option maxRecDepth 65536 in
set_option maxHeartbeats 40000000 in
theorem rm_next001 (l : Launch) (Z : State) (a0 : Array Value) (hw : ∀ d ∈ tables_1, d.before a0 Z = true) (ws : List Jvm.Cond) (a1 pk : Addr) (f : Nat → Int32) (i e' : Nat) (u4 u5 u6 u7 u8 u9 : Int32) (h0 : Heap) (n0 : Nat) (Z0 : n0 ≤ h0.size) (U : Cur Z h0 a1 (.ref pk) (Int32.ofNat e') (Int32.ofNat i) (0 : Int32) u4 u5 u6 u7 u8 u9) (hne : a1 ≠ pk) (g_a1 : n0 ≤ a1) (A : BArr Z h0 pk 20 f) (hi : i < 4) (hie : i < e') (he : e' < 20) (hf0 : f i = Int32.ofNat 38) (hfc : f (i + 1 + 2) = Int32.ofNat 1) :
    MetFree l (⟨"com/example/warmjoin/warmjoin/PackedFields$Cursor", "next", "()Z"⟩ : MethodName) (head1 (Jvm.Cond.code (⟨"com/example/warmjoin/warmjoin/PackedFields$Cursor", "next", "()Z"⟩ : MethodName) prog_100_method_3_code 5 (some .boolean) :: ws) ({ frames := 2, cells := 0, slots := 0, locals := 38 } : Room)) (fun a U => a = #[(.ref a1)] ∧ Z.Warmed39 U.vm ∧ U.heap = h0) (fun _ _ _ _ _ => True) (fun _ U o U' => ∃ v L, o = .returned v ∧ Q_rm_next001 Z a1 pk f i e' u4 u5 u6 u7 u8 u9 h0 n0 v U'.heap L ∧ FrameEnd U o U' L ({ frames := 2, cells := 0, slots := 0, locals := 38 } : Room).cells ({ frames := 2, cells := 0, slots := 0, locals := 38 } : Room).slots) := by
  refine own_met (y := (⟨"com/example/warmjoin/warmjoin/PackedFields$Cursor", "next", "()Z"⟩ : MethodName)) (Q := (Q_rm_next001 Z a1 pk f i e' u4 u5 u6 u7 u8 u9 h0 n0)) (plainFor_of_name pn_1) fun p e s m below meth c s₁ X0 hx hby hml hret hlk hown hnm hZ e0 => ?_
  refine own_entry (ef_4_R m a1) ?_
  obtain ⟨E1, F0, F1, F2, F3, F4, F5, F6, F7, F8, F9⟩ := U
  have K0 := Keep.refl h0 [a1]
  refine own_to s₁ (mkF m 1 #[.val (.ref a1), .unset, .unset, .unset, .unset] [(.ref a1)]) (fun tq kq => XS.aloadN X0.here hx rfl (hb hby d4_0) rfl rfl kq) ?_
  obtain ⟨T1, X1, e1, st1⟩ := getF X0 hx hZ hown (host := "") (Or.inl (own_w hw 21 rfl)) Via.refl e0 F3 (g := (mkF m 1 #[.val (.ref a1), .unset, .unset, .unset, .unset] [(.ref a1)])) rfl rfl (hb hby d4_1)
  refine own_to T1 (mkF m 8 #[.val (.ref a1), .unset, .unset, .unset, .unset] [(.ref a1)]) (fun tq kq => st1 _ (XS.ifNo X1.here hx rfl (hb hby d4_4) rfl ((if0 _ _).trans (teq (by decide : (0 : Int32) = (0 : Int32))).2) (XS.aloadN X1.here hx rfl (hb hby d4_7) rfl rfl kq))) ?_
  obtain ⟨T2, X2, e2, st2⟩ := getF X1 hx hZ hown (host := "") (Or.inl (own_w hw 19 rfl)) Via.refl e1 F2 (g := (mkF m 8 #[.val (.ref a1), .unset, .unset, .unset, .unset] [(.ref a1)])) rfl rfl (hb hby d4_8)
  refine own_to T2 (mkF m 12 #[.val (.ref a1), .unset, .unset, .unset, .unset] [(.ref a1), (.int (Int32.ofNat i))]) (fun tq kq => st2 _ (XS.aloadN X2.here hx rfl (hb hby d4_11) rfl rfl kq)) ?_
  obtain ⟨T3, X3, e3, st3⟩ := getF X2 hx hZ hown (host := "") (Or.inl (own_w hw 17 rfl)) Via.refl e2 F1 (g := (mkF m 12 #[.val (.ref a1), .unset, .unset, .unset, .unset] [(.ref a1), (.int (Int32.ofNat i))])) rfl rfl (hb hby d4_12)
  refine own_to T3 (mkF m 21 #[.val (.ref a1), .unset, .unset, .unset, .unset] [(.ref a1)]) (fun tq kq => st3 _ (XS.icmpYes X3.here hx rfl (pc0 := 15) (pc' := 20) rfl (hb hby d4_15) rfl (tlt ((own_ltn (by omega) (by omega)).mpr hie)).1 (by decide) (by decide) (XS.aloadN X3.here hx rfl (hb hby d4_20) rfl rfl kq))) ?_
  obtain ⟨T4, X4, e4, st4⟩ := getF X3 hx hZ hown (host := "") (Or.inl (own_w hw 15 rfl)) Via.refl e3 F0 (g := (mkF m 21 #[.val (.ref a1), .unset, .unset, .unset, .unset] [(.ref a1)])) rfl rfl (hb hby d4_21)
  refine own_to T4 (mkF m 25 #[.val (.ref a1), .unset, .unset, .unset, .unset] [(.ref a1), (.ref pk)]) (fun tq kq => st4 _ (XS.aloadN X4.here hx rfl (hb hby d4_24) rfl rfl kq)) ?_
  obtain ⟨T5, X5, e5, st5⟩ := getF X4 hx hZ hown (host := "") (Or.inl (own_w hw 19 rfl)) Via.refl e4 F2 (g := (mkF m 25 #[.val (.ref a1), .unset, .unset, .unset, .unset] [(.ref a1), (.ref pk)])) rfl rfl (hb hby d4_25)
  refine own_to T5 (mkF m 28 #[.val (.ref a1), .unset, .unset, .unset, .unset] [(.int (Int32.ofNat i)), (.ref pk)]) (fun tq kq => st5 _ kq) ?_
  obtain ⟨_, _, ⟨T6, L6, k6, n6⟩, -, X6, ⟨Lc6, hQ6, l6, y6, z6⟩, st6⟩ := callSN X5 hx (y := (⟨"com/example/warmjoin/warmjoin/PackedFields", "number", "([BI)J"⟩ : MethodName)) hown (own_mvMN hZ (own_w hw 28 rfl)) (mvT hZ (own_w hw 29 rfl)) (mvT hZ (own_w hw 30 rfl)) (mvT hZ (own_w hw 31 rfl)) (by decide) (backOf (W := 0) (rm_number l Z a0 hw [] pk f (i) (38) h0 n0 Z0 A (by omega) hf0 (by omega)) hZ (own_w hw 31 rfl) (own_w hw 30 rfl) (by decide) (by decide)) (g := (mkF m 28 #[.val (.ref a1), .unset, .unset, .unset, .unset] [(.int (Int32.ofNat i)), (.ref pk)])) rfl (by rw [hml]; rfl) (argsL := [(.ref pk), (.int (Int32.ofNat i))]) (rest := []) (lenOf pd_3 rfl) rfl (by show 2 * 0 + _ ≤ _; exact Nat.le_of_eq rfl) (hb hby d4_28) (fun _ _ => ⟨rfl, e5, (by decide : 0 + 0 ≤ _), (by decide : 0 + 0 ≤ _)⟩)
  dsimp only [Pt.U, Pt.locs, Pt.cells, Pt.slots] at X6 l6 y6 z6 st6 hQ6
  have l6y := l6.symm
  clear l6
  subst l6y
  obtain rfl : k6 = 0 := y6
  obtain rfl : n6 = 0 := z6
  obtain ⟨rfl, N6q, e6⟩ := hQ6
  have N6 := Fr.app (Fr.nil n0) N6q
  refine own_to T6 (mkF m 33 #[.val (.ref a1), .val (.long (own_pk (i + 1) (38))), .second, .unset, .unset] [(.ref a1)]) (fun tq kq => st6.trans (XS.lstoreN X6.here hx rfl (hb hby d4_31) rfl (l' := #[.val (.ref a1), .val (.long (own_pk (i + 1) (38))), .second, .unset, .unset]) rfl (XS.aloadN X6.here hx rfl (hb hby d4_32) rfl rfl kq))) ?_
  obtain ⟨T7, X7, e7, st7⟩ := getF X6 hx hZ hown (host := "") (Or.inl (own_w hw 15 rfl)) Via.refl e6 F0 (g := (mkF m 33 #[.val (.ref a1), .val (.long (own_pk (i + 1) (38))), .second, .unset, .unset] [(.ref a1)])) rfl rfl (hb hby d4_33)
  refine own_to T7 (mkF m 37 #[.val (.ref a1), .val (.long (own_pk (i + 1) (38))), .second, .unset, .unset] [(.long (own_pk (i + 1) (38))), (.ref pk)]) (fun tq kq => st7 _ (XS.lloadN X7.here hx rfl (hb hby d4_36) rfl kq)) ?_
  obtain ⟨_, _, ⟨T8, L8, k8, n8⟩, -, X8, ⟨Lc8, hQ8, l8, y8, z8⟩, st8⟩ := callSN X7 hx (y := (⟨"com/example/warmjoin/warmjoin/PackedFields", "body", "([BJ)J"⟩ : MethodName)) hown (own_mvMN hZ (own_w hw 33 rfl)) (mvT hZ (own_w hw 34 rfl)) (mvT hZ (own_w hw 30 rfl)) (mvT hZ (own_w hw 35 rfl)) (by decide) (backOf (W := 0) (rm_body01 l Z a0 hw [] pk f (i + 1) h0 n0 Z0 A (by omega) trivial) hZ (own_w hw 35 rfl) (own_w hw 30 rfl) (by decide) (by decide)) (g := (mkF m 37 #[.val (.ref a1), .val (.long (own_pk (i + 1) (38))), .second, .unset, .unset] [(.long (own_pk (i + 1) (38))), (.ref pk)])) rfl (by rw [hml]; rfl) (argsL := [(.ref pk), (.long (own_pk (i + 1) (38)))]) (rest := []) (lenOf pd_4 rfl) rfl (by show 2 * 0 + _ ≤ _; exact Nat.le_of_eq rfl) (hb hby d4_37) (fun _ _ => ⟨rfl, e7, (by decide : 0 + 0 ≤ _), (by decide : 0 + 0 ≤ _)⟩)
  dsimp only [Pt.U, Pt.locs, Pt.cells, Pt.slots] at X8 l8 y8 z8 st8 hQ8
  have l8y := l8.symm
  clear l8
  subst l8y
  obtain rfl : k8 = 0 := y8
  obtain rfl : n8 = 0 := z8
  obtain ⟨rfl, N8q, e8⟩ := hQ8
  have N8 := Fr.app N6 N8q
  refine own_to T8 (mkF m 43 #[.val (.ref a1), .val (.long (own_pk (i + 1) (38))), .second, .val (.long (own_pk (i + 1 + 2) (0))), .second] [(.long (own_pk (i + 1) (38))), (.ref a1)]) (fun tq kq => st8.trans (XS.lstoreN X8.here hx rfl (hb hby d4_40) rfl (l' := #[.val (.ref a1), .val (.long (own_pk (i + 1) (38))), .second, .val (.long (own_pk (i + 1 + 2) (0))), .second]) rfl (XS.aloadN X8.here hx rfl (hb hby d4_41) rfl rfl (XS.lloadN X8.here hx rfl (hb hby d4_42) rfl kq)))) ?_
  obtain ⟨_, _, ⟨T9, L9, k9, n9⟩, -, X9, ⟨Lc9, hQ9, l9, y9, z9⟩, st9⟩ := callSN X8 hx (y := (⟨"com/example/warmjoin/warmjoin/PackedFields", "fieldsOf", "(J)I"⟩ : MethodName)) hown (own_mvMN hZ (own_w hw 46 rfl)) (mvT hZ (own_w hw 47 rfl)) (mvT hZ (own_w hw 30 rfl)) (mvT hZ (own_w hw 48 rfl)) (by decide) (backOf (W := 1) (rm_fieldsOf l Z a0 hw [] (i + 1) (38) h0 n0 Z0 (by omega) (by omega)) hZ (own_w hw 48 rfl) (own_w hw 30 rfl) (by decide) (by decide)) (g := (mkF m 43 #[.val (.ref a1), .val (.long (own_pk (i + 1) (38))), .second, .val (.long (own_pk (i + 1 + 2) (0))), .second] [(.long (own_pk (i + 1) (38))), (.ref a1)])) rfl (by rw [hml]; rfl) (argsL := [(.long (own_pk (i + 1) (38)))]) (rest := [(.ref a1)]) (lenOf pd_6 rfl) rfl (by show 2 * 0 + _ ≤ _; exact Nat.le_of_eq rfl) (hb hby d4_43) (fun _ _ => ⟨rfl, e8, (by decide : 0 + 0 ≤ _), (by decide : 0 + 0 ≤ _)⟩)
  dsimp only [Pt.U, Pt.locs, Pt.cells, Pt.slots] at X9 l9 y9 z9 st9 hQ9
  have l9y := l9.symm
  clear l9
  subst l9y
  obtain rfl : k9 = 0 := y9
  obtain rfl : n9 = 0 := z9
  obtain ⟨rfl, N9q, e9⟩ := hQ9
  have N9 := Fr.app N8 N9q
  refine own_to T9 (mkF m 46 #[.val (.ref a1), .val (.long (own_pk (i + 1) (38))), .second, .val (.long (own_pk (i + 1 + 2) (0))), .second] [(.int (Int32.ofNat (38 / 4))), (.ref a1)]) (fun tq kq => st9.trans kq) ?_
  rw [show (Int32.ofNat (38 / 4)) = (Int32.ofNat (9)) from rfl]
  obtain ⟨T10, h10, X10, e10, W10, st10⟩ := putF X9 hx hZ hown (host := "") (Or.inl (own_w hw 21 rfl)) Via.refl e9 F3 E1 (Or.inl (own_w hw 22 rfl)) (own_w hw 2 rfl) (ty := .int) (by decide) rfl rfl (g := (mkF m 46 #[.val (.ref a1), .val (.long (own_pk (i + 1) (38))), .second, .val (.long (own_pk (i + 1 + 2) (0))), .second] [(.int (Int32.ofNat (9))), (.ref a1)])) rfl rfl (hb hby d4_46)
  have f11 := E1.wr W10
  have f12 := F0.other W10 (Or.inr (sn_packed_left hw))
  have f13 := F1.other W10 (Or.inr (sn_to_left hw))
  have f14 := F2.other W10 (Or.inr (sn_at_left hw))
  have f15 := F4.other W10 (Or.inr (sn_text_left hw))
  have f16 := F5.other W10 (Or.inr (sn_textEnd_left hw))
  have f17 := F6.other W10 (Or.inr (sn_literals_left hw))
  have f18 := F7.other W10 (Or.inr (sn_index_left hw))
  have f19 := F8.other W10 (Or.inr (sn_offset_left hw))
  have f20 := F9.other W10 (Or.inr (sn_length_left hw))
  have f21 := A.other W10 (Ne.symm hne)
  have f22 := F3.same W10
  have N10 := Fr.snoc X10 N9 g_a1
  have Zs10 : n0 ≤ h10.size := by rw [W10.size]; exact Z0
  have K10 := K0.wr W10 (Or.inl (List.mem_of_getElem? (i := 0) rfl))
  refine own_to T10 (mkF m 51 #[.val (.ref a1), .val (.long (own_pk (i + 1) (38))), .second, .val (.long (own_pk (i + 1 + 2) (0))), .second] [(.long (own_pk (i + 1 + 2) (0))), (.ref a1)]) (fun tq kq => st10 _ (XS.aloadN X10.here hx rfl (hb hby d4_49) rfl rfl (XS.lloadN X10.here hx rfl (hb hby d4_50) rfl kq))) ?_
  obtain ⟨_, _, ⟨T23, L23, k23, n23⟩, -, X23, ⟨Lc23, hQ23, l23, y23, z23⟩, st23⟩ := Jvm.LawKit.callS X10 hx (y := (⟨"com/example/warmjoin/warmjoin/PackedFields", "start", "(J)I"⟩ : MethodName)) hown (mvT hZ (own_w hw 49 rfl)) (mvT hZ (own_w hw 40 rfl)) (mvT hZ (own_w hw 30 rfl)) (mvT hZ (own_w hw 41 rfl)) (by decide) (backOf (W := 1) (rm_start l Z a0 hw [] (i + 1 + 2) (0) h10 n0 Zs10 (by omega) (by omega)) hZ (own_w hw 41 rfl) (own_w hw 30 rfl) (by decide) (by decide)) (g := (mkF m 51 #[.val (.ref a1), .val (.long (own_pk (i + 1) (38))), .second, .val (.long (own_pk (i + 1 + 2) (0))), .second] [(.long (own_pk (i + 1 + 2) (0))), (.ref a1)])) rfl (by rw [hml]; rfl) (argsL := [(.long (own_pk (i + 1 + 2) (0)))]) (rest := [(.ref a1)]) (lenOf pd_6 rfl) rfl (by show 2 * 0 + _ ≤ _; exact Nat.le_of_eq rfl) (hb hby d4_51) (fun _ _ => ⟨rfl, e10, (by decide : 0 + 0 ≤ _), (by decide : 0 + 0 ≤ _)⟩)
  dsimp only [Pt.U, Pt.locs, Pt.cells, Pt.slots] at X23 l23 y23 z23 st23 hQ23
  have l23y := l23.symm
  clear l23
  subst l23y
  obtain rfl : k23 = 0 := y23
  obtain rfl : n23 = 0 := z23
  obtain ⟨rfl, N23q, e23⟩ := hQ23
  have N23 := Fr.app N10 N23q
  refine own_to T23 (mkF m 54 #[.val (.ref a1), .val (.long (own_pk (i + 1) (38))), .second, .val (.long (own_pk (i + 1 + 2) (0))), .second] [(.int (Int32.ofNat (i + 1 + 2))), (.ref a1)]) (fun tq kq => st23 _ kq) ?_
  obtain ⟨T24, h24, X24, e24, W24, st24⟩ := putF X23 hx hZ hown (host := "") (Or.inl (own_w hw 19 rfl)) Via.refl e23 f14 f11 (Or.inl (own_w hw 20 rfl)) (own_w hw 2 rfl) (ty := .int) (by decide) rfl rfl (g := (mkF m 54 #[.val (.ref a1), .val (.long (own_pk (i + 1) (38))), .second, .val (.long (own_pk (i + 1 + 2) (0))), .second] [(.int (Int32.ofNat (i + 1 + 2))), (.ref a1)])) rfl rfl (hb hby d4_54)
  have f25 := f11.wr W24
  have f26 := f12.other W24 (Or.inr (sn_packed_at hw))
  have f27 := f13.other W24 (Or.inr (sn_to_at hw))
  have f28 := f22.other W24 (Or.inr (sn_left_at hw))
  have f29 := f15.other W24 (Or.inr (sn_text_at hw))
  have f30 := f16.other W24 (Or.inr (sn_textEnd_at hw))
  have f31 := f17.other W24 (Or.inr (sn_literals_at hw))
  have f32 := f18.other W24 (Or.inr (sn_index_at hw))
  have f33 := f19.other W24 (Or.inr (sn_offset_at hw))
  have f34 := f20.other W24 (Or.inr (sn_length_at hw))
  have f35 := f21.other W24 (Ne.symm hne)
  have f36 := f14.same W24
  have N24 := Fr.snoc X24 N23 g_a1
  have Zs24 : n0 ≤ h24.size := by rw [W24.size]; exact Zs10
  have K24 := K10.wr W24 (Or.inl (List.mem_of_getElem? (i := 0) rfl))
  refine own_to T24 (mkF m 59 #[.val (.ref a1), .val (.long (own_pk (i + 1) (38))), .second, .val (.long (own_pk (i + 1 + 2) (0))), .second] [(.long (own_pk (i + 1) (38))), (.ref a1)]) (fun tq kq => st24 _ (XS.aloadN X24.here hx rfl (hb hby d4_57) rfl rfl (XS.lloadN X24.here hx rfl (hb hby d4_58) rfl kq))) ?_
  obtain ⟨_, _, ⟨T37, L37, k37, n37⟩, -, X37, ⟨Lc37, hQ37, l37, y37, z37⟩, st37⟩ := callSN X24 hx (y := (⟨"com/example/warmjoin/warmjoin/PackedFields", "isText", "(J)Z"⟩ : MethodName)) hown (own_mvMN hZ (own_w hw 50 rfl)) (mvT hZ (own_w hw 37 rfl)) (mvT hZ (own_w hw 30 rfl)) (mvT hZ (own_w hw 38 rfl)) (by decide) (backOf (W := 1) (rm_isText l Z a0 hw [] (i + 1) (38) h24 n0 Zs24 (by omega) (by omega)) hZ (own_w hw 38 rfl) (own_w hw 30 rfl) (by decide) (by decide)) (g := (mkF m 59 #[.val (.ref a1), .val (.long (own_pk (i + 1) (38))), .second, .val (.long (own_pk (i + 1 + 2) (0))), .second] [(.long (own_pk (i + 1) (38))), (.ref a1)])) rfl (by rw [hml]; rfl) (argsL := [(.long (own_pk (i + 1) (38)))]) (rest := [(.ref a1)]) (lenOf pd_5 rfl) rfl (by show 2 * 0 + _ ≤ _; exact Nat.le_of_eq rfl) (hb hby d4_59) (fun _ _ => ⟨rfl, e24, (by decide : 0 + 0 ≤ _), (by decide : 0 + 0 ≤ _)⟩)
  dsimp only [Pt.U, Pt.locs, Pt.cells, Pt.slots] at X37 l37 y37 z37 st37 hQ37
  have l37y := l37.symm
  clear l37
  subst l37y
  obtain rfl : k37 = 0 := y37
  obtain rfl : n37 = 0 := z37
  obtain ⟨rfl, N37q, e37⟩ := hQ37
  have N37 := Fr.app N24 N37q
  refine own_to T37 (mkF m 62 #[.val (.ref a1), .val (.long (own_pk (i + 1) (38))), .second, .val (.long (own_pk (i + 1 + 2) (0))), .second] [(.int (Int32.ofNat (38 % 2))), (.ref a1)]) (fun tq kq => st37.trans kq) ?_
  rw [show (Int32.ofNat (38 % 2)) = (0 : Int32) from rfl]
  obtain ⟨T38, h38, X38, e38, W38, st38⟩ := putFN X37 hx hZ hown (own_w hw 51 rfl) Via.refl e37 f29 f25 (Or.inl (own_w hw 52 rfl)) (own_w hw 2 rfl) (ty := .boolean) (v' := (.int (0 : Int32))) (by decide) rfl rfl (g := (mkF m 62 #[.val (.ref a1), .val (.long (own_pk (i + 1) (38))), .second, .val (.long (own_pk (i + 1 + 2) (0))), .second] [(.int (0 : Int32)), (.ref a1)])) rfl rfl (hb hby d4_62)
  have f39 := f25.wr W38
  have f40 := f26.other W38 (Or.inr (sn_packed_text hw))
  have f41 := f27.other W38 (Or.inr (sn_to_text hw))
  have f42 := f36.other W38 (Or.inr (sn_at_text hw))
  have f43 := f28.other W38 (Or.inr (sn_left_text hw))
  have f44 := f30.other W38 (Or.inr (sn_textEnd_text hw))
  have f45 := f31.other W38 (Or.inr (sn_literals_text hw))
  have f46 := f32.other W38 (Or.inr (sn_index_text hw))
  have f47 := f33.other W38 (Or.inr (sn_offset_text hw))
  have f48 := f34.other W38 (Or.inr (sn_length_text hw))
  have f49 := f35.other W38 (Ne.symm hne)
  have f50 := f29.same W38
  have N38 := Fr.snoc X38 N37 g_a1
  have Zs38 : n0 ≤ h38.size := by rw [W38.size]; exact Zs24
  have K38 := K24.wr W38 (Or.inl (List.mem_of_getElem? (i := 0) rfl))
  refine own_to T38 (mkF m 67 #[.val (.ref a1), .val (.long (own_pk (i + 1) (38))), .second, .val (.long (own_pk (i + 1 + 2) (0))), .second] [(.ref a1), (.ref a1)]) (fun tq kq => st38 _ (XS.aloadN X38.here hx rfl (hb hby d4_65) rfl rfl (XS.aloadN X38.here hx rfl (hb hby d4_66) rfl rfl kq))) ?_
  obtain ⟨T51, X51, e51, st51⟩ := getF X38 hx hZ hown (host := "") (Or.inl (own_w hw 19 rfl)) Via.refl e38 f42 (g := (mkF m 67 #[.val (.ref a1), .val (.long (own_pk (i + 1) (38))), .second, .val (.long (own_pk (i + 1 + 2) (0))), .second] [(.ref a1), (.ref a1)])) rfl rfl (hb hby d4_67)
  refine own_to T51 (mkF m 71 #[.val (.ref a1), .val (.long (own_pk (i + 1) (38))), .second, .val (.long (own_pk (i + 1 + 2) (0))), .second] [(.long (own_pk (i + 1 + 2) (0))), (.int (Int32.ofNat (i + 1 + 2))), (.ref a1)]) (fun tq kq => st51 _ (XS.lloadN X51.here hx rfl (hb hby d4_70) rfl kq)) ?_
  obtain ⟨_, _, ⟨T52, L52, k52, n52⟩, -, X52, ⟨Lc52, hQ52, l52, y52, z52⟩, st52⟩ := Jvm.LawKit.callS X51 hx (y := (⟨"com/example/warmjoin/warmjoin/PackedFields", "length", "(J)I"⟩ : MethodName)) hown (mvT hZ (own_w hw 53 rfl)) (mvT hZ (own_w hw 54 rfl)) (mvT hZ (own_w hw 30 rfl)) (mvT hZ (own_w hw 55 rfl)) (by decide) (backOf (W := 2) (rm_length l Z a0 hw [] (i + 1 + 2) (0) h38 n0 Zs38 (by omega) (by omega)) hZ (own_w hw 55 rfl) (own_w hw 30 rfl) (by decide) (by decide)) (g := (mkF m 71 #[.val (.ref a1), .val (.long (own_pk (i + 1) (38))), .second, .val (.long (own_pk (i + 1 + 2) (0))), .second] [(.long (own_pk (i + 1 + 2) (0))), (.int (Int32.ofNat (i + 1 + 2))), (.ref a1)])) rfl (by rw [hml]; rfl) (argsL := [(.long (own_pk (i + 1 + 2) (0)))]) (rest := [(.int (Int32.ofNat (i + 1 + 2))), (.ref a1)]) (lenOf pd_6 rfl) rfl (by show 2 * 0 + _ ≤ _; exact Nat.le_of_eq rfl) (hb hby d4_71) (fun _ _ => ⟨rfl, e51, (by decide : 0 + 0 ≤ _), (by decide : 0 + 0 ≤ _)⟩)
  dsimp only [Pt.U, Pt.locs, Pt.cells, Pt.slots] at X52 l52 y52 z52 st52 hQ52
  have l52y := l52.symm
  clear l52
  subst l52y
  obtain rfl : k52 = 0 := y52
  obtain rfl : n52 = 0 := z52
  obtain ⟨rfl, N52q, e52⟩ := hQ52
  have N52 := Fr.app N38 N52q
  refine own_to T52 (mkF m 75 #[.val (.ref a1), .val (.long (own_pk (i + 1) (38))), .second, .val (.long (own_pk (i + 1 + 2) (0))), .second] [(.int ((Int32.ofNat (i + 1 + 2)) + (Int32.ofNat (0)))), (.ref a1)]) (fun tq kq => st52 _ (XS.iadd X52.here hx rfl (hb hby d4_74) rfl kq)) ?_
  rw [show ((Int32.ofNat (i + 1 + 2)) + (Int32.ofNat (0))) = (Int32.ofNat (i + 1 + 2 + 0)) from own_addn (i + 1 + 2) 0 (by omega) (by omega)]
  obtain ⟨T53, h53, X53, e53, W53, st53⟩ := putF X52 hx hZ hown (host := "") (Or.inl (own_w hw 56 rfl)) Via.refl e52 f44 f39 (Or.inl (own_w hw 57 rfl)) (own_w hw 2 rfl) (ty := .int) (by decide) rfl rfl (g := (mkF m 75 #[.val (.ref a1), .val (.long (own_pk (i + 1) (38))), .second, .val (.long (own_pk (i + 1 + 2) (0))), .second] [(.int (Int32.ofNat (i + 1 + 2 + 0))), (.ref a1)])) rfl rfl (hb hby d4_75)
  have f54 := f39.wr W53
  have f55 := f40.other W53 (Or.inr (sn_packed_textEnd hw))
  have f56 := f41.other W53 (Or.inr (sn_to_textEnd hw))
  have f57 := f42.other W53 (Or.inr (sn_at_textEnd hw))
  have f58 := f43.other W53 (Or.inr (sn_left_textEnd hw))
  have f59 := f50.other W53 (Or.inr (sn_text_textEnd hw))
  have f60 := f45.other W53 (Or.inr (sn_literals_textEnd hw))
  have f61 := f46.other W53 (Or.inr (sn_index_textEnd hw))
  have f62 := f47.other W53 (Or.inr (sn_offset_textEnd hw))
  have f63 := f48.other W53 (Or.inr (sn_length_textEnd hw))
  have f64 := f49.other W53 (Ne.symm hne)
  have f65 := f44.same W53
  have N53 := Fr.snoc X53 N52 g_a1
  have Zs53 : n0 ≤ h53.size := by rw [W53.size]; exact Zs38
  have K53 := K38.wr W53 (Or.inl (List.mem_of_getElem? (i := 0) rfl))
  refine own_to T53 (mkF m 80 #[.val (.ref a1), .val (.long (own_pk (i + 1) (38))), .second, .val (.long (own_pk (i + 1 + 2) (0))), .second] [(.long (own_pk (i + 1) (38))), (.ref a1)]) (fun tq kq => st53 _ (XS.aloadN X53.here hx rfl (hb hby d4_78) rfl rfl (XS.lloadN X53.here hx rfl (hb hby d4_79) rfl kq))) ?_
  obtain ⟨_, _, ⟨T66, L66, k66, n66⟩, -, X66, ⟨Lc66, hQ66, l66, y66, z66⟩, st66⟩ := callSN X53 hx (y := (⟨"com/example/warmjoin/warmjoin/PackedFields", "hasLiterals", "(J)Z"⟩ : MethodName)) hown (own_mvMN hZ (own_w hw 58 rfl)) (mvT hZ (own_w hw 44 rfl)) (mvT hZ (own_w hw 30 rfl)) (mvT hZ (own_w hw 45 rfl)) (by decide) (backOf (W := 1) (rm_hasLiterals l Z a0 hw [] (i + 1) (38) h53 n0 Zs53 (by omega) (by omega)) hZ (own_w hw 45 rfl) (own_w hw 30 rfl) (by decide) (by decide)) (g := (mkF m 80 #[.val (.ref a1), .val (.long (own_pk (i + 1) (38))), .second, .val (.long (own_pk (i + 1 + 2) (0))), .second] [(.long (own_pk (i + 1) (38))), (.ref a1)])) rfl (by rw [hml]; rfl) (argsL := [(.long (own_pk (i + 1) (38)))]) (rest := [(.ref a1)]) (lenOf pd_5 rfl) rfl (by show 2 * 0 + _ ≤ _; exact Nat.le_of_eq rfl) (hb hby d4_80) (fun _ _ => ⟨rfl, e53, (by decide : 0 + 0 ≤ _), (by decide : 0 + 0 ≤ _)⟩)
  dsimp only [Pt.U, Pt.locs, Pt.cells, Pt.slots] at X66 l66 y66 z66 st66 hQ66
  have l66y := l66.symm
  clear l66
  subst l66y
  obtain rfl : k66 = 0 := y66
  obtain rfl : n66 = 0 := z66
  obtain ⟨rfl, N66q, e66⟩ := hQ66
  have N66 := Fr.app N53 N66q
  refine own_to T66 (mkF m 83 #[.val (.ref a1), .val (.long (own_pk (i + 1) (38))), .second, .val (.long (own_pk (i + 1 + 2) (0))), .second] [(.int (Int32.ofNat (38 / 2 % 2))), (.ref a1)]) (fun tq kq => st66.trans kq) ?_
  rw [show (Int32.ofNat (38 / 2 % 2)) = (1 : Int32) from rfl]
  refine own_to T66 (mkF m 87 #[.val (.ref a1), .val (.long (own_pk (i + 1) (38))), .second, .val (.long (own_pk (i + 1 + 2) (0))), .second] [(.ref a1), (.ref a1)]) (fun tq kq => XS.ifNo X66.here hx rfl (hb hby d4_83) rfl ((if0 _ _).trans (feq (by decide : ¬ ((1 : Int32) = (0 : Int32)))).1) (XS.aloadN X66.here hx rfl (hb hby d4_86) rfl rfl kq)) ?_
  obtain ⟨T67, X67, e67, st67⟩ := getF X66 hx hZ hown (host := "") (Or.inl (own_w hw 19 rfl)) Via.refl e66 f57 (g := (mkF m 87 #[.val (.ref a1), .val (.long (own_pk (i + 1) (38))), .second, .val (.long (own_pk (i + 1 + 2) (0))), .second] [(.ref a1), (.ref a1)])) rfl rfl (hb hby d4_87)
  refine own_to T67 (mkF m 91 #[.val (.ref a1), .val (.long (own_pk (i + 1) (38))), .second, .val (.long (own_pk (i + 1 + 2) (0))), .second] [(.ref a1), (.int (Int32.ofNat (i + 1 + 2))), (.ref a1)]) (fun tq kq => st67 _ (XS.aloadN X67.here hx rfl (hb hby d4_90) rfl rfl kq)) ?_
  obtain ⟨T68, X68, e68, st68⟩ := getF X67 hx hZ hown (host := "") (Or.inl (own_w hw 21 rfl)) Via.refl e67 f58 (g := (mkF m 91 #[.val (.ref a1), .val (.long (own_pk (i + 1) (38))), .second, .val (.long (own_pk (i + 1 + 2) (0))), .second] [(.ref a1), (.int (Int32.ofNat (i + 1 + 2))), (.ref a1)])) rfl rfl (hb hby d4_91)
  refine own_to T68 (mkF m 94 #[.val (.ref a1), .val (.long (own_pk (i + 1) (38))), .second, .val (.long (own_pk (i + 1 + 2) (0))), .second] [(.int (Int32.ofNat (9))), (.int (Int32.ofNat (i + 1 + 2))), (.ref a1)]) (fun tq kq => st68 _ kq) ?_
  obtain ⟨_, _, ⟨T69, L69, k69, n69⟩, -, X69, ⟨Lc69, hQ69, l69, y69, z69⟩, st69⟩ := callSN X68 hx (y := (⟨"com/example/warmjoin/warmjoin/PackedFields", "literalBytes", "(I)I"⟩ : MethodName)) hown (own_mvMN hZ (own_w hw 79 rfl)) (mvT hZ (own_w hw 77 rfl)) (mvT hZ (own_w hw 30 rfl)) (mvT hZ (own_w hw 78 rfl)) (by decide) (backOf (W := 2) (rm_literalBytes l Z a0 hw [] (9) h53 n0 Zs53 (by omega)) hZ (own_w hw 78 rfl) (own_w hw 30 rfl) (by decide) (by decide)) (g := (mkF m 94 #[.val (.ref a1), .val (.long (own_pk (i + 1) (38))), .second, .val (.long (own_pk (i + 1 + 2) (0))), .second] [(.int (Int32.ofNat (9))), (.int (Int32.ofNat (i + 1 + 2))), (.ref a1)])) rfl (by rw [hml]; rfl) (argsL := [(.int (Int32.ofNat (9)))]) (rest := [(.int (Int32.ofNat (i + 1 + 2))), (.ref a1)]) (lenOf pd_8 rfl) rfl (by show 2 * 0 + _ ≤ _; exact Nat.le_of_eq rfl) (hb hby d4_94) (fun _ _ => ⟨rfl, e68, (by decide : 0 + 0 ≤ _), (by decide : 0 + 0 ≤ _)⟩)
  dsimp only [Pt.U, Pt.locs, Pt.cells, Pt.slots] at X69 l69 y69 z69 st69 hQ69
  have l69y := l69.symm
  clear l69
  subst l69y
  obtain rfl : k69 = 0 := y69
  obtain rfl : n69 = 0 := z69
  obtain ⟨rfl, N69q, e69⟩ := hQ69
  have N69 := Fr.app N66 N69q
  refine own_to T69 (mkF m 97 #[.val (.ref a1), .val (.long (own_pk (i + 1) (38))), .second, .val (.long (own_pk (i + 1 + 2) (0))), .second] [(.int (Int32.ofNat ((9 + 7) / 8))), (.int (Int32.ofNat (i + 1 + 2))), (.ref a1)]) (fun tq kq => st69.trans kq) ?_
  rw [show (Int32.ofNat ((9 + 7) / 8)) = (Int32.ofNat 2) from rfl]
  refine own_to T69 (mkF m 102 #[.val (.ref a1), .val (.long (own_pk (i + 1) (38))), .second, .val (.long (own_pk (i + 1 + 2) (0))), .second] [(.int ((Int32.ofNat (i + 1 + 2)) - (Int32.ofNat 2))), (.ref a1)]) (fun tq kq => XS.isub X69.here hx rfl (hb hby d4_97) rfl (XS.goto X69.here hx rfl (pc0 := 98) (pc' := 102) rfl (hb hby d4_98) (by decide) (by decide) kq)) ?_
  rw [show ((Int32.ofNat (i + 1 + 2)) - (Int32.ofNat 2)) = (Int32.ofNat (i + 1 + 2 - 2)) from own_subn (i + 1 + 2) 2 (by omega) (by omega)]
  obtain ⟨T70, h70, X70, e70, W70, st70⟩ := putF X69 hx hZ hown (host := "") (Or.inl (own_w hw 59 rfl)) Via.refl e69 f60 f54 (Or.inl (own_w hw 60 rfl)) (own_w hw 2 rfl) (ty := .int) (by decide) rfl rfl (g := (mkF m 102 #[.val (.ref a1), .val (.long (own_pk (i + 1) (38))), .second, .val (.long (own_pk (i + 1 + 2) (0))), .second] [(.int (Int32.ofNat (i + 1 + 2 - 2))), (.ref a1)])) rfl rfl (hb hby d4_102)
  have f71 := f54.wr W70
  have f72 := f55.other W70 (Or.inr (sn_packed_literals hw))
  have f73 := f56.other W70 (Or.inr (sn_to_literals hw))
  have f74 := f57.other W70 (Or.inr (sn_at_literals hw))
  have f75 := f58.other W70 (Or.inr (sn_left_literals hw))
  have f76 := f59.other W70 (Or.inr (sn_text_literals hw))
  have f77 := f65.other W70 (Or.inr (sn_textEnd_literals hw))
  have f78 := f61.other W70 (Or.inr (sn_index_literals hw))
  have f79 := f62.other W70 (Or.inr (sn_offset_literals hw))
  have f80 := f63.other W70 (Or.inr (sn_length_literals hw))
  have f81 := f64.other W70 (Ne.symm hne)
  have f82 := f60.same W70
  have N70 := Fr.snoc X70 N69 g_a1
  have Zs70 : n0 ≤ h70.size := by rw [W70.size]; exact Zs53
  have K70 := K53.wr W70 (Or.inl (List.mem_of_getElem? (i := 0) rfl))
  refine own_to T70 (mkF m 107 #[.val (.ref a1), .val (.long (own_pk (i + 1) (38))), .second, .val (.long (own_pk (i + 1 + 2) (0))), .second] [(.int (-1 : Int32)), (.ref a1)]) (fun tq kq => st70 _ (XS.aloadN X70.here hx rfl (hb hby d4_105) rfl rfl (XS.iconst X70.here hx rfl (hb hby d4_106) kq))) ?_
  obtain ⟨T83, h83, X83, e83, W83, st83⟩ := putF X70 hx hZ hown (host := "") (Or.inl (own_w hw 61 rfl)) Via.refl e70 f78 f71 (Or.inl (own_w hw 62 rfl)) (own_w hw 2 rfl) (ty := .int) (by decide) rfl rfl (g := (mkF m 107 #[.val (.ref a1), .val (.long (own_pk (i + 1) (38))), .second, .val (.long (own_pk (i + 1 + 2) (0))), .second] [(.int (-1 : Int32)), (.ref a1)])) rfl rfl (hb hby d4_107)
  have f84 := f71.wr W83
  have f85 := f72.other W83 (Or.inr (sn_packed_index hw))
  have f86 := f73.other W83 (Or.inr (sn_to_index hw))
  have f87 := f74.other W83 (Or.inr (sn_at_index hw))
  have f88 := f75.other W83 (Or.inr (sn_left_index hw))
  have f89 := f76.other W83 (Or.inr (sn_text_index hw))
  have f90 := f77.other W83 (Or.inr (sn_textEnd_index hw))
  have f91 := f82.other W83 (Or.inr (sn_literals_index hw))
  have f92 := f79.other W83 (Or.inr (sn_offset_index hw))
  have f93 := f80.other W83 (Or.inr (sn_length_index hw))
  have f94 := f81.other W83 (Ne.symm hne)
  have f95 := f78.same W83
  have N83 := Fr.snoc X83 N70 g_a1
  have Zs83 : n0 ≤ h83.size := by rw [W83.size]; exact Zs70
  have K83 := K70.wr W83 (Or.inl (List.mem_of_getElem? (i := 0) rfl))
  refine own_to T83 (mkF m 1 #[.val (.ref a1), .val (.long (own_pk (i + 1) (38))), .second, .val (.long (own_pk (i + 1 + 2) (0))), .second] [(.ref a1)]) (fun tq kq => st83 _ (XS.goto X83.here hx rfl (pc0 := 110) (pc' := 0) rfl (hb hby d4_110) (by decide) (by decide) (XS.aloadN X83.here hx rfl (hb hby d4_0) rfl rfl kq))) ?_
  obtain ⟨T96, X96, e96, st96⟩ := getF X83 hx hZ hown (host := "") (Or.inl (own_w hw 21 rfl)) Via.refl e83 f88 (g := (mkF m 1 #[.val (.ref a1), .val (.long (own_pk (i + 1) (38))), .second, .val (.long (own_pk (i + 1 + 2) (0))), .second] [(.ref a1)])) rfl rfl (hb hby d4_1)
  refine own_to T96 (mkF m 114 #[.val (.ref a1), .val (.long (own_pk (i + 1) (38))), .second, .val (.long (own_pk (i + 1 + 2) (0))), .second] [(.ref a1)]) (fun tq kq => st96 _ (XS.ifYes X96.here hx rfl (pc0 := 4) (pc' := 113) rfl (hb hby d4_4) rfl ((if0 _ _).trans (feq (mt (own_eqn (b := 0) (by omega) (by decide)).mp (by omega))).2) (by decide) (by decide) (XS.aloadN X96.here hx rfl (hb hby d4_113) rfl rfl kq))) ?_
  obtain ⟨T97, X97, e97, st97⟩ := getF X96 hx hZ hown (host := "") (Or.inl (own_w hw 51 rfl)) Via.refl e96 f89 (g := (mkF m 114 #[.val (.ref a1), .val (.long (own_pk (i + 1) (38))), .second, .val (.long (own_pk (i + 1 + 2) (0))), .second] [(.ref a1)])) rfl rfl (hb hby d4_114)
  refine own_to T97 (mkF m 177 #[.val (.ref a1), .val (.long (own_pk (i + 1) (38))), .second, .val (.long (own_pk (i + 1 + 2) (0))), .second] [(.ref a1)]) (fun tq kq => st97 _ (XS.ifYes X97.here hx rfl (pc0 := 117) (pc' := 176) rfl (hb hby d4_117) rfl ((if0 _ _).trans (teq (by decide : (0 : Int32) = (0 : Int32))).1) (by decide) (by decide) (XS.aloadN X97.here hx rfl (hb hby d4_176) rfl rfl kq))) ?_
  obtain ⟨T98, X98, e98, st98⟩ := getF X97 hx hZ hown (host := "") (Or.inl (own_w hw 15 rfl)) Via.refl e97 f85 (g := (mkF m 177 #[.val (.ref a1), .val (.long (own_pk (i + 1) (38))), .second, .val (.long (own_pk (i + 1 + 2) (0))), .second] [(.ref a1)])) rfl rfl (hb hby d4_177)
  refine own_to T98 (mkF m 181 #[.val (.ref a1), .val (.long (own_pk (i + 1) (38))), .second, .val (.long (own_pk (i + 1 + 2) (0))), .second] [(.ref a1), (.ref pk)]) (fun tq kq => st98 _ (XS.aloadN X98.here hx rfl (hb hby d4_180) rfl rfl kq)) ?_
  obtain ⟨T99, X99, e99, st99⟩ := getF X98 hx hZ hown (host := "") (Or.inl (own_w hw 19 rfl)) Via.refl e98 f87 (g := (mkF m 181 #[.val (.ref a1), .val (.long (own_pk (i + 1) (38))), .second, .val (.long (own_pk (i + 1 + 2) (0))), .second] [(.ref a1), (.ref pk)])) rfl rfl (hb hby d4_181)
  refine own_to T99 (mkF m 184 #[.val (.ref a1), .val (.long (own_pk (i + 1) (38))), .second, .val (.long (own_pk (i + 1 + 2) (0))), .second] [(.int (Int32.ofNat (i + 1 + 2))), (.ref pk)]) (fun tq kq => st99 _ kq) ?_
  obtain ⟨_, _, ⟨T100, L100, k100, n100⟩, -, X100, ⟨Lc100, hQ100, l100, y100, z100⟩, st100⟩ := callSN X99 hx (y := (⟨"com/example/warmjoin/warmjoin/PackedFields", "number", "([BI)J"⟩ : MethodName)) hown (own_mvMN hZ (own_w hw 28 rfl)) (mvT hZ (own_w hw 29 rfl)) (mvT hZ (own_w hw 30 rfl)) (mvT hZ (own_w hw 31 rfl)) (by decide) (backOf (W := 0) (rm_number l Z a0 hw [] pk f (i + 1 + 2) (1) h83 n0 Zs83 f94 (by omega) hfc (by omega)) hZ (own_w hw 31 rfl) (own_w hw 30 rfl) (by decide) (by decide)) (g := (mkF m 184 #[.val (.ref a1), .val (.long (own_pk (i + 1) (38))), .second, .val (.long (own_pk (i + 1 + 2) (0))), .second] [(.int (Int32.ofNat (i + 1 + 2))), (.ref pk)])) rfl (by rw [hml]; rfl) (argsL := [(.ref pk), (.int (Int32.ofNat (i + 1 + 2)))]) (rest := []) (lenOf pd_3 rfl) rfl (by show 2 * 0 + _ ≤ _; exact Nat.le_of_eq rfl) (hb hby d4_184) (fun _ _ => ⟨rfl, e99, (by decide : 0 + 0 ≤ _), (by decide : 0 + 0 ≤ _)⟩)
  dsimp only [Pt.U, Pt.locs, Pt.cells, Pt.slots] at X100 l100 y100 z100 st100 hQ100
  have l100y := l100.symm
  clear l100
  subst l100y
  obtain rfl : k100 = 0 := y100
  obtain rfl : n100 = 0 := z100
  obtain ⟨rfl, N100q, e100⟩ := hQ100
  have N100 := Fr.app N83 N100q
  refine own_to T100 (mkF m 191 #[.val (.ref a1), .val (.long (own_pk (i + 1 + 2 + 1) (1))), .second, .val (.long (own_pk (i + 1 + 2) (0))), .second] [(.int ((own_pk (i + 1 + 2 + 1) (1)).toInt32)), (.ref a1)]) (fun tq kq => st100.trans (XS.lstoreN X100.here hx rfl (hb hby d4_187) rfl (l' := #[.val (.ref a1), .val (.long (own_pk (i + 1 + 2 + 1) (1))), .second, .val (.long (own_pk (i + 1 + 2) (0))), .second]) rfl (XS.aloadN X100.here hx rfl (hb hby d4_188) rfl rfl (XS.lloadN X100.here hx rfl (hb hby d4_189) rfl (XS.l2i X100.here hx rfl (hb hby d4_190) rfl kq))))) ?_
  rw [show ((own_pk (i + 1 + 2 + 1) (1)).toInt32) = (Int32.ofNat (1)) from own_len (by omega) (by omega)]
  obtain ⟨T101, h101, X101, e101, W101, st101⟩ := putF X100 hx hZ hown (host := "") (Or.inl (own_w hw 68 rfl)) Via.refl e100 f93 f84 (Or.inl (own_w hw 69 rfl)) (own_w hw 2 rfl) (ty := .int) (by decide) rfl rfl (g := (mkF m 191 #[.val (.ref a1), .val (.long (own_pk (i + 1 + 2 + 1) (1))), .second, .val (.long (own_pk (i + 1 + 2) (0))), .second] [(.int (Int32.ofNat (1))), (.ref a1)])) rfl rfl (hb hby d4_191)
  have f102 := f84.wr W101
  have f103 := f85.other W101 (Or.inr (sn_packed_length hw))
  have f104 := f86.other W101 (Or.inr (sn_to_length hw))
  have f105 := f87.other W101 (Or.inr (sn_at_length hw))
  have f106 := f88.other W101 (Or.inr (sn_left_length hw))
  have f107 := f89.other W101 (Or.inr (sn_text_length hw))
  have f108 := f90.other W101 (Or.inr (sn_textEnd_length hw))
  have f109 := f91.other W101 (Or.inr (sn_literals_length hw))
  have f110 := f95.other W101 (Or.inr (sn_index_length hw))
  have f111 := f92.other W101 (Or.inr (sn_offset_length hw))
  have f112 := f94.other W101 (Ne.symm hne)
  have f113 := f93.same W101
  have N101 := Fr.snoc X101 N100 g_a1
  have Zs101 : n0 ≤ h101.size := by rw [W101.size]; exact Zs83
  have K101 := K83.wr W101 (Or.inl (List.mem_of_getElem? (i := 0) rfl))
  refine own_to T101 (mkF m 200 #[.val (.ref a1), .val (.long (own_pk (i + 1 + 2 + 1) (1))), .second, .val (.long (own_pk (i + 1 + 2) (0))), .second] [(.int ((((own_pk (i + 1 + 2 + 1) (1)).toUInt64 >>> ((32 : Int32) &&& 0x3f).toInt64.toUInt64).toInt64).toInt32)), (.ref a1)]) (fun tq kq => st101 _ (XS.aloadN X101.here hx rfl (hb hby d4_194) rfl rfl (XS.lloadN X101.here hx rfl (hb hby d4_195) rfl (XS.bipush X101.here hx rfl (hb hby d4_196) (XS.lushr X101.here hx rfl (hb hby d4_198) rfl (XS.l2i X101.here hx rfl (hb hby d4_199) rfl kq)))))) ?_
  rw [show ((((own_pk (i + 1 + 2 + 1) (1)).toUInt64 >>> ((32 : Int32) &&& 0x3f).toInt64.toUInt64).toInt64).toInt32) = (Int32.ofNat (i + 1 + 2 + 1)) from own_start (by omega) (by omega)]
  obtain ⟨T114, h114, X114, e114, W114, st114⟩ := putF X101 hx hZ hown (host := "") (Or.inl (own_w hw 66 rfl)) Via.refl e101 f111 f102 (Or.inl (own_w hw 67 rfl)) (own_w hw 2 rfl) (ty := .int) (by decide) rfl rfl (g := (mkF m 200 #[.val (.ref a1), .val (.long (own_pk (i + 1 + 2 + 1) (1))), .second, .val (.long (own_pk (i + 1 + 2) (0))), .second] [(.int (Int32.ofNat (i + 1 + 2 + 1))), (.ref a1)])) rfl rfl (hb hby d4_200)
  have f115 := f102.wr W114
  have f116 := f103.other W114 (Or.inr (sn_packed_offset hw))
  have f117 := f104.other W114 (Or.inr (sn_to_offset hw))
  have f118 := f105.other W114 (Or.inr (sn_at_offset hw))
  have f119 := f106.other W114 (Or.inr (sn_left_offset hw))
  have f120 := f107.other W114 (Or.inr (sn_text_offset hw))
  have f121 := f108.other W114 (Or.inr (sn_textEnd_offset hw))
  have f122 := f109.other W114 (Or.inr (sn_literals_offset hw))
  have f123 := f110.other W114 (Or.inr (sn_index_offset hw))
  have f124 := f113.other W114 (Or.inr (sn_length_offset hw))
  have f125 := f112.other W114 (Ne.symm hne)
  have f126 := f111.same W114
  have N114 := Fr.snoc X114 N101 g_a1
  have Zs114 : n0 ≤ h114.size := by rw [W114.size]; exact Zs101
  have K114 := K101.wr W114 (Or.inl (List.mem_of_getElem? (i := 0) rfl))
  refine own_to T114 (mkF m 205 #[.val (.ref a1), .val (.long (own_pk (i + 1 + 2 + 1) (1))), .second, .val (.long (own_pk (i + 1 + 2) (0))), .second] [(.ref a1), (.ref a1)]) (fun tq kq => st114 _ (XS.aloadN X114.here hx rfl (hb hby d4_203) rfl rfl (XS.aloadN X114.here hx rfl (hb hby d4_204) rfl rfl kq))) ?_
  obtain ⟨T127, X127, e127, st127⟩ := getF X114 hx hZ hown (host := "") (Or.inl (own_w hw 66 rfl)) Via.refl e114 f126 (g := (mkF m 205 #[.val (.ref a1), .val (.long (own_pk (i + 1 + 2 + 1) (1))), .second, .val (.long (own_pk (i + 1 + 2) (0))), .second] [(.ref a1), (.ref a1)])) rfl rfl (hb hby d4_205)
  refine own_to T127 (mkF m 209 #[.val (.ref a1), .val (.long (own_pk (i + 1 + 2 + 1) (1))), .second, .val (.long (own_pk (i + 1 + 2) (0))), .second] [(.ref a1), (.int (Int32.ofNat (i + 1 + 2 + 1))), (.ref a1)]) (fun tq kq => st127 _ (XS.aloadN X127.here hx rfl (hb hby d4_208) rfl rfl kq)) ?_
  obtain ⟨T128, X128, e128, st128⟩ := getF X127 hx hZ hown (host := "") (Or.inl (own_w hw 68 rfl)) Via.refl e127 f124 (g := (mkF m 209 #[.val (.ref a1), .val (.long (own_pk (i + 1 + 2 + 1) (1))), .second, .val (.long (own_pk (i + 1 + 2) (0))), .second] [(.ref a1), (.int (Int32.ofNat (i + 1 + 2 + 1))), (.ref a1)])) rfl rfl (hb hby d4_209)
  refine own_to T128 (mkF m 213 #[.val (.ref a1), .val (.long (own_pk (i + 1 + 2 + 1) (1))), .second, .val (.long (own_pk (i + 1 + 2) (0))), .second] [(.int ((Int32.ofNat (i + 1 + 2 + 1)) + (Int32.ofNat (1)))), (.ref a1)]) (fun tq kq => st128 _ (XS.iadd X128.here hx rfl (hb hby d4_212) rfl kq)) ?_
  rw [show ((Int32.ofNat (i + 1 + 2 + 1)) + (Int32.ofNat (1))) = (Int32.ofNat (i + 1 + 2 + 1 + 1)) from own_addn (i + 1 + 2 + 1) 1 (by omega) (by decide)]
  obtain ⟨T129, h129, X129, e129, W129, st129⟩ := putF X128 hx hZ hown (host := "") (Or.inl (own_w hw 19 rfl)) Via.refl e128 f118 f115 (Or.inl (own_w hw 20 rfl)) (own_w hw 2 rfl) (ty := .int) (by decide) rfl rfl (g := (mkF m 213 #[.val (.ref a1), .val (.long (own_pk (i + 1 + 2 + 1) (1))), .second, .val (.long (own_pk (i + 1 + 2) (0))), .second] [(.int (Int32.ofNat (i + 1 + 2 + 1 + 1))), (.ref a1)])) rfl rfl (hb hby d4_213)
  have f130 := f115.wr W129
  have f131 := f116.other W129 (Or.inr (sn_packed_at hw))
  have f132 := f117.other W129 (Or.inr (sn_to_at hw))
  have f133 := f119.other W129 (Or.inr (sn_left_at hw))
  have f134 := f120.other W129 (Or.inr (sn_text_at hw))
  have f135 := f121.other W129 (Or.inr (sn_textEnd_at hw))
  have f136 := f122.other W129 (Or.inr (sn_literals_at hw))
  have f137 := f123.other W129 (Or.inr (sn_index_at hw))
  have f138 := f126.other W129 (Or.inr (sn_offset_at hw))
  have f139 := f124.other W129 (Or.inr (sn_length_at hw))
  have f140 := f125.other W129 (Ne.symm hne)
  have f141 := f118.same W129
  have N129 := Fr.snoc X129 N114 g_a1
  have Zs129 : n0 ≤ h129.size := by rw [W129.size]; exact Zs114
  have K129 := K114.wr W129 (Or.inl (List.mem_of_getElem? (i := 0) rfl))
  refine own_to T129 (mkF m 218 #[.val (.ref a1), .val (.long (own_pk (i + 1 + 2 + 1) (1))), .second, .val (.long (own_pk (i + 1 + 2) (0))), .second] [(.ref a1), (.ref a1)]) (fun tq kq => st129 _ (XS.aloadN X129.here hx rfl (hb hby d4_216) rfl rfl (XS.dup X129.here hx rfl (hb hby d4_217) rfl rfl kq))) ?_
  obtain ⟨T142, X142, e142, st142⟩ := getF X129 hx hZ hown (host := "") (Or.inl (own_w hw 21 rfl)) Via.refl e129 f133 (g := (mkF m 218 #[.val (.ref a1), .val (.long (own_pk (i + 1 + 2 + 1) (1))), .second, .val (.long (own_pk (i + 1 + 2) (0))), .second] [(.ref a1), (.ref a1)])) rfl rfl (hb hby d4_218)
  refine own_to T142 (mkF m 223 #[.val (.ref a1), .val (.long (own_pk (i + 1 + 2 + 1) (1))), .second, .val (.long (own_pk (i + 1 + 2) (0))), .second] [(.int ((Int32.ofNat (9)) - (1 : Int32))), (.ref a1)]) (fun tq kq => st142 _ (XS.iconst X142.here hx rfl (hb hby d4_221) (XS.isub X142.here hx rfl (hb hby d4_222) rfl kq))) ?_
  rw [show ((Int32.ofNat (9)) - (1 : Int32)) = (Int32.ofNat (9 - 1)) from own_subn 9 1 (by omega) (by omega)]
  obtain ⟨T143, h143, X143, e143, W143, st143⟩ := putF X142 hx hZ hown (host := "") (Or.inl (own_w hw 21 rfl)) Via.refl e142 f133 f130 (Or.inl (own_w hw 22 rfl)) (own_w hw 2 rfl) (ty := .int) (by decide) rfl rfl (g := (mkF m 223 #[.val (.ref a1), .val (.long (own_pk (i + 1 + 2 + 1) (1))), .second, .val (.long (own_pk (i + 1 + 2) (0))), .second] [(.int (Int32.ofNat (9 - 1))), (.ref a1)])) rfl rfl (hb hby d4_223)
  have f144 := f130.wr W143
  have f145 := f131.other W143 (Or.inr (sn_packed_left hw))
  have f146 := f132.other W143 (Or.inr (sn_to_left hw))
  have f147 := f141.other W143 (Or.inr (sn_at_left hw))
  have f148 := f134.other W143 (Or.inr (sn_text_left hw))
  have f149 := f135.other W143 (Or.inr (sn_textEnd_left hw))
  have f150 := f136.other W143 (Or.inr (sn_literals_left hw))
  have f151 := f137.other W143 (Or.inr (sn_index_left hw))
  have f152 := f138.other W143 (Or.inr (sn_offset_left hw))
  have f153 := f139.other W143 (Or.inr (sn_length_left hw))
  have f154 := f140.other W143 (Ne.symm hne)
  have f155 := f133.same W143
  have N143 := Fr.snoc X143 N129 g_a1
  have Zs143 : n0 ≤ h143.size := by rw [W143.size]; exact Zs129
  have K143 := K129.wr W143 (Or.inl (List.mem_of_getElem? (i := 0) rfl))
  refine own_to T143 (mkF m 228 #[.val (.ref a1), .val (.long (own_pk (i + 1 + 2 + 1) (1))), .second, .val (.long (own_pk (i + 1 + 2) (0))), .second] [(.ref a1), (.ref a1)]) (fun tq kq => st143 _ (XS.aloadN X143.here hx rfl (hb hby d4_226) rfl rfl (XS.dup X143.here hx rfl (hb hby d4_227) rfl rfl kq))) ?_
  obtain ⟨T156, X156, e156, st156⟩ := getF X143 hx hZ hown (host := "") (Or.inl (own_w hw 61 rfl)) Via.refl e143 f151 (g := (mkF m 228 #[.val (.ref a1), .val (.long (own_pk (i + 1 + 2 + 1) (1))), .second, .val (.long (own_pk (i + 1 + 2) (0))), .second] [(.ref a1), (.ref a1)])) rfl rfl (hb hby d4_228)
  refine own_to T156 (mkF m 233 #[.val (.ref a1), .val (.long (own_pk (i + 1 + 2 + 1) (1))), .second, .val (.long (own_pk (i + 1 + 2) (0))), .second] [(.int ((-1 : Int32) + (1 : Int32))), (.ref a1)]) (fun tq kq => st156 _ (XS.iconst X156.here hx rfl (hb hby d4_231) (XS.iadd X156.here hx rfl (hb hby d4_232) rfl kq))) ?_
  rw [show ((-1 : Int32) + (1 : Int32)) = (Int32.ofNat (0)) from by decide]
  obtain ⟨T157, h157, X157, e157, W157, st157⟩ := putF X156 hx hZ hown (host := "") (Or.inl (own_w hw 61 rfl)) Via.refl e156 f151 f144 (Or.inl (own_w hw 62 rfl)) (own_w hw 2 rfl) (ty := .int) (by decide) rfl rfl (g := (mkF m 233 #[.val (.ref a1), .val (.long (own_pk (i + 1 + 2 + 1) (1))), .second, .val (.long (own_pk (i + 1 + 2) (0))), .second] [(.int (Int32.ofNat (0))), (.ref a1)])) rfl rfl (hb hby d4_233)
  have f158 := f144.wr W157
  have f159 := f145.other W157 (Or.inr (sn_packed_index hw))
  have f160 := f146.other W157 (Or.inr (sn_to_index hw))
  have f161 := f147.other W157 (Or.inr (sn_at_index hw))
  have f162 := f155.other W157 (Or.inr (sn_left_index hw))
  have f163 := f148.other W157 (Or.inr (sn_text_index hw))
  have f164 := f149.other W157 (Or.inr (sn_textEnd_index hw))
  have f165 := f150.other W157 (Or.inr (sn_literals_index hw))
  have f166 := f152.other W157 (Or.inr (sn_offset_index hw))
  have f167 := f153.other W157 (Or.inr (sn_length_index hw))
  have f168 := f154.other W157 (Ne.symm hne)
  have f169 := f151.same W157
  have N157 := Fr.snoc X157 N143 g_a1
  have Zs157 : n0 ≤ h157.size := by rw [W157.size]; exact Zs143
  have K157 := K143.wr W157 (Or.inl (List.mem_of_getElem? (i := 0) rfl))
  refine own_to T157 (mkF m 237 #[.val (.ref a1), .val (.long (own_pk (i + 1 + 2 + 1) (1))), .second, .val (.long (own_pk (i + 1 + 2) (0))), .second] [(.int (1 : Int32))]) (fun tq kq => st157 _ (XS.iconst X157.here hx rfl (hb hby d4_236) kq)) ?_
  exact own_retZ X157 hx hret hlk (hb hby d4_237) (by decide) (by decide) (Or.inr rfl) (by rw [e157]; exact ⟨rfl, N157, K157, _, _, ⟨f158, f159, f160, f161, f162, f163, f164, f165, f169, f166, f167⟩⟩)
def Q_rm_next010 (Z : State) (a1 pk : Addr) (f : Nat → Int32) (i e' : Nat) (u4 u5 u6 u7 u8 u9 : Int32) (h0 : Heap) (n0 : Nat) (v : Option Value) (h : Heap) (L : List Loc) : Prop := v = some (.int (1 : Int32)) ∧ Fr n0 L ∧ Keep h0 h [a1] ∧ ∃ o' l', Cur Z h a1 (.ref pk) (Int32.ofNat e') (Int32.ofNat (i + 1 + 1 + 1)) (Int32.ofNat (9 - 1)) (1 : Int32) (Int32.ofNat (i + 1 + 1 + 8)) (-1 : Int32) (Int32.ofNat (0)) o' l'
theorem pd_7 : parseMethodDescriptor "([BII)I" = some ⟨[(.array .byte), .int, .int], some .int⟩ := by decide +kernel
set_option maxRecDepth 65536 in
set_option maxHeartbeats 40000000 in
theorem rm_next010 (l : Launch) (Z : State) (a0 : Array Value) (hw : ∀ d ∈ tables_1, d.before a0 Z = true) (ws : List Jvm.Cond) (a1 pk : Addr) (f : Nat → Int32) (i e' : Nat) (u4 u5 u6 u7 u8 u9 : Int32) (h0 : Heap) (n0 : Nat) (Z0 : n0 ≤ h0.size) (U : Cur Z h0 a1 (.ref pk) (Int32.ofNat e') (Int32.ofNat i) (0 : Int32) u4 u5 u6 u7 u8 u9) (hne : a1 ≠ pk) (g_a1 : n0 ≤ a1) (A : BArr Z h0 pk 20 f) (hi : i < 4) (hie : i < e') (he : e' < 20) (hf0 : f i = Int32.ofNat 37) (hf1 : f (i + 1) = Int32.ofNat 8) (hfc : i + 1 + 1 < i + 1 + 1 + 8 → f (i + 1 + 1) = (44 : Int32)) :
    MetFree l (⟨"com/example/warmjoin/warmjoin/PackedFields$Cursor", "next", "()Z"⟩ : MethodName) (head1 (Jvm.Cond.code (⟨"com/example/warmjoin/warmjoin/PackedFields$Cursor", "next", "()Z"⟩ : MethodName) prog_100_method_3_code 5 (some .boolean) :: ws) ({ frames := 2, cells := 0, slots := 0, locals := 38 } : Room)) (fun a U => a = #[(.ref a1)] ∧ Z.Warmed39 U.vm ∧ U.heap = h0) (fun _ _ _ _ _ => True) (fun _ U o U' => ∃ v L, o = .returned v ∧ Q_rm_next010 Z a1 pk f i e' u4 u5 u6 u7 u8 u9 h0 n0 v U'.heap L ∧ FrameEnd U o U' L ({ frames := 2, cells := 0, slots := 0, locals := 38 } : Room).cells ({ frames := 2, cells := 0, slots := 0, locals := 38 } : Room).slots) := by
  refine own_met (y := (⟨"com/example/warmjoin/warmjoin/PackedFields$Cursor", "next", "()Z"⟩ : MethodName)) (Q := (Q_rm_next010 Z a1 pk f i e' u4 u5 u6 u7 u8 u9 h0 n0)) (plainFor_of_name pn_1) fun p e s m below meth c s₁ X0 hx hby hml hret hlk hown hnm hZ e0 => ?_
  refine own_entry (ef_4_R m a1) ?_
  obtain ⟨E1, F0, F1, F2, F3, F4, F5, F6, F7, F8, F9⟩ := U
  have K0 := Keep.refl h0 [a1]
  have hlt : i + 1 + 1 < i + 1 + 1 + 8 := by omega
  refine own_to s₁ (mkF m 1 #[.val (.ref a1), .unset, .unset, .unset, .unset] [(.ref a1)]) (fun tq kq => XS.aloadN X0.here hx rfl (hb hby d4_0) rfl rfl kq) ?_
  obtain ⟨T1, X1, e1, st1⟩ := getF X0 hx hZ hown (host := "") (Or.inl (own_w hw 21 rfl)) Via.refl e0 F3 (g := (mkF m 1 #[.val (.ref a1), .unset, .unset, .unset, .unset] [(.ref a1)])) rfl rfl (hb hby d4_1)
  refine own_to T1 (mkF m 8 #[.val (.ref a1), .unset, .unset, .unset, .unset] [(.ref a1)]) (fun tq kq => st1 _ (XS.ifNo X1.here hx rfl (hb hby d4_4) rfl ((if0 _ _).trans (teq (by decide : (0 : Int32) = (0 : Int32))).2) (XS.aloadN X1.here hx rfl (hb hby d4_7) rfl rfl kq))) ?_
  obtain ⟨T2, X2, e2, st2⟩ := getF X1 hx hZ hown (host := "") (Or.inl (own_w hw 19 rfl)) Via.refl e1 F2 (g := (mkF m 8 #[.val (.ref a1), .unset, .unset, .unset, .unset] [(.ref a1)])) rfl rfl (hb hby d4_8)
  refine own_to T2 (mkF m 12 #[.val (.ref a1), .unset, .unset, .unset, .unset] [(.ref a1), (.int (Int32.ofNat i))]) (fun tq kq => st2 _ (XS.aloadN X2.here hx rfl (hb hby d4_11) rfl rfl kq)) ?_
  obtain ⟨T3, X3, e3, st3⟩ := getF X2 hx hZ hown (host := "") (Or.inl (own_w hw 17 rfl)) Via.refl e2 F1 (g := (mkF m 12 #[.val (.ref a1), .unset, .unset, .unset, .unset] [(.ref a1), (.int (Int32.ofNat i))])) rfl rfl (hb hby d4_12)
  refine own_to T3 (mkF m 21 #[.val (.ref a1), .unset, .unset, .unset, .unset] [(.ref a1)]) (fun tq kq => st3 _ (XS.icmpYes X3.here hx rfl (pc0 := 15) (pc' := 20) rfl (hb hby d4_15) rfl (tlt ((own_ltn (by omega) (by omega)).mpr hie)).1 (by decide) (by decide) (XS.aloadN X3.here hx rfl (hb hby d4_20) rfl rfl kq))) ?_
  obtain ⟨T4, X4, e4, st4⟩ := getF X3 hx hZ hown (host := "") (Or.inl (own_w hw 15 rfl)) Via.refl e3 F0 (g := (mkF m 21 #[.val (.ref a1), .unset, .unset, .unset, .unset] [(.ref a1)])) rfl rfl (hb hby d4_21)
  refine own_to T4 (mkF m 25 #[.val (.ref a1), .unset, .unset, .unset, .unset] [(.ref a1), (.ref pk)]) (fun tq kq => st4 _ (XS.aloadN X4.here hx rfl (hb hby d4_24) rfl rfl kq)) ?_
  obtain ⟨T5, X5, e5, st5⟩ := getF X4 hx hZ hown (host := "") (Or.inl (own_w hw 19 rfl)) Via.refl e4 F2 (g := (mkF m 25 #[.val (.ref a1), .unset, .unset, .unset, .unset] [(.ref a1), (.ref pk)])) rfl rfl (hb hby d4_25)
  refine own_to T5 (mkF m 28 #[.val (.ref a1), .unset, .unset, .unset, .unset] [(.int (Int32.ofNat i)), (.ref pk)]) (fun tq kq => st5 _ kq) ?_
  obtain ⟨_, _, ⟨T6, L6, k6, n6⟩, -, X6, ⟨Lc6, hQ6, l6, y6, z6⟩, st6⟩ := callSN X5 hx (y := (⟨"com/example/warmjoin/warmjoin/PackedFields", "number", "([BI)J"⟩ : MethodName)) hown (own_mvMN hZ (own_w hw 28 rfl)) (mvT hZ (own_w hw 29 rfl)) (mvT hZ (own_w hw 30 rfl)) (mvT hZ (own_w hw 31 rfl)) (by decide) (backOf (W := 0) (rm_number l Z a0 hw [] pk f (i) (37) h0 n0 Z0 A (by omega) hf0 (by omega)) hZ (own_w hw 31 rfl) (own_w hw 30 rfl) (by decide) (by decide)) (g := (mkF m 28 #[.val (.ref a1), .unset, .unset, .unset, .unset] [(.int (Int32.ofNat i)), (.ref pk)])) rfl (by rw [hml]; rfl) (argsL := [(.ref pk), (.int (Int32.ofNat i))]) (rest := []) (lenOf pd_3 rfl) rfl (by show 2 * 0 + _ ≤ _; exact Nat.le_of_eq rfl) (hb hby d4_28) (fun _ _ => ⟨rfl, e5, (by decide : 0 + 0 ≤ _), (by decide : 0 + 0 ≤ _)⟩)
  dsimp only [Pt.U, Pt.locs, Pt.cells, Pt.slots] at X6 l6 y6 z6 st6 hQ6
  have l6y := l6.symm
  clear l6
  subst l6y
  obtain rfl : k6 = 0 := y6
  obtain rfl : n6 = 0 := z6
  obtain ⟨rfl, N6q, e6⟩ := hQ6
  have N6 := Fr.app (Fr.nil n0) N6q
  refine own_to T6 (mkF m 33 #[.val (.ref a1), .val (.long (own_pk (i + 1) (37))), .second, .unset, .unset] [(.ref a1)]) (fun tq kq => st6.trans (XS.lstoreN X6.here hx rfl (hb hby d4_31) rfl (l' := #[.val (.ref a1), .val (.long (own_pk (i + 1) (37))), .second, .unset, .unset]) rfl (XS.aloadN X6.here hx rfl (hb hby d4_32) rfl rfl kq))) ?_
  obtain ⟨T7, X7, e7, st7⟩ := getF X6 hx hZ hown (host := "") (Or.inl (own_w hw 15 rfl)) Via.refl e6 F0 (g := (mkF m 33 #[.val (.ref a1), .val (.long (own_pk (i + 1) (37))), .second, .unset, .unset] [(.ref a1)])) rfl rfl (hb hby d4_33)
  refine own_to T7 (mkF m 37 #[.val (.ref a1), .val (.long (own_pk (i + 1) (37))), .second, .unset, .unset] [(.long (own_pk (i + 1) (37))), (.ref pk)]) (fun tq kq => st7 _ (XS.lloadN X7.here hx rfl (hb hby d4_36) rfl kq)) ?_
  obtain ⟨_, _, ⟨T8, L8, k8, n8⟩, -, X8, ⟨Lc8, hQ8, l8, y8, z8⟩, st8⟩ := callSN X7 hx (y := (⟨"com/example/warmjoin/warmjoin/PackedFields", "body", "([BJ)J"⟩ : MethodName)) hown (own_mvMN hZ (own_w hw 33 rfl)) (mvT hZ (own_w hw 34 rfl)) (mvT hZ (own_w hw 30 rfl)) (mvT hZ (own_w hw 35 rfl)) (by decide) (backOf (W := 0) (rm_body10 l Z a0 hw [] pk f (i + 1) h0 n0 Z0 A (by omega) hf1) hZ (own_w hw 35 rfl) (own_w hw 30 rfl) (by decide) (by decide)) (g := (mkF m 37 #[.val (.ref a1), .val (.long (own_pk (i + 1) (37))), .second, .unset, .unset] [(.long (own_pk (i + 1) (37))), (.ref pk)])) rfl (by rw [hml]; rfl) (argsL := [(.ref pk), (.long (own_pk (i + 1) (37)))]) (rest := []) (lenOf pd_4 rfl) rfl (by show 2 * 0 + _ ≤ _; exact Nat.le_of_eq rfl) (hb hby d4_37) (fun _ _ => ⟨rfl, e7, (by decide : 0 + 0 ≤ _), (by decide : 0 + 0 ≤ _)⟩)
  dsimp only [Pt.U, Pt.locs, Pt.cells, Pt.slots] at X8 l8 y8 z8 st8 hQ8
  have l8y := l8.symm
  clear l8
  subst l8y
  obtain rfl : k8 = 0 := y8
  obtain rfl : n8 = 0 := z8
  obtain ⟨rfl, N8q, e8⟩ := hQ8
  have N8 := Fr.app N6 N8q
  refine own_to T8 (mkF m 43 #[.val (.ref a1), .val (.long (own_pk (i + 1) (37))), .second, .val (.long (own_pk (i + 1 + 1) (8))), .second] [(.long (own_pk (i + 1) (37))), (.ref a1)]) (fun tq kq => st8.trans (XS.lstoreN X8.here hx rfl (hb hby d4_40) rfl (l' := #[.val (.ref a1), .val (.long (own_pk (i + 1) (37))), .second, .val (.long (own_pk (i + 1 + 1) (8))), .second]) rfl (XS.aloadN X8.here hx rfl (hb hby d4_41) rfl rfl (XS.lloadN X8.here hx rfl (hb hby d4_42) rfl kq)))) ?_
  obtain ⟨_, _, ⟨T9, L9, k9, n9⟩, -, X9, ⟨Lc9, hQ9, l9, y9, z9⟩, st9⟩ := callSN X8 hx (y := (⟨"com/example/warmjoin/warmjoin/PackedFields", "fieldsOf", "(J)I"⟩ : MethodName)) hown (own_mvMN hZ (own_w hw 46 rfl)) (mvT hZ (own_w hw 47 rfl)) (mvT hZ (own_w hw 30 rfl)) (mvT hZ (own_w hw 48 rfl)) (by decide) (backOf (W := 1) (rm_fieldsOf l Z a0 hw [] (i + 1) (37) h0 n0 Z0 (by omega) (by omega)) hZ (own_w hw 48 rfl) (own_w hw 30 rfl) (by decide) (by decide)) (g := (mkF m 43 #[.val (.ref a1), .val (.long (own_pk (i + 1) (37))), .second, .val (.long (own_pk (i + 1 + 1) (8))), .second] [(.long (own_pk (i + 1) (37))), (.ref a1)])) rfl (by rw [hml]; rfl) (argsL := [(.long (own_pk (i + 1) (37)))]) (rest := [(.ref a1)]) (lenOf pd_6 rfl) rfl (by show 2 * 0 + _ ≤ _; exact Nat.le_of_eq rfl) (hb hby d4_43) (fun _ _ => ⟨rfl, e8, (by decide : 0 + 0 ≤ _), (by decide : 0 + 0 ≤ _)⟩)
  dsimp only [Pt.U, Pt.locs, Pt.cells, Pt.slots] at X9 l9 y9 z9 st9 hQ9
  have l9y := l9.symm
  clear l9
  subst l9y
  obtain rfl : k9 = 0 := y9
  obtain rfl : n9 = 0 := z9
  obtain ⟨rfl, N9q, e9⟩ := hQ9
  have N9 := Fr.app N8 N9q
  refine own_to T9 (mkF m 46 #[.val (.ref a1), .val (.long (own_pk (i + 1) (37))), .second, .val (.long (own_pk (i + 1 + 1) (8))), .second] [(.int (Int32.ofNat (37 / 4))), (.ref a1)]) (fun tq kq => st9.trans kq) ?_
  rw [show (Int32.ofNat (37 / 4)) = (Int32.ofNat (9)) from rfl]
  obtain ⟨T10, h10, X10, e10, W10, st10⟩ := putF X9 hx hZ hown (host := "") (Or.inl (own_w hw 21 rfl)) Via.refl e9 F3 E1 (Or.inl (own_w hw 22 rfl)) (own_w hw 2 rfl) (ty := .int) (by decide) rfl rfl (g := (mkF m 46 #[.val (.ref a1), .val (.long (own_pk (i + 1) (37))), .second, .val (.long (own_pk (i + 1 + 1) (8))), .second] [(.int (Int32.ofNat (9))), (.ref a1)])) rfl rfl (hb hby d4_46)
  have f11 := E1.wr W10
  have f12 := F0.other W10 (Or.inr (sn_packed_left hw))
  have f13 := F1.other W10 (Or.inr (sn_to_left hw))
  have f14 := F2.other W10 (Or.inr (sn_at_left hw))
  have f15 := F4.other W10 (Or.inr (sn_text_left hw))
  have f16 := F5.other W10 (Or.inr (sn_textEnd_left hw))
  have f17 := F6.other W10 (Or.inr (sn_literals_left hw))
  have f18 := F7.other W10 (Or.inr (sn_index_left hw))
  have f19 := F8.other W10 (Or.inr (sn_offset_left hw))
  have f20 := F9.other W10 (Or.inr (sn_length_left hw))
  have f21 := A.other W10 (Ne.symm hne)
  have f22 := F3.same W10
  have N10 := Fr.snoc X10 N9 g_a1
  have Zs10 : n0 ≤ h10.size := by rw [W10.size]; exact Z0
  have K10 := K0.wr W10 (Or.inl (List.mem_of_getElem? (i := 0) rfl))
  refine own_to T10 (mkF m 51 #[.val (.ref a1), .val (.long (own_pk (i + 1) (37))), .second, .val (.long (own_pk (i + 1 + 1) (8))), .second] [(.long (own_pk (i + 1 + 1) (8))), (.ref a1)]) (fun tq kq => st10 _ (XS.aloadN X10.here hx rfl (hb hby d4_49) rfl rfl (XS.lloadN X10.here hx rfl (hb hby d4_50) rfl kq))) ?_
  obtain ⟨_, _, ⟨T23, L23, k23, n23⟩, -, X23, ⟨Lc23, hQ23, l23, y23, z23⟩, st23⟩ := Jvm.LawKit.callS X10 hx (y := (⟨"com/example/warmjoin/warmjoin/PackedFields", "start", "(J)I"⟩ : MethodName)) hown (mvT hZ (own_w hw 49 rfl)) (mvT hZ (own_w hw 40 rfl)) (mvT hZ (own_w hw 30 rfl)) (mvT hZ (own_w hw 41 rfl)) (by decide) (backOf (W := 1) (rm_start l Z a0 hw [] (i + 1 + 1) (8) h10 n0 Zs10 (by omega) (by omega)) hZ (own_w hw 41 rfl) (own_w hw 30 rfl) (by decide) (by decide)) (g := (mkF m 51 #[.val (.ref a1), .val (.long (own_pk (i + 1) (37))), .second, .val (.long (own_pk (i + 1 + 1) (8))), .second] [(.long (own_pk (i + 1 + 1) (8))), (.ref a1)])) rfl (by rw [hml]; rfl) (argsL := [(.long (own_pk (i + 1 + 1) (8)))]) (rest := [(.ref a1)]) (lenOf pd_6 rfl) rfl (by show 2 * 0 + _ ≤ _; exact Nat.le_of_eq rfl) (hb hby d4_51) (fun _ _ => ⟨rfl, e10, (by decide : 0 + 0 ≤ _), (by decide : 0 + 0 ≤ _)⟩)
  dsimp only [Pt.U, Pt.locs, Pt.cells, Pt.slots] at X23 l23 y23 z23 st23 hQ23
  have l23y := l23.symm
  clear l23
  subst l23y
  obtain rfl : k23 = 0 := y23
  obtain rfl : n23 = 0 := z23
  obtain ⟨rfl, N23q, e23⟩ := hQ23
  have N23 := Fr.app N10 N23q
  refine own_to T23 (mkF m 54 #[.val (.ref a1), .val (.long (own_pk (i + 1) (37))), .second, .val (.long (own_pk (i + 1 + 1) (8))), .second] [(.int (Int32.ofNat (i + 1 + 1))), (.ref a1)]) (fun tq kq => st23 _ kq) ?_
  obtain ⟨T24, h24, X24, e24, W24, st24⟩ := putF X23 hx hZ hown (host := "") (Or.inl (own_w hw 19 rfl)) Via.refl e23 f14 f11 (Or.inl (own_w hw 20 rfl)) (own_w hw 2 rfl) (ty := .int) (by decide) rfl rfl (g := (mkF m 54 #[.val (.ref a1), .val (.long (own_pk (i + 1) (37))), .second, .val (.long (own_pk (i + 1 + 1) (8))), .second] [(.int (Int32.ofNat (i + 1 + 1))), (.ref a1)])) rfl rfl (hb hby d4_54)
  have f25 := f11.wr W24
  have f26 := f12.other W24 (Or.inr (sn_packed_at hw))
  have f27 := f13.other W24 (Or.inr (sn_to_at hw))
  have f28 := f22.other W24 (Or.inr (sn_left_at hw))
  have f29 := f15.other W24 (Or.inr (sn_text_at hw))
  have f30 := f16.other W24 (Or.inr (sn_textEnd_at hw))
  have f31 := f17.other W24 (Or.inr (sn_literals_at hw))
  have f32 := f18.other W24 (Or.inr (sn_index_at hw))
  have f33 := f19.other W24 (Or.inr (sn_offset_at hw))
  have f34 := f20.other W24 (Or.inr (sn_length_at hw))
  have f35 := f21.other W24 (Ne.symm hne)
  have f36 := f14.same W24
  have N24 := Fr.snoc X24 N23 g_a1
  have Zs24 : n0 ≤ h24.size := by rw [W24.size]; exact Zs10
  have K24 := K10.wr W24 (Or.inl (List.mem_of_getElem? (i := 0) rfl))
  refine own_to T24 (mkF m 59 #[.val (.ref a1), .val (.long (own_pk (i + 1) (37))), .second, .val (.long (own_pk (i + 1 + 1) (8))), .second] [(.long (own_pk (i + 1) (37))), (.ref a1)]) (fun tq kq => st24 _ (XS.aloadN X24.here hx rfl (hb hby d4_57) rfl rfl (XS.lloadN X24.here hx rfl (hb hby d4_58) rfl kq))) ?_
  obtain ⟨_, _, ⟨T37, L37, k37, n37⟩, -, X37, ⟨Lc37, hQ37, l37, y37, z37⟩, st37⟩ := callSN X24 hx (y := (⟨"com/example/warmjoin/warmjoin/PackedFields", "isText", "(J)Z"⟩ : MethodName)) hown (own_mvMN hZ (own_w hw 50 rfl)) (mvT hZ (own_w hw 37 rfl)) (mvT hZ (own_w hw 30 rfl)) (mvT hZ (own_w hw 38 rfl)) (by decide) (backOf (W := 1) (rm_isText l Z a0 hw [] (i + 1) (37) h24 n0 Zs24 (by omega) (by omega)) hZ (own_w hw 38 rfl) (own_w hw 30 rfl) (by decide) (by decide)) (g := (mkF m 59 #[.val (.ref a1), .val (.long (own_pk (i + 1) (37))), .second, .val (.long (own_pk (i + 1 + 1) (8))), .second] [(.long (own_pk (i + 1) (37))), (.ref a1)])) rfl (by rw [hml]; rfl) (argsL := [(.long (own_pk (i + 1) (37)))]) (rest := [(.ref a1)]) (lenOf pd_5 rfl) rfl (by show 2 * 0 + _ ≤ _; exact Nat.le_of_eq rfl) (hb hby d4_59) (fun _ _ => ⟨rfl, e24, (by decide : 0 + 0 ≤ _), (by decide : 0 + 0 ≤ _)⟩)
  dsimp only [Pt.U, Pt.locs, Pt.cells, Pt.slots] at X37 l37 y37 z37 st37 hQ37
  have l37y := l37.symm
  clear l37
  subst l37y
  obtain rfl : k37 = 0 := y37
  obtain rfl : n37 = 0 := z37
  obtain ⟨rfl, N37q, e37⟩ := hQ37
  have N37 := Fr.app N24 N37q
  refine own_to T37 (mkF m 62 #[.val (.ref a1), .val (.long (own_pk (i + 1) (37))), .second, .val (.long (own_pk (i + 1 + 1) (8))), .second] [(.int (Int32.ofNat (37 % 2))), (.ref a1)]) (fun tq kq => st37.trans kq) ?_
  rw [show (Int32.ofNat (37 % 2)) = (1 : Int32) from rfl]
  obtain ⟨T38, h38, X38, e38, W38, st38⟩ := putFN X37 hx hZ hown (own_w hw 51 rfl) Via.refl e37 f29 f25 (Or.inl (own_w hw 52 rfl)) (own_w hw 2 rfl) (ty := .boolean) (v' := (.int (1 : Int32))) (by decide) rfl rfl (g := (mkF m 62 #[.val (.ref a1), .val (.long (own_pk (i + 1) (37))), .second, .val (.long (own_pk (i + 1 + 1) (8))), .second] [(.int (1 : Int32)), (.ref a1)])) rfl rfl (hb hby d4_62)
  have f39 := f25.wr W38
  have f40 := f26.other W38 (Or.inr (sn_packed_text hw))
  have f41 := f27.other W38 (Or.inr (sn_to_text hw))
  have f42 := f36.other W38 (Or.inr (sn_at_text hw))
  have f43 := f28.other W38 (Or.inr (sn_left_text hw))
  have f44 := f30.other W38 (Or.inr (sn_textEnd_text hw))
  have f45 := f31.other W38 (Or.inr (sn_literals_text hw))
  have f46 := f32.other W38 (Or.inr (sn_index_text hw))
  have f47 := f33.other W38 (Or.inr (sn_offset_text hw))
  have f48 := f34.other W38 (Or.inr (sn_length_text hw))
  have f49 := f35.other W38 (Ne.symm hne)
  have f50 := f29.same W38
  have N38 := Fr.snoc X38 N37 g_a1
  have Zs38 : n0 ≤ h38.size := by rw [W38.size]; exact Zs24
  have K38 := K24.wr W38 (Or.inl (List.mem_of_getElem? (i := 0) rfl))
  refine own_to T38 (mkF m 67 #[.val (.ref a1), .val (.long (own_pk (i + 1) (37))), .second, .val (.long (own_pk (i + 1 + 1) (8))), .second] [(.ref a1), (.ref a1)]) (fun tq kq => st38 _ (XS.aloadN X38.here hx rfl (hb hby d4_65) rfl rfl (XS.aloadN X38.here hx rfl (hb hby d4_66) rfl rfl kq))) ?_
  obtain ⟨T51, X51, e51, st51⟩ := getF X38 hx hZ hown (host := "") (Or.inl (own_w hw 19 rfl)) Via.refl e38 f42 (g := (mkF m 67 #[.val (.ref a1), .val (.long (own_pk (i + 1) (37))), .second, .val (.long (own_pk (i + 1 + 1) (8))), .second] [(.ref a1), (.ref a1)])) rfl rfl (hb hby d4_67)
  refine own_to T51 (mkF m 71 #[.val (.ref a1), .val (.long (own_pk (i + 1) (37))), .second, .val (.long (own_pk (i + 1 + 1) (8))), .second] [(.long (own_pk (i + 1 + 1) (8))), (.int (Int32.ofNat (i + 1 + 1))), (.ref a1)]) (fun tq kq => st51 _ (XS.lloadN X51.here hx rfl (hb hby d4_70) rfl kq)) ?_
  obtain ⟨_, _, ⟨T52, L52, k52, n52⟩, -, X52, ⟨Lc52, hQ52, l52, y52, z52⟩, st52⟩ := Jvm.LawKit.callS X51 hx (y := (⟨"com/example/warmjoin/warmjoin/PackedFields", "length", "(J)I"⟩ : MethodName)) hown (mvT hZ (own_w hw 53 rfl)) (mvT hZ (own_w hw 54 rfl)) (mvT hZ (own_w hw 30 rfl)) (mvT hZ (own_w hw 55 rfl)) (by decide) (backOf (W := 2) (rm_length l Z a0 hw [] (i + 1 + 1) (8) h38 n0 Zs38 (by omega) (by omega)) hZ (own_w hw 55 rfl) (own_w hw 30 rfl) (by decide) (by decide)) (g := (mkF m 71 #[.val (.ref a1), .val (.long (own_pk (i + 1) (37))), .second, .val (.long (own_pk (i + 1 + 1) (8))), .second] [(.long (own_pk (i + 1 + 1) (8))), (.int (Int32.ofNat (i + 1 + 1))), (.ref a1)])) rfl (by rw [hml]; rfl) (argsL := [(.long (own_pk (i + 1 + 1) (8)))]) (rest := [(.int (Int32.ofNat (i + 1 + 1))), (.ref a1)]) (lenOf pd_6 rfl) rfl (by show 2 * 0 + _ ≤ _; exact Nat.le_of_eq rfl) (hb hby d4_71) (fun _ _ => ⟨rfl, e51, (by decide : 0 + 0 ≤ _), (by decide : 0 + 0 ≤ _)⟩)
  dsimp only [Pt.U, Pt.locs, Pt.cells, Pt.slots] at X52 l52 y52 z52 st52 hQ52
  have l52y := l52.symm
  clear l52
  subst l52y
  obtain rfl : k52 = 0 := y52
  obtain rfl : n52 = 0 := z52
  obtain ⟨rfl, N52q, e52⟩ := hQ52
  have N52 := Fr.app N38 N52q
  refine own_to T52 (mkF m 75 #[.val (.ref a1), .val (.long (own_pk (i + 1) (37))), .second, .val (.long (own_pk (i + 1 + 1) (8))), .second] [(.int ((Int32.ofNat (i + 1 + 1)) + (Int32.ofNat (8)))), (.ref a1)]) (fun tq kq => st52 _ (XS.iadd X52.here hx rfl (hb hby d4_74) rfl kq)) ?_
  rw [show ((Int32.ofNat (i + 1 + 1)) + (Int32.ofNat (8))) = (Int32.ofNat (i + 1 + 1 + 8)) from own_addn (i + 1 + 1) 8 (by omega) (by omega)]
  obtain ⟨T53, h53, X53, e53, W53, st53⟩ := putF X52 hx hZ hown (host := "") (Or.inl (own_w hw 56 rfl)) Via.refl e52 f44 f39 (Or.inl (own_w hw 57 rfl)) (own_w hw 2 rfl) (ty := .int) (by decide) rfl rfl (g := (mkF m 75 #[.val (.ref a1), .val (.long (own_pk (i + 1) (37))), .second, .val (.long (own_pk (i + 1 + 1) (8))), .second] [(.int (Int32.ofNat (i + 1 + 1 + 8))), (.ref a1)])) rfl rfl (hb hby d4_75)
  have f54 := f39.wr W53
  have f55 := f40.other W53 (Or.inr (sn_packed_textEnd hw))
  have f56 := f41.other W53 (Or.inr (sn_to_textEnd hw))
  have f57 := f42.other W53 (Or.inr (sn_at_textEnd hw))
  have f58 := f43.other W53 (Or.inr (sn_left_textEnd hw))
  have f59 := f50.other W53 (Or.inr (sn_text_textEnd hw))
  have f60 := f45.other W53 (Or.inr (sn_literals_textEnd hw))
  have f61 := f46.other W53 (Or.inr (sn_index_textEnd hw))
  have f62 := f47.other W53 (Or.inr (sn_offset_textEnd hw))
  have f63 := f48.other W53 (Or.inr (sn_length_textEnd hw))
  have f64 := f49.other W53 (Ne.symm hne)
  have f65 := f44.same W53
  have N53 := Fr.snoc X53 N52 g_a1
  have Zs53 : n0 ≤ h53.size := by rw [W53.size]; exact Zs38
  have K53 := K38.wr W53 (Or.inl (List.mem_of_getElem? (i := 0) rfl))
  refine own_to T53 (mkF m 80 #[.val (.ref a1), .val (.long (own_pk (i + 1) (37))), .second, .val (.long (own_pk (i + 1 + 1) (8))), .second] [(.long (own_pk (i + 1) (37))), (.ref a1)]) (fun tq kq => st53 _ (XS.aloadN X53.here hx rfl (hb hby d4_78) rfl rfl (XS.lloadN X53.here hx rfl (hb hby d4_79) rfl kq))) ?_
  obtain ⟨_, _, ⟨T66, L66, k66, n66⟩, -, X66, ⟨Lc66, hQ66, l66, y66, z66⟩, st66⟩ := callSN X53 hx (y := (⟨"com/example/warmjoin/warmjoin/PackedFields", "hasLiterals", "(J)Z"⟩ : MethodName)) hown (own_mvMN hZ (own_w hw 58 rfl)) (mvT hZ (own_w hw 44 rfl)) (mvT hZ (own_w hw 30 rfl)) (mvT hZ (own_w hw 45 rfl)) (by decide) (backOf (W := 1) (rm_hasLiterals l Z a0 hw [] (i + 1) (37) h53 n0 Zs53 (by omega) (by omega)) hZ (own_w hw 45 rfl) (own_w hw 30 rfl) (by decide) (by decide)) (g := (mkF m 80 #[.val (.ref a1), .val (.long (own_pk (i + 1) (37))), .second, .val (.long (own_pk (i + 1 + 1) (8))), .second] [(.long (own_pk (i + 1) (37))), (.ref a1)])) rfl (by rw [hml]; rfl) (argsL := [(.long (own_pk (i + 1) (37)))]) (rest := [(.ref a1)]) (lenOf pd_5 rfl) rfl (by show 2 * 0 + _ ≤ _; exact Nat.le_of_eq rfl) (hb hby d4_80) (fun _ _ => ⟨rfl, e53, (by decide : 0 + 0 ≤ _), (by decide : 0 + 0 ≤ _)⟩)
  dsimp only [Pt.U, Pt.locs, Pt.cells, Pt.slots] at X66 l66 y66 z66 st66 hQ66
  have l66y := l66.symm
  clear l66
  subst l66y
  obtain rfl : k66 = 0 := y66
  obtain rfl : n66 = 0 := z66
  obtain ⟨rfl, N66q, e66⟩ := hQ66
  have N66 := Fr.app N53 N66q
  refine own_to T66 (mkF m 83 #[.val (.ref a1), .val (.long (own_pk (i + 1) (37))), .second, .val (.long (own_pk (i + 1 + 1) (8))), .second] [(.int (Int32.ofNat (37 / 2 % 2))), (.ref a1)]) (fun tq kq => st66.trans kq) ?_
  rw [show (Int32.ofNat (37 / 2 % 2)) = (0 : Int32) from rfl]
  refine own_to T66 (mkF m 102 #[.val (.ref a1), .val (.long (own_pk (i + 1) (37))), .second, .val (.long (own_pk (i + 1 + 1) (8))), .second] [(.int (-1 : Int32)), (.ref a1)]) (fun tq kq => XS.ifYes X66.here hx rfl (pc0 := 83) (pc' := 101) rfl (hb hby d4_83) rfl ((if0 _ _).trans (teq (by decide : (0 : Int32) = (0 : Int32))).1) (by decide) (by decide) (XS.iconst X66.here hx rfl (hb hby d4_101) kq)) ?_
  obtain ⟨T67, h67, X67, e67, W67, st67⟩ := putF X66 hx hZ hown (host := "") (Or.inl (own_w hw 59 rfl)) Via.refl e66 f60 f54 (Or.inl (own_w hw 60 rfl)) (own_w hw 2 rfl) (ty := .int) (by decide) rfl rfl (g := (mkF m 102 #[.val (.ref a1), .val (.long (own_pk (i + 1) (37))), .second, .val (.long (own_pk (i + 1 + 1) (8))), .second] [(.int (-1 : Int32)), (.ref a1)])) rfl rfl (hb hby d4_102)
  have f68 := f54.wr W67
  have f69 := f55.other W67 (Or.inr (sn_packed_literals hw))
  have f70 := f56.other W67 (Or.inr (sn_to_literals hw))
  have f71 := f57.other W67 (Or.inr (sn_at_literals hw))
  have f72 := f58.other W67 (Or.inr (sn_left_literals hw))
  have f73 := f59.other W67 (Or.inr (sn_text_literals hw))
  have f74 := f65.other W67 (Or.inr (sn_textEnd_literals hw))
  have f75 := f61.other W67 (Or.inr (sn_index_literals hw))
  have f76 := f62.other W67 (Or.inr (sn_offset_literals hw))
  have f77 := f63.other W67 (Or.inr (sn_length_literals hw))
  have f78 := f64.other W67 (Ne.symm hne)
  have f79 := f60.same W67
  have N67 := Fr.snoc X67 N66 g_a1
  have Zs67 : n0 ≤ h67.size := by rw [W67.size]; exact Zs53
  have K67 := K53.wr W67 (Or.inl (List.mem_of_getElem? (i := 0) rfl))
  refine own_to T67 (mkF m 107 #[.val (.ref a1), .val (.long (own_pk (i + 1) (37))), .second, .val (.long (own_pk (i + 1 + 1) (8))), .second] [(.int (-1 : Int32)), (.ref a1)]) (fun tq kq => st67 _ (XS.aloadN X67.here hx rfl (hb hby d4_105) rfl rfl (XS.iconst X67.here hx rfl (hb hby d4_106) kq))) ?_
  obtain ⟨T80, h80, X80, e80, W80, st80⟩ := putF X67 hx hZ hown (host := "") (Or.inl (own_w hw 61 rfl)) Via.refl e67 f75 f68 (Or.inl (own_w hw 62 rfl)) (own_w hw 2 rfl) (ty := .int) (by decide) rfl rfl (g := (mkF m 107 #[.val (.ref a1), .val (.long (own_pk (i + 1) (37))), .second, .val (.long (own_pk (i + 1 + 1) (8))), .second] [(.int (-1 : Int32)), (.ref a1)])) rfl rfl (hb hby d4_107)
  have f81 := f68.wr W80
  have f82 := f69.other W80 (Or.inr (sn_packed_index hw))
  have f83 := f70.other W80 (Or.inr (sn_to_index hw))
  have f84 := f71.other W80 (Or.inr (sn_at_index hw))
  have f85 := f72.other W80 (Or.inr (sn_left_index hw))
  have f86 := f73.other W80 (Or.inr (sn_text_index hw))
  have f87 := f74.other W80 (Or.inr (sn_textEnd_index hw))
  have f88 := f79.other W80 (Or.inr (sn_literals_index hw))
  have f89 := f76.other W80 (Or.inr (sn_offset_index hw))
  have f90 := f77.other W80 (Or.inr (sn_length_index hw))
  have f91 := f78.other W80 (Ne.symm hne)
  have f92 := f75.same W80
  have N80 := Fr.snoc X80 N67 g_a1
  have Zs80 : n0 ≤ h80.size := by rw [W80.size]; exact Zs67
  have K80 := K67.wr W80 (Or.inl (List.mem_of_getElem? (i := 0) rfl))
  refine own_to T80 (mkF m 1 #[.val (.ref a1), .val (.long (own_pk (i + 1) (37))), .second, .val (.long (own_pk (i + 1 + 1) (8))), .second] [(.ref a1)]) (fun tq kq => st80 _ (XS.goto X80.here hx rfl (pc0 := 110) (pc' := 0) rfl (hb hby d4_110) (by decide) (by decide) (XS.aloadN X80.here hx rfl (hb hby d4_0) rfl rfl kq))) ?_
  obtain ⟨T93, X93, e93, st93⟩ := getF X80 hx hZ hown (host := "") (Or.inl (own_w hw 21 rfl)) Via.refl e80 f85 (g := (mkF m 1 #[.val (.ref a1), .val (.long (own_pk (i + 1) (37))), .second, .val (.long (own_pk (i + 1 + 1) (8))), .second] [(.ref a1)])) rfl rfl (hb hby d4_1)
  refine own_to T93 (mkF m 114 #[.val (.ref a1), .val (.long (own_pk (i + 1) (37))), .second, .val (.long (own_pk (i + 1 + 1) (8))), .second] [(.ref a1)]) (fun tq kq => st93 _ (XS.ifYes X93.here hx rfl (pc0 := 4) (pc' := 113) rfl (hb hby d4_4) rfl ((if0 _ _).trans (feq (mt (own_eqn (b := 0) (by omega) (by decide)).mp (by omega))).2) (by decide) (by decide) (XS.aloadN X93.here hx rfl (hb hby d4_113) rfl rfl kq))) ?_
  obtain ⟨T94, X94, e94, st94⟩ := getF X93 hx hZ hown (host := "") (Or.inl (own_w hw 51 rfl)) Via.refl e93 f86 (g := (mkF m 114 #[.val (.ref a1), .val (.long (own_pk (i + 1) (37))), .second, .val (.long (own_pk (i + 1 + 1) (8))), .second] [(.ref a1)])) rfl rfl (hb hby d4_114)
  refine own_to T94 (mkF m 121 #[.val (.ref a1), .val (.long (own_pk (i + 1) (37))), .second, .val (.long (own_pk (i + 1 + 1) (8))), .second] [(.ref a1)]) (fun tq kq => st94 _ (XS.ifNo X94.here hx rfl (hb hby d4_117) rfl ((if0 _ _).trans (feq (by decide : ¬ ((1 : Int32) = (0 : Int32)))).1) (XS.aloadN X94.here hx rfl (hb hby d4_120) rfl rfl kq))) ?_
  obtain ⟨T95, X95, e95, st95⟩ := getF X94 hx hZ hown (host := "") (Or.inl (own_w hw 15 rfl)) Via.refl e94 f82 (g := (mkF m 121 #[.val (.ref a1), .val (.long (own_pk (i + 1) (37))), .second, .val (.long (own_pk (i + 1 + 1) (8))), .second] [(.ref a1)])) rfl rfl (hb hby d4_121)
  refine own_to T95 (mkF m 125 #[.val (.ref a1), .val (.long (own_pk (i + 1) (37))), .second, .val (.long (own_pk (i + 1 + 1) (8))), .second] [(.ref a1), (.ref pk)]) (fun tq kq => st95 _ (XS.aloadN X95.here hx rfl (hb hby d4_124) rfl rfl kq)) ?_
  obtain ⟨T96, X96, e96, st96⟩ := getF X95 hx hZ hown (host := "") (Or.inl (own_w hw 19 rfl)) Via.refl e95 f84 (g := (mkF m 125 #[.val (.ref a1), .val (.long (own_pk (i + 1) (37))), .second, .val (.long (own_pk (i + 1 + 1) (8))), .second] [(.ref a1), (.ref pk)])) rfl rfl (hb hby d4_125)
  refine own_to T96 (mkF m 129 #[.val (.ref a1), .val (.long (own_pk (i + 1) (37))), .second, .val (.long (own_pk (i + 1 + 1) (8))), .second] [(.ref a1), (.int (Int32.ofNat (i + 1 + 1))), (.ref pk)]) (fun tq kq => st96 _ (XS.aloadN X96.here hx rfl (hb hby d4_128) rfl rfl kq)) ?_
  obtain ⟨T97, X97, e97, st97⟩ := getF X96 hx hZ hown (host := "") (Or.inl (own_w hw 56 rfl)) Via.refl e96 f87 (g := (mkF m 129 #[.val (.ref a1), .val (.long (own_pk (i + 1) (37))), .second, .val (.long (own_pk (i + 1 + 1) (8))), .second] [(.ref a1), (.int (Int32.ofNat (i + 1 + 1))), (.ref pk)])) rfl rfl (hb hby d4_129)
  refine own_to T97 (mkF m 132 #[.val (.ref a1), .val (.long (own_pk (i + 1) (37))), .second, .val (.long (own_pk (i + 1 + 1) (8))), .second] [(.int (Int32.ofNat (i + 1 + 1 + 8))), (.int (Int32.ofNat (i + 1 + 1))), (.ref pk)]) (fun tq kq => st97 _ kq) ?_
  obtain ⟨_, _, ⟨T98, L98, k98, n98⟩, -, X98, ⟨Lc98, hQ98, l98, y98, z98⟩, st98⟩ := callSN X97 hx (y := (⟨"com/example/warmjoin/warmjoin/PackedFields", "comma", "([BII)I"⟩ : MethodName)) hown (own_mvMN hZ (own_w hw 63 rfl)) (mvT hZ (own_w hw 64 rfl)) (mvT hZ (own_w hw 30 rfl)) (mvT hZ (own_w hw 65 rfl)) (by decide) (backOf (W := 0) (rm_comma l Z a0 hw [] pk f (i + 1 + 1) (i + 1 + 1 + 8) h80 n0 Zs80 f91 (by omega) (by omega) hfc) hZ (own_w hw 65 rfl) (own_w hw 30 rfl) (by decide) (by decide)) (g := (mkF m 132 #[.val (.ref a1), .val (.long (own_pk (i + 1) (37))), .second, .val (.long (own_pk (i + 1 + 1) (8))), .second] [(.int (Int32.ofNat (i + 1 + 1 + 8))), (.int (Int32.ofNat (i + 1 + 1))), (.ref pk)])) rfl (by rw [hml]; rfl) (argsL := [(.ref pk), (.int (Int32.ofNat (i + 1 + 1))), (.int (Int32.ofNat (i + 1 + 1 + 8)))]) (rest := []) (lenOf pd_7 rfl) rfl (by show 2 * 0 + _ ≤ _; exact Nat.le_of_eq rfl) (hb hby d4_132) (fun _ _ => ⟨rfl, e97, (by decide : 0 + 0 ≤ _), (by decide : 0 + 0 ≤ _)⟩)
  dsimp only [Pt.U, Pt.locs, Pt.cells, Pt.slots] at X98 l98 y98 z98 st98 hQ98
  have l98y := l98.symm
  clear l98
  subst l98y
  obtain rfl : k98 = 0 := y98
  obtain rfl : n98 = 0 := z98
  obtain ⟨rfl, N98q, e98⟩ := hQ98
  have N98 := Fr.app N80 N98q
  refine own_to T98 (mkF m 138 #[.val (.ref a1), .val (.int (Int32.ofNat (i + 1 + 1))), .unset, .val (.long (own_pk (i + 1 + 1) (8))), .second] [(.ref a1), (.ref a1)]) (fun tq kq => st98.trans (XS.istoreN X98.here hx rfl (hb hby d4_135) rfl (l' := #[.val (.ref a1), .val (.int (Int32.ofNat (i + 1 + 1))), .unset, .val (.long (own_pk (i + 1 + 1) (8))), .second]) rfl (XS.aloadN X98.here hx rfl (hb hby d4_136) rfl rfl (XS.aloadN X98.here hx rfl (hb hby d4_137) rfl rfl kq)))) ?_
  obtain ⟨T99, X99, e99, st99⟩ := getF X98 hx hZ hown (host := "") (Or.inl (own_w hw 19 rfl)) Via.refl e98 f84 (g := (mkF m 138 #[.val (.ref a1), .val (.int (Int32.ofNat (i + 1 + 1))), .unset, .val (.long (own_pk (i + 1 + 1) (8))), .second] [(.ref a1), (.ref a1)])) rfl rfl (hb hby d4_138)
  refine own_to T99 (mkF m 141 #[.val (.ref a1), .val (.int (Int32.ofNat (i + 1 + 1))), .unset, .val (.long (own_pk (i + 1 + 1) (8))), .second] [(.int (Int32.ofNat (i + 1 + 1))), (.ref a1)]) (fun tq kq => st99 _ kq) ?_
  obtain ⟨T100, h100, X100, e100, W100, st100⟩ := putF X99 hx hZ hown (host := "") (Or.inl (own_w hw 66 rfl)) Via.refl e99 f89 f81 (Or.inl (own_w hw 67 rfl)) (own_w hw 2 rfl) (ty := .int) (by decide) rfl rfl (g := (mkF m 141 #[.val (.ref a1), .val (.int (Int32.ofNat (i + 1 + 1))), .unset, .val (.long (own_pk (i + 1 + 1) (8))), .second] [(.int (Int32.ofNat (i + 1 + 1))), (.ref a1)])) rfl rfl (hb hby d4_141)
  have f101 := f81.wr W100
  have f102 := f82.other W100 (Or.inr (sn_packed_offset hw))
  have f103 := f83.other W100 (Or.inr (sn_to_offset hw))
  have f104 := f84.other W100 (Or.inr (sn_at_offset hw))
  have f105 := f85.other W100 (Or.inr (sn_left_offset hw))
  have f106 := f86.other W100 (Or.inr (sn_text_offset hw))
  have f107 := f87.other W100 (Or.inr (sn_textEnd_offset hw))
  have f108 := f88.other W100 (Or.inr (sn_literals_offset hw))
  have f109 := f92.other W100 (Or.inr (sn_index_offset hw))
  have f110 := f90.other W100 (Or.inr (sn_length_offset hw))
  have f111 := f91.other W100 (Ne.symm hne)
  have f112 := f89.same W100
  have N100 := Fr.snoc X100 N98 g_a1
  have Zs100 : n0 ≤ h100.size := by rw [W100.size]; exact Zs80
  have K100 := K80.wr W100 (Or.inl (List.mem_of_getElem? (i := 0) rfl))
  refine own_to T100 (mkF m 147 #[.val (.ref a1), .val (.int (Int32.ofNat (i + 1 + 1))), .unset, .val (.long (own_pk (i + 1 + 1) (8))), .second] [(.ref a1), (.int (Int32.ofNat (i + 1 + 1))), (.ref a1)]) (fun tq kq => st100 _ (XS.aloadN X100.here hx rfl (hb hby d4_144) rfl rfl (XS.iloadN X100.here hx rfl (hb hby d4_145) rfl (XS.aloadN X100.here hx rfl (hb hby d4_146) rfl rfl kq)))) ?_
  obtain ⟨T113, X113, e113, st113⟩ := getF X100 hx hZ hown (host := "") (Or.inl (own_w hw 19 rfl)) Via.refl e100 f104 (g := (mkF m 147 #[.val (.ref a1), .val (.int (Int32.ofNat (i + 1 + 1))), .unset, .val (.long (own_pk (i + 1 + 1) (8))), .second] [(.ref a1), (.int (Int32.ofNat (i + 1 + 1))), (.ref a1)])) rfl rfl (hb hby d4_147)
  refine own_to T113 (mkF m 151 #[.val (.ref a1), .val (.int (Int32.ofNat (i + 1 + 1))), .unset, .val (.long (own_pk (i + 1 + 1) (8))), .second] [(.int ((Int32.ofNat (i + 1 + 1)) - (Int32.ofNat (i + 1 + 1)))), (.ref a1)]) (fun tq kq => st113 _ (XS.isub X113.here hx rfl (hb hby d4_150) rfl kq)) ?_
  rw [show ((Int32.ofNat (i + 1 + 1)) - (Int32.ofNat (i + 1 + 1))) = (0 : Int32) from by rw [own_subn (i + 1 + 1) (i + 1 + 1) (by omega) (by omega), Nat.sub_self]; rfl]
  obtain ⟨T114, h114, X114, e114, W114, st114⟩ := putF X113 hx hZ hown (host := "") (Or.inl (own_w hw 68 rfl)) Via.refl e113 f110 f101 (Or.inl (own_w hw 69 rfl)) (own_w hw 2 rfl) (ty := .int) (by decide) rfl rfl (g := (mkF m 151 #[.val (.ref a1), .val (.int (Int32.ofNat (i + 1 + 1))), .unset, .val (.long (own_pk (i + 1 + 1) (8))), .second] [(.int (0 : Int32)), (.ref a1)])) rfl rfl (hb hby d4_151)
  have f115 := f101.wr W114
  have f116 := f102.other W114 (Or.inr (sn_packed_length hw))
  have f117 := f103.other W114 (Or.inr (sn_to_length hw))
  have f118 := f104.other W114 (Or.inr (sn_at_length hw))
  have f119 := f105.other W114 (Or.inr (sn_left_length hw))
  have f120 := f106.other W114 (Or.inr (sn_text_length hw))
  have f121 := f107.other W114 (Or.inr (sn_textEnd_length hw))
  have f122 := f108.other W114 (Or.inr (sn_literals_length hw))
  have f123 := f109.other W114 (Or.inr (sn_index_length hw))
  have f124 := f112.other W114 (Or.inr (sn_offset_length hw))
  have f125 := f111.other W114 (Ne.symm hne)
  have f126 := f110.same W114
  have N114 := Fr.snoc X114 N100 g_a1
  have Zs114 : n0 ≤ h114.size := by rw [W114.size]; exact Zs100
  have K114 := K100.wr W114 (Or.inl (List.mem_of_getElem? (i := 0) rfl))
  refine own_to T114 (mkF m 157 #[.val (.ref a1), .val (.int (Int32.ofNat (i + 1 + 1))), .unset, .val (.long (own_pk (i + 1 + 1) (8))), .second] [(.ref a1), (.int (Int32.ofNat (i + 1 + 1))), (.ref a1)]) (fun tq kq => st114 _ (XS.aloadN X114.here hx rfl (hb hby d4_154) rfl rfl (XS.iloadN X114.here hx rfl (hb hby d4_155) rfl (XS.aloadN X114.here hx rfl (hb hby d4_156) rfl rfl kq)))) ?_
  obtain ⟨T127, X127, e127, st127⟩ := getF X114 hx hZ hown (host := "") (Or.inl (own_w hw 56 rfl)) Via.refl e114 f121 (g := (mkF m 157 #[.val (.ref a1), .val (.int (Int32.ofNat (i + 1 + 1))), .unset, .val (.long (own_pk (i + 1 + 1) (8))), .second] [(.ref a1), (.int (Int32.ofNat (i + 1 + 1))), (.ref a1)])) rfl rfl (hb hby d4_157)
  refine own_to T127 (mkF m 166 #[.val (.ref a1), .val (.int (Int32.ofNat (i + 1 + 1))), .unset, .val (.long (own_pk (i + 1 + 1) (8))), .second] [(.int ((Int32.ofNat (i + 1 + 1)) + (1 : Int32))), (.ref a1)]) (fun tq kq => st127 _ (XS.icmpNo X127.here hx rfl (hb hby d4_160) rfl (tlt ((own_ltn (by omega) (by omega)).mpr hlt)).2.1 (XS.iloadN X127.here hx rfl (hb hby d4_163) rfl (XS.iconst X127.here hx rfl (hb hby d4_164) (XS.iadd X127.here hx rfl (hb hby d4_165) rfl kq))))) ?_
  rw [show ((Int32.ofNat (i + 1 + 1)) + (1 : Int32)) = (Int32.ofNat (i + 1 + 1 + 1)) from own_addn (i + 1 + 1) 1 (by omega) (by decide)]
  refine own_to T127 (mkF m 170 #[.val (.ref a1), .val (.int (Int32.ofNat (i + 1 + 1))), .unset, .val (.long (own_pk (i + 1 + 1) (8))), .second] [(.int (Int32.ofNat (i + 1 + 1 + 1))), (.ref a1)]) (fun tq kq => XS.goto X127.here hx rfl (pc0 := 166) (pc' := 170) rfl (hb hby d4_166) (by decide) (by decide) kq) ?_
  obtain ⟨T128, h128, X128, e128, W128, st128⟩ := putF X127 hx hZ hown (host := "") (Or.inl (own_w hw 19 rfl)) Via.refl e127 f118 f115 (Or.inl (own_w hw 20 rfl)) (own_w hw 2 rfl) (ty := .int) (by decide) rfl rfl (g := (mkF m 170 #[.val (.ref a1), .val (.int (Int32.ofNat (i + 1 + 1))), .unset, .val (.long (own_pk (i + 1 + 1) (8))), .second] [(.int (Int32.ofNat (i + 1 + 1 + 1))), (.ref a1)])) rfl rfl (hb hby d4_170)
  have f129 := f115.wr W128
  have f130 := f116.other W128 (Or.inr (sn_packed_at hw))
  have f131 := f117.other W128 (Or.inr (sn_to_at hw))
  have f132 := f119.other W128 (Or.inr (sn_left_at hw))
  have f133 := f120.other W128 (Or.inr (sn_text_at hw))
  have f134 := f121.other W128 (Or.inr (sn_textEnd_at hw))
  have f135 := f122.other W128 (Or.inr (sn_literals_at hw))
  have f136 := f123.other W128 (Or.inr (sn_index_at hw))
  have f137 := f124.other W128 (Or.inr (sn_offset_at hw))
  have f138 := f126.other W128 (Or.inr (sn_length_at hw))
  have f139 := f125.other W128 (Ne.symm hne)
  have f140 := f118.same W128
  have N128 := Fr.snoc X128 N114 g_a1
  have Zs128 : n0 ≤ h128.size := by rw [W128.size]; exact Zs114
  have K128 := K114.wr W128 (Or.inl (List.mem_of_getElem? (i := 0) rfl))
  refine own_to T128 (mkF m 218 #[.val (.ref a1), .val (.int (Int32.ofNat (i + 1 + 1))), .unset, .val (.long (own_pk (i + 1 + 1) (8))), .second] [(.ref a1), (.ref a1)]) (fun tq kq => st128 _ (XS.goto X128.here hx rfl (pc0 := 173) (pc' := 216) rfl (hb hby d4_173) (by decide) (by decide) (XS.aloadN X128.here hx rfl (hb hby d4_216) rfl rfl (XS.dup X128.here hx rfl (hb hby d4_217) rfl rfl kq)))) ?_
  obtain ⟨T141, X141, e141, st141⟩ := getF X128 hx hZ hown (host := "") (Or.inl (own_w hw 21 rfl)) Via.refl e128 f132 (g := (mkF m 218 #[.val (.ref a1), .val (.int (Int32.ofNat (i + 1 + 1))), .unset, .val (.long (own_pk (i + 1 + 1) (8))), .second] [(.ref a1), (.ref a1)])) rfl rfl (hb hby d4_218)
  refine own_to T141 (mkF m 223 #[.val (.ref a1), .val (.int (Int32.ofNat (i + 1 + 1))), .unset, .val (.long (own_pk (i + 1 + 1) (8))), .second] [(.int ((Int32.ofNat (9)) - (1 : Int32))), (.ref a1)]) (fun tq kq => st141 _ (XS.iconst X141.here hx rfl (hb hby d4_221) (XS.isub X141.here hx rfl (hb hby d4_222) rfl kq))) ?_
  rw [show ((Int32.ofNat (9)) - (1 : Int32)) = (Int32.ofNat (9 - 1)) from own_subn 9 1 (by omega) (by omega)]
  obtain ⟨T142, h142, X142, e142, W142, st142⟩ := putF X141 hx hZ hown (host := "") (Or.inl (own_w hw 21 rfl)) Via.refl e141 f132 f129 (Or.inl (own_w hw 22 rfl)) (own_w hw 2 rfl) (ty := .int) (by decide) rfl rfl (g := (mkF m 223 #[.val (.ref a1), .val (.int (Int32.ofNat (i + 1 + 1))), .unset, .val (.long (own_pk (i + 1 + 1) (8))), .second] [(.int (Int32.ofNat (9 - 1))), (.ref a1)])) rfl rfl (hb hby d4_223)
  have f143 := f129.wr W142
  have f144 := f130.other W142 (Or.inr (sn_packed_left hw))
  have f145 := f131.other W142 (Or.inr (sn_to_left hw))
  have f146 := f140.other W142 (Or.inr (sn_at_left hw))
  have f147 := f133.other W142 (Or.inr (sn_text_left hw))
  have f148 := f134.other W142 (Or.inr (sn_textEnd_left hw))
  have f149 := f135.other W142 (Or.inr (sn_literals_left hw))
  have f150 := f136.other W142 (Or.inr (sn_index_left hw))
  have f151 := f137.other W142 (Or.inr (sn_offset_left hw))
  have f152 := f138.other W142 (Or.inr (sn_length_left hw))
  have f153 := f139.other W142 (Ne.symm hne)
  have f154 := f132.same W142
  have N142 := Fr.snoc X142 N128 g_a1
  have Zs142 : n0 ≤ h142.size := by rw [W142.size]; exact Zs128
  have K142 := K128.wr W142 (Or.inl (List.mem_of_getElem? (i := 0) rfl))
  refine own_to T142 (mkF m 228 #[.val (.ref a1), .val (.int (Int32.ofNat (i + 1 + 1))), .unset, .val (.long (own_pk (i + 1 + 1) (8))), .second] [(.ref a1), (.ref a1)]) (fun tq kq => st142 _ (XS.aloadN X142.here hx rfl (hb hby d4_226) rfl rfl (XS.dup X142.here hx rfl (hb hby d4_227) rfl rfl kq))) ?_
  obtain ⟨T155, X155, e155, st155⟩ := getF X142 hx hZ hown (host := "") (Or.inl (own_w hw 61 rfl)) Via.refl e142 f150 (g := (mkF m 228 #[.val (.ref a1), .val (.int (Int32.ofNat (i + 1 + 1))), .unset, .val (.long (own_pk (i + 1 + 1) (8))), .second] [(.ref a1), (.ref a1)])) rfl rfl (hb hby d4_228)
  refine own_to T155 (mkF m 233 #[.val (.ref a1), .val (.int (Int32.ofNat (i + 1 + 1))), .unset, .val (.long (own_pk (i + 1 + 1) (8))), .second] [(.int ((-1 : Int32) + (1 : Int32))), (.ref a1)]) (fun tq kq => st155 _ (XS.iconst X155.here hx rfl (hb hby d4_231) (XS.iadd X155.here hx rfl (hb hby d4_232) rfl kq))) ?_
  rw [show ((-1 : Int32) + (1 : Int32)) = (Int32.ofNat (0)) from by decide]
  obtain ⟨T156, h156, X156, e156, W156, st156⟩ := putF X155 hx hZ hown (host := "") (Or.inl (own_w hw 61 rfl)) Via.refl e155 f150 f143 (Or.inl (own_w hw 62 rfl)) (own_w hw 2 rfl) (ty := .int) (by decide) rfl rfl (g := (mkF m 233 #[.val (.ref a1), .val (.int (Int32.ofNat (i + 1 + 1))), .unset, .val (.long (own_pk (i + 1 + 1) (8))), .second] [(.int (Int32.ofNat (0))), (.ref a1)])) rfl rfl (hb hby d4_233)
  have f157 := f143.wr W156
  have f158 := f144.other W156 (Or.inr (sn_packed_index hw))
  have f159 := f145.other W156 (Or.inr (sn_to_index hw))
  have f160 := f146.other W156 (Or.inr (sn_at_index hw))
  have f161 := f154.other W156 (Or.inr (sn_left_index hw))
  have f162 := f147.other W156 (Or.inr (sn_text_index hw))
  have f163 := f148.other W156 (Or.inr (sn_textEnd_index hw))
  have f164 := f149.other W156 (Or.inr (sn_literals_index hw))
  have f165 := f151.other W156 (Or.inr (sn_offset_index hw))
  have f166 := f152.other W156 (Or.inr (sn_length_index hw))
  have f167 := f153.other W156 (Ne.symm hne)
  have f168 := f150.same W156
  have N156 := Fr.snoc X156 N142 g_a1
  have Zs156 : n0 ≤ h156.size := by rw [W156.size]; exact Zs142
  have K156 := K142.wr W156 (Or.inl (List.mem_of_getElem? (i := 0) rfl))
  refine own_to T156 (mkF m 237 #[.val (.ref a1), .val (.int (Int32.ofNat (i + 1 + 1))), .unset, .val (.long (own_pk (i + 1 + 1) (8))), .second] [(.int (1 : Int32))]) (fun tq kq => st156 _ (XS.iconst X156.here hx rfl (hb hby d4_236) kq)) ?_
  exact own_retZ X156 hx hret hlk (hb hby d4_237) (by decide) (by decide) (Or.inr rfl) (by rw [e156]; exact ⟨rfl, N156, K156, _, _, ⟨f157, f158, f159, f160, f161, f162, f163, f164, f168, f165, f166⟩⟩)
def Q_rm_next011 (Z : State) (a1 pk : Addr) (f : Nat → Int32) (i e' : Nat) (u4 u5 u6 u7 u8 u9 : Int32) (h0 : Heap) (n0 : Nat) (v : Option Value) (h : Heap) (L : List Loc) : Prop := v = some (.int (1 : Int32)) ∧ Fr n0 L ∧ Keep h0 h [a1] ∧ ∃ o' l', Cur Z h a1 (.ref pk) (Int32.ofNat e') (Int32.ofNat (i + 1 + 1 + 2 + 1)) (Int32.ofNat (9 - 1)) (1 : Int32) (Int32.ofNat (i + 1 + 1 + 2 + 8)) (Int32.ofNat (i + 1 + 1 + 2 - 2)) (Int32.ofNat (0)) o' l'
set_option maxRecDepth 65536 in
set_option maxHeartbeats 40000000 in
theorem rm_next011 (l : Launch) (Z : State) (a0 : Array Value) (hw : ∀ d ∈ tables_1, d.before a0 Z = true) (ws : List Jvm.Cond) (a1 pk : Addr) (f : Nat → Int32) (i e' : Nat) (u4 u5 u6 u7 u8 u9 : Int32) (h0 : Heap) (n0 : Nat) (Z0 : n0 ≤ h0.size) (U : Cur Z h0 a1 (.ref pk) (Int32.ofNat e') (Int32.ofNat i) (0 : Int32) u4 u5 u6 u7 u8 u9) (hne : a1 ≠ pk) (g_a1 : n0 ≤ a1) (A : BArr Z h0 pk 20 f) (hi : i < 4) (hie : i < e') (he : e' < 20) (hf0 : f i = Int32.ofNat 39) (hf1 : f (i + 1) = Int32.ofNat 8) (hfc : i + 1 + 1 + 2 < i + 1 + 1 + 2 + 8 → f (i + 1 + 1 + 2) = (44 : Int32)) :
    MetFree l (⟨"com/example/warmjoin/warmjoin/PackedFields$Cursor", "next", "()Z"⟩ : MethodName) (head1 (Jvm.Cond.code (⟨"com/example/warmjoin/warmjoin/PackedFields$Cursor", "next", "()Z"⟩ : MethodName) prog_100_method_3_code 5 (some .boolean) :: ws) ({ frames := 2, cells := 0, slots := 0, locals := 38 } : Room)) (fun a U => a = #[(.ref a1)] ∧ Z.Warmed39 U.vm ∧ U.heap = h0) (fun _ _ _ _ _ => True) (fun _ U o U' => ∃ v L, o = .returned v ∧ Q_rm_next011 Z a1 pk f i e' u4 u5 u6 u7 u8 u9 h0 n0 v U'.heap L ∧ FrameEnd U o U' L ({ frames := 2, cells := 0, slots := 0, locals := 38 } : Room).cells ({ frames := 2, cells := 0, slots := 0, locals := 38 } : Room).slots) := by
  refine own_met (y := (⟨"com/example/warmjoin/warmjoin/PackedFields$Cursor", "next", "()Z"⟩ : MethodName)) (Q := (Q_rm_next011 Z a1 pk f i e' u4 u5 u6 u7 u8 u9 h0 n0)) (plainFor_of_name pn_1) fun p e s m below meth c s₁ X0 hx hby hml hret hlk hown hnm hZ e0 => ?_
  refine own_entry (ef_4_R m a1) ?_
  obtain ⟨E1, F0, F1, F2, F3, F4, F5, F6, F7, F8, F9⟩ := U
  have K0 := Keep.refl h0 [a1]
  have hlt : i + 1 + 1 + 2 < i + 1 + 1 + 2 + 8 := by omega
  refine own_to s₁ (mkF m 1 #[.val (.ref a1), .unset, .unset, .unset, .unset] [(.ref a1)]) (fun tq kq => XS.aloadN X0.here hx rfl (hb hby d4_0) rfl rfl kq) ?_
  obtain ⟨T1, X1, e1, st1⟩ := getF X0 hx hZ hown (host := "") (Or.inl (own_w hw 21 rfl)) Via.refl e0 F3 (g := (mkF m 1 #[.val (.ref a1), .unset, .unset, .unset, .unset] [(.ref a1)])) rfl rfl (hb hby d4_1)
  refine own_to T1 (mkF m 8 #[.val (.ref a1), .unset, .unset, .unset, .unset] [(.ref a1)]) (fun tq kq => st1 _ (XS.ifNo X1.here hx rfl (hb hby d4_4) rfl ((if0 _ _).trans (teq (by decide : (0 : Int32) = (0 : Int32))).2) (XS.aloadN X1.here hx rfl (hb hby d4_7) rfl rfl kq))) ?_
  obtain ⟨T2, X2, e2, st2⟩ := getF X1 hx hZ hown (host := "") (Or.inl (own_w hw 19 rfl)) Via.refl e1 F2 (g := (mkF m 8 #[.val (.ref a1), .unset, .unset, .unset, .unset] [(.ref a1)])) rfl rfl (hb hby d4_8)
  refine own_to T2 (mkF m 12 #[.val (.ref a1), .unset, .unset, .unset, .unset] [(.ref a1), (.int (Int32.ofNat i))]) (fun tq kq => st2 _ (XS.aloadN X2.here hx rfl (hb hby d4_11) rfl rfl kq)) ?_
  obtain ⟨T3, X3, e3, st3⟩ := getF X2 hx hZ hown (host := "") (Or.inl (own_w hw 17 rfl)) Via.refl e2 F1 (g := (mkF m 12 #[.val (.ref a1), .unset, .unset, .unset, .unset] [(.ref a1), (.int (Int32.ofNat i))])) rfl rfl (hb hby d4_12)
  refine own_to T3 (mkF m 21 #[.val (.ref a1), .unset, .unset, .unset, .unset] [(.ref a1)]) (fun tq kq => st3 _ (XS.icmpYes X3.here hx rfl (pc0 := 15) (pc' := 20) rfl (hb hby d4_15) rfl (tlt ((own_ltn (by omega) (by omega)).mpr hie)).1 (by decide) (by decide) (XS.aloadN X3.here hx rfl (hb hby d4_20) rfl rfl kq))) ?_
  obtain ⟨T4, X4, e4, st4⟩ := getF X3 hx hZ hown (host := "") (Or.inl (own_w hw 15 rfl)) Via.refl e3 F0 (g := (mkF m 21 #[.val (.ref a1), .unset, .unset, .unset, .unset] [(.ref a1)])) rfl rfl (hb hby d4_21)
  refine own_to T4 (mkF m 25 #[.val (.ref a1), .unset, .unset, .unset, .unset] [(.ref a1), (.ref pk)]) (fun tq kq => st4 _ (XS.aloadN X4.here hx rfl (hb hby d4_24) rfl rfl kq)) ?_
  obtain ⟨T5, X5, e5, st5⟩ := getF X4 hx hZ hown (host := "") (Or.inl (own_w hw 19 rfl)) Via.refl e4 F2 (g := (mkF m 25 #[.val (.ref a1), .unset, .unset, .unset, .unset] [(.ref a1), (.ref pk)])) rfl rfl (hb hby d4_25)
  refine own_to T5 (mkF m 28 #[.val (.ref a1), .unset, .unset, .unset, .unset] [(.int (Int32.ofNat i)), (.ref pk)]) (fun tq kq => st5 _ kq) ?_
  obtain ⟨_, _, ⟨T6, L6, k6, n6⟩, -, X6, ⟨Lc6, hQ6, l6, y6, z6⟩, st6⟩ := callSN X5 hx (y := (⟨"com/example/warmjoin/warmjoin/PackedFields", "number", "([BI)J"⟩ : MethodName)) hown (own_mvMN hZ (own_w hw 28 rfl)) (mvT hZ (own_w hw 29 rfl)) (mvT hZ (own_w hw 30 rfl)) (mvT hZ (own_w hw 31 rfl)) (by decide) (backOf (W := 0) (rm_number l Z a0 hw [] pk f (i) (39) h0 n0 Z0 A (by omega) hf0 (by omega)) hZ (own_w hw 31 rfl) (own_w hw 30 rfl) (by decide) (by decide)) (g := (mkF m 28 #[.val (.ref a1), .unset, .unset, .unset, .unset] [(.int (Int32.ofNat i)), (.ref pk)])) rfl (by rw [hml]; rfl) (argsL := [(.ref pk), (.int (Int32.ofNat i))]) (rest := []) (lenOf pd_3 rfl) rfl (by show 2 * 0 + _ ≤ _; exact Nat.le_of_eq rfl) (hb hby d4_28) (fun _ _ => ⟨rfl, e5, (by decide : 0 + 0 ≤ _), (by decide : 0 + 0 ≤ _)⟩)
  dsimp only [Pt.U, Pt.locs, Pt.cells, Pt.slots] at X6 l6 y6 z6 st6 hQ6
  have l6y := l6.symm
  clear l6
  subst l6y
  obtain rfl : k6 = 0 := y6
  obtain rfl : n6 = 0 := z6
  obtain ⟨rfl, N6q, e6⟩ := hQ6
  have N6 := Fr.app (Fr.nil n0) N6q
  refine own_to T6 (mkF m 33 #[.val (.ref a1), .val (.long (own_pk (i + 1) (39))), .second, .unset, .unset] [(.ref a1)]) (fun tq kq => st6.trans (XS.lstoreN X6.here hx rfl (hb hby d4_31) rfl (l' := #[.val (.ref a1), .val (.long (own_pk (i + 1) (39))), .second, .unset, .unset]) rfl (XS.aloadN X6.here hx rfl (hb hby d4_32) rfl rfl kq))) ?_
  obtain ⟨T7, X7, e7, st7⟩ := getF X6 hx hZ hown (host := "") (Or.inl (own_w hw 15 rfl)) Via.refl e6 F0 (g := (mkF m 33 #[.val (.ref a1), .val (.long (own_pk (i + 1) (39))), .second, .unset, .unset] [(.ref a1)])) rfl rfl (hb hby d4_33)
  refine own_to T7 (mkF m 37 #[.val (.ref a1), .val (.long (own_pk (i + 1) (39))), .second, .unset, .unset] [(.long (own_pk (i + 1) (39))), (.ref pk)]) (fun tq kq => st7 _ (XS.lloadN X7.here hx rfl (hb hby d4_36) rfl kq)) ?_
  obtain ⟨_, _, ⟨T8, L8, k8, n8⟩, -, X8, ⟨Lc8, hQ8, l8, y8, z8⟩, st8⟩ := callSN X7 hx (y := (⟨"com/example/warmjoin/warmjoin/PackedFields", "body", "([BJ)J"⟩ : MethodName)) hown (own_mvMN hZ (own_w hw 33 rfl)) (mvT hZ (own_w hw 34 rfl)) (mvT hZ (own_w hw 30 rfl)) (mvT hZ (own_w hw 35 rfl)) (by decide) (backOf (W := 0) (rm_body11 l Z a0 hw [] pk f (i + 1) h0 n0 Z0 A (by omega) hf1) hZ (own_w hw 35 rfl) (own_w hw 30 rfl) (by decide) (by decide)) (g := (mkF m 37 #[.val (.ref a1), .val (.long (own_pk (i + 1) (39))), .second, .unset, .unset] [(.long (own_pk (i + 1) (39))), (.ref pk)])) rfl (by rw [hml]; rfl) (argsL := [(.ref pk), (.long (own_pk (i + 1) (39)))]) (rest := []) (lenOf pd_4 rfl) rfl (by show 2 * 0 + _ ≤ _; exact Nat.le_of_eq rfl) (hb hby d4_37) (fun _ _ => ⟨rfl, e7, (by decide : 0 + 0 ≤ _), (by decide : 0 + 0 ≤ _)⟩)
  dsimp only [Pt.U, Pt.locs, Pt.cells, Pt.slots] at X8 l8 y8 z8 st8 hQ8
  have l8y := l8.symm
  clear l8
  subst l8y
  obtain rfl : k8 = 0 := y8
  obtain rfl : n8 = 0 := z8
  obtain ⟨rfl, N8q, e8⟩ := hQ8
  have N8 := Fr.app N6 N8q
  refine own_to T8 (mkF m 43 #[.val (.ref a1), .val (.long (own_pk (i + 1) (39))), .second, .val (.long (own_pk (i + 1 + 1 + 2) (8))), .second] [(.long (own_pk (i + 1) (39))), (.ref a1)]) (fun tq kq => st8.trans (XS.lstoreN X8.here hx rfl (hb hby d4_40) rfl (l' := #[.val (.ref a1), .val (.long (own_pk (i + 1) (39))), .second, .val (.long (own_pk (i + 1 + 1 + 2) (8))), .second]) rfl (XS.aloadN X8.here hx rfl (hb hby d4_41) rfl rfl (XS.lloadN X8.here hx rfl (hb hby d4_42) rfl kq)))) ?_
  obtain ⟨_, _, ⟨T9, L9, k9, n9⟩, -, X9, ⟨Lc9, hQ9, l9, y9, z9⟩, st9⟩ := callSN X8 hx (y := (⟨"com/example/warmjoin/warmjoin/PackedFields", "fieldsOf", "(J)I"⟩ : MethodName)) hown (own_mvMN hZ (own_w hw 46 rfl)) (mvT hZ (own_w hw 47 rfl)) (mvT hZ (own_w hw 30 rfl)) (mvT hZ (own_w hw 48 rfl)) (by decide) (backOf (W := 1) (rm_fieldsOf l Z a0 hw [] (i + 1) (39) h0 n0 Z0 (by omega) (by omega)) hZ (own_w hw 48 rfl) (own_w hw 30 rfl) (by decide) (by decide)) (g := (mkF m 43 #[.val (.ref a1), .val (.long (own_pk (i + 1) (39))), .second, .val (.long (own_pk (i + 1 + 1 + 2) (8))), .second] [(.long (own_pk (i + 1) (39))), (.ref a1)])) rfl (by rw [hml]; rfl) (argsL := [(.long (own_pk (i + 1) (39)))]) (rest := [(.ref a1)]) (lenOf pd_6 rfl) rfl (by show 2 * 0 + _ ≤ _; exact Nat.le_of_eq rfl) (hb hby d4_43) (fun _ _ => ⟨rfl, e8, (by decide : 0 + 0 ≤ _), (by decide : 0 + 0 ≤ _)⟩)
  dsimp only [Pt.U, Pt.locs, Pt.cells, Pt.slots] at X9 l9 y9 z9 st9 hQ9
  have l9y := l9.symm
  clear l9
  subst l9y
  obtain rfl : k9 = 0 := y9
  obtain rfl : n9 = 0 := z9
  obtain ⟨rfl, N9q, e9⟩ := hQ9
  have N9 := Fr.app N8 N9q
  refine own_to T9 (mkF m 46 #[.val (.ref a1), .val (.long (own_pk (i + 1) (39))), .second, .val (.long (own_pk (i + 1 + 1 + 2) (8))), .second] [(.int (Int32.ofNat (39 / 4))), (.ref a1)]) (fun tq kq => st9.trans kq) ?_
  rw [show (Int32.ofNat (39 / 4)) = (Int32.ofNat (9)) from rfl]
  obtain ⟨T10, h10, X10, e10, W10, st10⟩ := putF X9 hx hZ hown (host := "") (Or.inl (own_w hw 21 rfl)) Via.refl e9 F3 E1 (Or.inl (own_w hw 22 rfl)) (own_w hw 2 rfl) (ty := .int) (by decide) rfl rfl (g := (mkF m 46 #[.val (.ref a1), .val (.long (own_pk (i + 1) (39))), .second, .val (.long (own_pk (i + 1 + 1 + 2) (8))), .second] [(.int (Int32.ofNat (9))), (.ref a1)])) rfl rfl (hb hby d4_46)
  have f11 := E1.wr W10
  have f12 := F0.other W10 (Or.inr (sn_packed_left hw))
  have f13 := F1.other W10 (Or.inr (sn_to_left hw))
  have f14 := F2.other W10 (Or.inr (sn_at_left hw))
  have f15 := F4.other W10 (Or.inr (sn_text_left hw))
  have f16 := F5.other W10 (Or.inr (sn_textEnd_left hw))
  have f17 := F6.other W10 (Or.inr (sn_literals_left hw))
  have f18 := F7.other W10 (Or.inr (sn_index_left hw))
  have f19 := F8.other W10 (Or.inr (sn_offset_left hw))
  have f20 := F9.other W10 (Or.inr (sn_length_left hw))
  have f21 := A.other W10 (Ne.symm hne)
  have f22 := F3.same W10
  have N10 := Fr.snoc X10 N9 g_a1
  have Zs10 : n0 ≤ h10.size := by rw [W10.size]; exact Z0
  have K10 := K0.wr W10 (Or.inl (List.mem_of_getElem? (i := 0) rfl))
  refine own_to T10 (mkF m 51 #[.val (.ref a1), .val (.long (own_pk (i + 1) (39))), .second, .val (.long (own_pk (i + 1 + 1 + 2) (8))), .second] [(.long (own_pk (i + 1 + 1 + 2) (8))), (.ref a1)]) (fun tq kq => st10 _ (XS.aloadN X10.here hx rfl (hb hby d4_49) rfl rfl (XS.lloadN X10.here hx rfl (hb hby d4_50) rfl kq))) ?_
  obtain ⟨_, _, ⟨T23, L23, k23, n23⟩, -, X23, ⟨Lc23, hQ23, l23, y23, z23⟩, st23⟩ := Jvm.LawKit.callS X10 hx (y := (⟨"com/example/warmjoin/warmjoin/PackedFields", "start", "(J)I"⟩ : MethodName)) hown (mvT hZ (own_w hw 49 rfl)) (mvT hZ (own_w hw 40 rfl)) (mvT hZ (own_w hw 30 rfl)) (mvT hZ (own_w hw 41 rfl)) (by decide) (backOf (W := 1) (rm_start l Z a0 hw [] (i + 1 + 1 + 2) (8) h10 n0 Zs10 (by omega) (by omega)) hZ (own_w hw 41 rfl) (own_w hw 30 rfl) (by decide) (by decide)) (g := (mkF m 51 #[.val (.ref a1), .val (.long (own_pk (i + 1) (39))), .second, .val (.long (own_pk (i + 1 + 1 + 2) (8))), .second] [(.long (own_pk (i + 1 + 1 + 2) (8))), (.ref a1)])) rfl (by rw [hml]; rfl) (argsL := [(.long (own_pk (i + 1 + 1 + 2) (8)))]) (rest := [(.ref a1)]) (lenOf pd_6 rfl) rfl (by show 2 * 0 + _ ≤ _; exact Nat.le_of_eq rfl) (hb hby d4_51) (fun _ _ => ⟨rfl, e10, (by decide : 0 + 0 ≤ _), (by decide : 0 + 0 ≤ _)⟩)
  dsimp only [Pt.U, Pt.locs, Pt.cells, Pt.slots] at X23 l23 y23 z23 st23 hQ23
  have l23y := l23.symm
  clear l23
  subst l23y
  obtain rfl : k23 = 0 := y23
  obtain rfl : n23 = 0 := z23
  obtain ⟨rfl, N23q, e23⟩ := hQ23
  have N23 := Fr.app N10 N23q
  refine own_to T23 (mkF m 54 #[.val (.ref a1), .val (.long (own_pk (i + 1) (39))), .second, .val (.long (own_pk (i + 1 + 1 + 2) (8))), .second] [(.int (Int32.ofNat (i + 1 + 1 + 2))), (.ref a1)]) (fun tq kq => st23 _ kq) ?_
  obtain ⟨T24, h24, X24, e24, W24, st24⟩ := putF X23 hx hZ hown (host := "") (Or.inl (own_w hw 19 rfl)) Via.refl e23 f14 f11 (Or.inl (own_w hw 20 rfl)) (own_w hw 2 rfl) (ty := .int) (by decide) rfl rfl (g := (mkF m 54 #[.val (.ref a1), .val (.long (own_pk (i + 1) (39))), .second, .val (.long (own_pk (i + 1 + 1 + 2) (8))), .second] [(.int (Int32.ofNat (i + 1 + 1 + 2))), (.ref a1)])) rfl rfl (hb hby d4_54)
  have f25 := f11.wr W24
  have f26 := f12.other W24 (Or.inr (sn_packed_at hw))
  have f27 := f13.other W24 (Or.inr (sn_to_at hw))
  have f28 := f22.other W24 (Or.inr (sn_left_at hw))
  have f29 := f15.other W24 (Or.inr (sn_text_at hw))
  have f30 := f16.other W24 (Or.inr (sn_textEnd_at hw))
  have f31 := f17.other W24 (Or.inr (sn_literals_at hw))
  have f32 := f18.other W24 (Or.inr (sn_index_at hw))
  have f33 := f19.other W24 (Or.inr (sn_offset_at hw))
  have f34 := f20.other W24 (Or.inr (sn_length_at hw))
  have f35 := f21.other W24 (Ne.symm hne)
  have f36 := f14.same W24
  have N24 := Fr.snoc X24 N23 g_a1
  have Zs24 : n0 ≤ h24.size := by rw [W24.size]; exact Zs10
  have K24 := K10.wr W24 (Or.inl (List.mem_of_getElem? (i := 0) rfl))
  refine own_to T24 (mkF m 59 #[.val (.ref a1), .val (.long (own_pk (i + 1) (39))), .second, .val (.long (own_pk (i + 1 + 1 + 2) (8))), .second] [(.long (own_pk (i + 1) (39))), (.ref a1)]) (fun tq kq => st24 _ (XS.aloadN X24.here hx rfl (hb hby d4_57) rfl rfl (XS.lloadN X24.here hx rfl (hb hby d4_58) rfl kq))) ?_
  obtain ⟨_, _, ⟨T37, L37, k37, n37⟩, -, X37, ⟨Lc37, hQ37, l37, y37, z37⟩, st37⟩ := callSN X24 hx (y := (⟨"com/example/warmjoin/warmjoin/PackedFields", "isText", "(J)Z"⟩ : MethodName)) hown (own_mvMN hZ (own_w hw 50 rfl)) (mvT hZ (own_w hw 37 rfl)) (mvT hZ (own_w hw 30 rfl)) (mvT hZ (own_w hw 38 rfl)) (by decide) (backOf (W := 1) (rm_isText l Z a0 hw [] (i + 1) (39) h24 n0 Zs24 (by omega) (by omega)) hZ (own_w hw 38 rfl) (own_w hw 30 rfl) (by decide) (by decide)) (g := (mkF m 59 #[.val (.ref a1), .val (.long (own_pk (i + 1) (39))), .second, .val (.long (own_pk (i + 1 + 1 + 2) (8))), .second] [(.long (own_pk (i + 1) (39))), (.ref a1)])) rfl (by rw [hml]; rfl) (argsL := [(.long (own_pk (i + 1) (39)))]) (rest := [(.ref a1)]) (lenOf pd_5 rfl) rfl (by show 2 * 0 + _ ≤ _; exact Nat.le_of_eq rfl) (hb hby d4_59) (fun _ _ => ⟨rfl, e24, (by decide : 0 + 0 ≤ _), (by decide : 0 + 0 ≤ _)⟩)
  dsimp only [Pt.U, Pt.locs, Pt.cells, Pt.slots] at X37 l37 y37 z37 st37 hQ37
  have l37y := l37.symm
  clear l37
  subst l37y
  obtain rfl : k37 = 0 := y37
  obtain rfl : n37 = 0 := z37
  obtain ⟨rfl, N37q, e37⟩ := hQ37
  have N37 := Fr.app N24 N37q
  refine own_to T37 (mkF m 62 #[.val (.ref a1), .val (.long (own_pk (i + 1) (39))), .second, .val (.long (own_pk (i + 1 + 1 + 2) (8))), .second] [(.int (Int32.ofNat (39 % 2))), (.ref a1)]) (fun tq kq => st37.trans kq) ?_
  rw [show (Int32.ofNat (39 % 2)) = (1 : Int32) from rfl]
  obtain ⟨T38, h38, X38, e38, W38, st38⟩ := putFN X37 hx hZ hown (own_w hw 51 rfl) Via.refl e37 f29 f25 (Or.inl (own_w hw 52 rfl)) (own_w hw 2 rfl) (ty := .boolean) (v' := (.int (1 : Int32))) (by decide) rfl rfl (g := (mkF m 62 #[.val (.ref a1), .val (.long (own_pk (i + 1) (39))), .second, .val (.long (own_pk (i + 1 + 1 + 2) (8))), .second] [(.int (1 : Int32)), (.ref a1)])) rfl rfl (hb hby d4_62)
  have f39 := f25.wr W38
  have f40 := f26.other W38 (Or.inr (sn_packed_text hw))
  have f41 := f27.other W38 (Or.inr (sn_to_text hw))
  have f42 := f36.other W38 (Or.inr (sn_at_text hw))
  have f43 := f28.other W38 (Or.inr (sn_left_text hw))
  have f44 := f30.other W38 (Or.inr (sn_textEnd_text hw))
  have f45 := f31.other W38 (Or.inr (sn_literals_text hw))
  have f46 := f32.other W38 (Or.inr (sn_index_text hw))
  have f47 := f33.other W38 (Or.inr (sn_offset_text hw))
  have f48 := f34.other W38 (Or.inr (sn_length_text hw))
  have f49 := f35.other W38 (Ne.symm hne)
  have f50 := f29.same W38
  have N38 := Fr.snoc X38 N37 g_a1
  have Zs38 : n0 ≤ h38.size := by rw [W38.size]; exact Zs24
  have K38 := K24.wr W38 (Or.inl (List.mem_of_getElem? (i := 0) rfl))
  refine own_to T38 (mkF m 67 #[.val (.ref a1), .val (.long (own_pk (i + 1) (39))), .second, .val (.long (own_pk (i + 1 + 1 + 2) (8))), .second] [(.ref a1), (.ref a1)]) (fun tq kq => st38 _ (XS.aloadN X38.here hx rfl (hb hby d4_65) rfl rfl (XS.aloadN X38.here hx rfl (hb hby d4_66) rfl rfl kq))) ?_
  obtain ⟨T51, X51, e51, st51⟩ := getF X38 hx hZ hown (host := "") (Or.inl (own_w hw 19 rfl)) Via.refl e38 f42 (g := (mkF m 67 #[.val (.ref a1), .val (.long (own_pk (i + 1) (39))), .second, .val (.long (own_pk (i + 1 + 1 + 2) (8))), .second] [(.ref a1), (.ref a1)])) rfl rfl (hb hby d4_67)
  refine own_to T51 (mkF m 71 #[.val (.ref a1), .val (.long (own_pk (i + 1) (39))), .second, .val (.long (own_pk (i + 1 + 1 + 2) (8))), .second] [(.long (own_pk (i + 1 + 1 + 2) (8))), (.int (Int32.ofNat (i + 1 + 1 + 2))), (.ref a1)]) (fun tq kq => st51 _ (XS.lloadN X51.here hx rfl (hb hby d4_70) rfl kq)) ?_
  obtain ⟨_, _, ⟨T52, L52, k52, n52⟩, -, X52, ⟨Lc52, hQ52, l52, y52, z52⟩, st52⟩ := Jvm.LawKit.callS X51 hx (y := (⟨"com/example/warmjoin/warmjoin/PackedFields", "length", "(J)I"⟩ : MethodName)) hown (mvT hZ (own_w hw 53 rfl)) (mvT hZ (own_w hw 54 rfl)) (mvT hZ (own_w hw 30 rfl)) (mvT hZ (own_w hw 55 rfl)) (by decide) (backOf (W := 2) (rm_length l Z a0 hw [] (i + 1 + 1 + 2) (8) h38 n0 Zs38 (by omega) (by omega)) hZ (own_w hw 55 rfl) (own_w hw 30 rfl) (by decide) (by decide)) (g := (mkF m 71 #[.val (.ref a1), .val (.long (own_pk (i + 1) (39))), .second, .val (.long (own_pk (i + 1 + 1 + 2) (8))), .second] [(.long (own_pk (i + 1 + 1 + 2) (8))), (.int (Int32.ofNat (i + 1 + 1 + 2))), (.ref a1)])) rfl (by rw [hml]; rfl) (argsL := [(.long (own_pk (i + 1 + 1 + 2) (8)))]) (rest := [(.int (Int32.ofNat (i + 1 + 1 + 2))), (.ref a1)]) (lenOf pd_6 rfl) rfl (by show 2 * 0 + _ ≤ _; exact Nat.le_of_eq rfl) (hb hby d4_71) (fun _ _ => ⟨rfl, e51, (by decide : 0 + 0 ≤ _), (by decide : 0 + 0 ≤ _)⟩)
  dsimp only [Pt.U, Pt.locs, Pt.cells, Pt.slots] at X52 l52 y52 z52 st52 hQ52
  have l52y := l52.symm
  clear l52
  subst l52y
  obtain rfl : k52 = 0 := y52
  obtain rfl : n52 = 0 := z52
  obtain ⟨rfl, N52q, e52⟩ := hQ52
  have N52 := Fr.app N38 N52q
  refine own_to T52 (mkF m 75 #[.val (.ref a1), .val (.long (own_pk (i + 1) (39))), .second, .val (.long (own_pk (i + 1 + 1 + 2) (8))), .second] [(.int ((Int32.ofNat (i + 1 + 1 + 2)) + (Int32.ofNat (8)))), (.ref a1)]) (fun tq kq => st52 _ (XS.iadd X52.here hx rfl (hb hby d4_74) rfl kq)) ?_
  rw [show ((Int32.ofNat (i + 1 + 1 + 2)) + (Int32.ofNat (8))) = (Int32.ofNat (i + 1 + 1 + 2 + 8)) from own_addn (i + 1 + 1 + 2) 8 (by omega) (by omega)]
  obtain ⟨T53, h53, X53, e53, W53, st53⟩ := putF X52 hx hZ hown (host := "") (Or.inl (own_w hw 56 rfl)) Via.refl e52 f44 f39 (Or.inl (own_w hw 57 rfl)) (own_w hw 2 rfl) (ty := .int) (by decide) rfl rfl (g := (mkF m 75 #[.val (.ref a1), .val (.long (own_pk (i + 1) (39))), .second, .val (.long (own_pk (i + 1 + 1 + 2) (8))), .second] [(.int (Int32.ofNat (i + 1 + 1 + 2 + 8))), (.ref a1)])) rfl rfl (hb hby d4_75)
  have f54 := f39.wr W53
  have f55 := f40.other W53 (Or.inr (sn_packed_textEnd hw))
  have f56 := f41.other W53 (Or.inr (sn_to_textEnd hw))
  have f57 := f42.other W53 (Or.inr (sn_at_textEnd hw))
  have f58 := f43.other W53 (Or.inr (sn_left_textEnd hw))
  have f59 := f50.other W53 (Or.inr (sn_text_textEnd hw))
  have f60 := f45.other W53 (Or.inr (sn_literals_textEnd hw))
  have f61 := f46.other W53 (Or.inr (sn_index_textEnd hw))
  have f62 := f47.other W53 (Or.inr (sn_offset_textEnd hw))
  have f63 := f48.other W53 (Or.inr (sn_length_textEnd hw))
  have f64 := f49.other W53 (Ne.symm hne)
  have f65 := f44.same W53
  have N53 := Fr.snoc X53 N52 g_a1
  have Zs53 : n0 ≤ h53.size := by rw [W53.size]; exact Zs38
  have K53 := K38.wr W53 (Or.inl (List.mem_of_getElem? (i := 0) rfl))
  refine own_to T53 (mkF m 80 #[.val (.ref a1), .val (.long (own_pk (i + 1) (39))), .second, .val (.long (own_pk (i + 1 + 1 + 2) (8))), .second] [(.long (own_pk (i + 1) (39))), (.ref a1)]) (fun tq kq => st53 _ (XS.aloadN X53.here hx rfl (hb hby d4_78) rfl rfl (XS.lloadN X53.here hx rfl (hb hby d4_79) rfl kq))) ?_
  obtain ⟨_, _, ⟨T66, L66, k66, n66⟩, -, X66, ⟨Lc66, hQ66, l66, y66, z66⟩, st66⟩ := callSN X53 hx (y := (⟨"com/example/warmjoin/warmjoin/PackedFields", "hasLiterals", "(J)Z"⟩ : MethodName)) hown (own_mvMN hZ (own_w hw 58 rfl)) (mvT hZ (own_w hw 44 rfl)) (mvT hZ (own_w hw 30 rfl)) (mvT hZ (own_w hw 45 rfl)) (by decide) (backOf (W := 1) (rm_hasLiterals l Z a0 hw [] (i + 1) (39) h53 n0 Zs53 (by omega) (by omega)) hZ (own_w hw 45 rfl) (own_w hw 30 rfl) (by decide) (by decide)) (g := (mkF m 80 #[.val (.ref a1), .val (.long (own_pk (i + 1) (39))), .second, .val (.long (own_pk (i + 1 + 1 + 2) (8))), .second] [(.long (own_pk (i + 1) (39))), (.ref a1)])) rfl (by rw [hml]; rfl) (argsL := [(.long (own_pk (i + 1) (39)))]) (rest := [(.ref a1)]) (lenOf pd_5 rfl) rfl (by show 2 * 0 + _ ≤ _; exact Nat.le_of_eq rfl) (hb hby d4_80) (fun _ _ => ⟨rfl, e53, (by decide : 0 + 0 ≤ _), (by decide : 0 + 0 ≤ _)⟩)
  dsimp only [Pt.U, Pt.locs, Pt.cells, Pt.slots] at X66 l66 y66 z66 st66 hQ66
  have l66y := l66.symm
  clear l66
  subst l66y
  obtain rfl : k66 = 0 := y66
  obtain rfl : n66 = 0 := z66
  obtain ⟨rfl, N66q, e66⟩ := hQ66
  have N66 := Fr.app N53 N66q
  refine own_to T66 (mkF m 83 #[.val (.ref a1), .val (.long (own_pk (i + 1) (39))), .second, .val (.long (own_pk (i + 1 + 1 + 2) (8))), .second] [(.int (Int32.ofNat (39 / 2 % 2))), (.ref a1)]) (fun tq kq => st66.trans kq) ?_
  rw [show (Int32.ofNat (39 / 2 % 2)) = (1 : Int32) from rfl]
  refine own_to T66 (mkF m 87 #[.val (.ref a1), .val (.long (own_pk (i + 1) (39))), .second, .val (.long (own_pk (i + 1 + 1 + 2) (8))), .second] [(.ref a1), (.ref a1)]) (fun tq kq => XS.ifNo X66.here hx rfl (hb hby d4_83) rfl ((if0 _ _).trans (feq (by decide : ¬ ((1 : Int32) = (0 : Int32)))).1) (XS.aloadN X66.here hx rfl (hb hby d4_86) rfl rfl kq)) ?_
  obtain ⟨T67, X67, e67, st67⟩ := getF X66 hx hZ hown (host := "") (Or.inl (own_w hw 19 rfl)) Via.refl e66 f57 (g := (mkF m 87 #[.val (.ref a1), .val (.long (own_pk (i + 1) (39))), .second, .val (.long (own_pk (i + 1 + 1 + 2) (8))), .second] [(.ref a1), (.ref a1)])) rfl rfl (hb hby d4_87)
  refine own_to T67 (mkF m 91 #[.val (.ref a1), .val (.long (own_pk (i + 1) (39))), .second, .val (.long (own_pk (i + 1 + 1 + 2) (8))), .second] [(.ref a1), (.int (Int32.ofNat (i + 1 + 1 + 2))), (.ref a1)]) (fun tq kq => st67 _ (XS.aloadN X67.here hx rfl (hb hby d4_90) rfl rfl kq)) ?_
  obtain ⟨T68, X68, e68, st68⟩ := getF X67 hx hZ hown (host := "") (Or.inl (own_w hw 21 rfl)) Via.refl e67 f58 (g := (mkF m 91 #[.val (.ref a1), .val (.long (own_pk (i + 1) (39))), .second, .val (.long (own_pk (i + 1 + 1 + 2) (8))), .second] [(.ref a1), (.int (Int32.ofNat (i + 1 + 1 + 2))), (.ref a1)])) rfl rfl (hb hby d4_91)
  refine own_to T68 (mkF m 94 #[.val (.ref a1), .val (.long (own_pk (i + 1) (39))), .second, .val (.long (own_pk (i + 1 + 1 + 2) (8))), .second] [(.int (Int32.ofNat (9))), (.int (Int32.ofNat (i + 1 + 1 + 2))), (.ref a1)]) (fun tq kq => st68 _ kq) ?_
  obtain ⟨_, _, ⟨T69, L69, k69, n69⟩, -, X69, ⟨Lc69, hQ69, l69, y69, z69⟩, st69⟩ := callSN X68 hx (y := (⟨"com/example/warmjoin/warmjoin/PackedFields", "literalBytes", "(I)I"⟩ : MethodName)) hown (own_mvMN hZ (own_w hw 79 rfl)) (mvT hZ (own_w hw 77 rfl)) (mvT hZ (own_w hw 30 rfl)) (mvT hZ (own_w hw 78 rfl)) (by decide) (backOf (W := 2) (rm_literalBytes l Z a0 hw [] (9) h53 n0 Zs53 (by omega)) hZ (own_w hw 78 rfl) (own_w hw 30 rfl) (by decide) (by decide)) (g := (mkF m 94 #[.val (.ref a1), .val (.long (own_pk (i + 1) (39))), .second, .val (.long (own_pk (i + 1 + 1 + 2) (8))), .second] [(.int (Int32.ofNat (9))), (.int (Int32.ofNat (i + 1 + 1 + 2))), (.ref a1)])) rfl (by rw [hml]; rfl) (argsL := [(.int (Int32.ofNat (9)))]) (rest := [(.int (Int32.ofNat (i + 1 + 1 + 2))), (.ref a1)]) (lenOf pd_8 rfl) rfl (by show 2 * 0 + _ ≤ _; exact Nat.le_of_eq rfl) (hb hby d4_94) (fun _ _ => ⟨rfl, e68, (by decide : 0 + 0 ≤ _), (by decide : 0 + 0 ≤ _)⟩)
  dsimp only [Pt.U, Pt.locs, Pt.cells, Pt.slots] at X69 l69 y69 z69 st69 hQ69
  have l69y := l69.symm
  clear l69
  subst l69y
  obtain rfl : k69 = 0 := y69
  obtain rfl : n69 = 0 := z69
  obtain ⟨rfl, N69q, e69⟩ := hQ69
  have N69 := Fr.app N66 N69q
  refine own_to T69 (mkF m 97 #[.val (.ref a1), .val (.long (own_pk (i + 1) (39))), .second, .val (.long (own_pk (i + 1 + 1 + 2) (8))), .second] [(.int (Int32.ofNat ((9 + 7) / 8))), (.int (Int32.ofNat (i + 1 + 1 + 2))), (.ref a1)]) (fun tq kq => st69.trans kq) ?_
  rw [show (Int32.ofNat ((9 + 7) / 8)) = (Int32.ofNat 2) from rfl]
  refine own_to T69 (mkF m 102 #[.val (.ref a1), .val (.long (own_pk (i + 1) (39))), .second, .val (.long (own_pk (i + 1 + 1 + 2) (8))), .second] [(.int ((Int32.ofNat (i + 1 + 1 + 2)) - (Int32.ofNat 2))), (.ref a1)]) (fun tq kq => XS.isub X69.here hx rfl (hb hby d4_97) rfl (XS.goto X69.here hx rfl (pc0 := 98) (pc' := 102) rfl (hb hby d4_98) (by decide) (by decide) kq)) ?_
  rw [show ((Int32.ofNat (i + 1 + 1 + 2)) - (Int32.ofNat 2)) = (Int32.ofNat (i + 1 + 1 + 2 - 2)) from own_subn (i + 1 + 1 + 2) 2 (by omega) (by omega)]
  obtain ⟨T70, h70, X70, e70, W70, st70⟩ := putF X69 hx hZ hown (host := "") (Or.inl (own_w hw 59 rfl)) Via.refl e69 f60 f54 (Or.inl (own_w hw 60 rfl)) (own_w hw 2 rfl) (ty := .int) (by decide) rfl rfl (g := (mkF m 102 #[.val (.ref a1), .val (.long (own_pk (i + 1) (39))), .second, .val (.long (own_pk (i + 1 + 1 + 2) (8))), .second] [(.int (Int32.ofNat (i + 1 + 1 + 2 - 2))), (.ref a1)])) rfl rfl (hb hby d4_102)
  have f71 := f54.wr W70
  have f72 := f55.other W70 (Or.inr (sn_packed_literals hw))
  have f73 := f56.other W70 (Or.inr (sn_to_literals hw))
  have f74 := f57.other W70 (Or.inr (sn_at_literals hw))
  have f75 := f58.other W70 (Or.inr (sn_left_literals hw))
  have f76 := f59.other W70 (Or.inr (sn_text_literals hw))
  have f77 := f65.other W70 (Or.inr (sn_textEnd_literals hw))
  have f78 := f61.other W70 (Or.inr (sn_index_literals hw))
  have f79 := f62.other W70 (Or.inr (sn_offset_literals hw))
  have f80 := f63.other W70 (Or.inr (sn_length_literals hw))
  have f81 := f64.other W70 (Ne.symm hne)
  have f82 := f60.same W70
  have N70 := Fr.snoc X70 N69 g_a1
  have Zs70 : n0 ≤ h70.size := by rw [W70.size]; exact Zs53
  have K70 := K53.wr W70 (Or.inl (List.mem_of_getElem? (i := 0) rfl))
  refine own_to T70 (mkF m 107 #[.val (.ref a1), .val (.long (own_pk (i + 1) (39))), .second, .val (.long (own_pk (i + 1 + 1 + 2) (8))), .second] [(.int (-1 : Int32)), (.ref a1)]) (fun tq kq => st70 _ (XS.aloadN X70.here hx rfl (hb hby d4_105) rfl rfl (XS.iconst X70.here hx rfl (hb hby d4_106) kq))) ?_
  obtain ⟨T83, h83, X83, e83, W83, st83⟩ := putF X70 hx hZ hown (host := "") (Or.inl (own_w hw 61 rfl)) Via.refl e70 f78 f71 (Or.inl (own_w hw 62 rfl)) (own_w hw 2 rfl) (ty := .int) (by decide) rfl rfl (g := (mkF m 107 #[.val (.ref a1), .val (.long (own_pk (i + 1) (39))), .second, .val (.long (own_pk (i + 1 + 1 + 2) (8))), .second] [(.int (-1 : Int32)), (.ref a1)])) rfl rfl (hb hby d4_107)
  have f84 := f71.wr W83
  have f85 := f72.other W83 (Or.inr (sn_packed_index hw))
  have f86 := f73.other W83 (Or.inr (sn_to_index hw))
  have f87 := f74.other W83 (Or.inr (sn_at_index hw))
  have f88 := f75.other W83 (Or.inr (sn_left_index hw))
  have f89 := f76.other W83 (Or.inr (sn_text_index hw))
  have f90 := f77.other W83 (Or.inr (sn_textEnd_index hw))
  have f91 := f82.other W83 (Or.inr (sn_literals_index hw))
  have f92 := f79.other W83 (Or.inr (sn_offset_index hw))
  have f93 := f80.other W83 (Or.inr (sn_length_index hw))
  have f94 := f81.other W83 (Ne.symm hne)
  have f95 := f78.same W83
  have N83 := Fr.snoc X83 N70 g_a1
  have Zs83 : n0 ≤ h83.size := by rw [W83.size]; exact Zs70
  have K83 := K70.wr W83 (Or.inl (List.mem_of_getElem? (i := 0) rfl))
  refine own_to T83 (mkF m 1 #[.val (.ref a1), .val (.long (own_pk (i + 1) (39))), .second, .val (.long (own_pk (i + 1 + 1 + 2) (8))), .second] [(.ref a1)]) (fun tq kq => st83 _ (XS.goto X83.here hx rfl (pc0 := 110) (pc' := 0) rfl (hb hby d4_110) (by decide) (by decide) (XS.aloadN X83.here hx rfl (hb hby d4_0) rfl rfl kq))) ?_
  obtain ⟨T96, X96, e96, st96⟩ := getF X83 hx hZ hown (host := "") (Or.inl (own_w hw 21 rfl)) Via.refl e83 f88 (g := (mkF m 1 #[.val (.ref a1), .val (.long (own_pk (i + 1) (39))), .second, .val (.long (own_pk (i + 1 + 1 + 2) (8))), .second] [(.ref a1)])) rfl rfl (hb hby d4_1)
  refine own_to T96 (mkF m 114 #[.val (.ref a1), .val (.long (own_pk (i + 1) (39))), .second, .val (.long (own_pk (i + 1 + 1 + 2) (8))), .second] [(.ref a1)]) (fun tq kq => st96 _ (XS.ifYes X96.here hx rfl (pc0 := 4) (pc' := 113) rfl (hb hby d4_4) rfl ((if0 _ _).trans (feq (mt (own_eqn (b := 0) (by omega) (by decide)).mp (by omega))).2) (by decide) (by decide) (XS.aloadN X96.here hx rfl (hb hby d4_113) rfl rfl kq))) ?_
  obtain ⟨T97, X97, e97, st97⟩ := getF X96 hx hZ hown (host := "") (Or.inl (own_w hw 51 rfl)) Via.refl e96 f89 (g := (mkF m 114 #[.val (.ref a1), .val (.long (own_pk (i + 1) (39))), .second, .val (.long (own_pk (i + 1 + 1 + 2) (8))), .second] [(.ref a1)])) rfl rfl (hb hby d4_114)
  refine own_to T97 (mkF m 121 #[.val (.ref a1), .val (.long (own_pk (i + 1) (39))), .second, .val (.long (own_pk (i + 1 + 1 + 2) (8))), .second] [(.ref a1)]) (fun tq kq => st97 _ (XS.ifNo X97.here hx rfl (hb hby d4_117) rfl ((if0 _ _).trans (feq (by decide : ¬ ((1 : Int32) = (0 : Int32)))).1) (XS.aloadN X97.here hx rfl (hb hby d4_120) rfl rfl kq))) ?_
  obtain ⟨T98, X98, e98, st98⟩ := getF X97 hx hZ hown (host := "") (Or.inl (own_w hw 15 rfl)) Via.refl e97 f85 (g := (mkF m 121 #[.val (.ref a1), .val (.long (own_pk (i + 1) (39))), .second, .val (.long (own_pk (i + 1 + 1 + 2) (8))), .second] [(.ref a1)])) rfl rfl (hb hby d4_121)
  refine own_to T98 (mkF m 125 #[.val (.ref a1), .val (.long (own_pk (i + 1) (39))), .second, .val (.long (own_pk (i + 1 + 1 + 2) (8))), .second] [(.ref a1), (.ref pk)]) (fun tq kq => st98 _ (XS.aloadN X98.here hx rfl (hb hby d4_124) rfl rfl kq)) ?_
  obtain ⟨T99, X99, e99, st99⟩ := getF X98 hx hZ hown (host := "") (Or.inl (own_w hw 19 rfl)) Via.refl e98 f87 (g := (mkF m 125 #[.val (.ref a1), .val (.long (own_pk (i + 1) (39))), .second, .val (.long (own_pk (i + 1 + 1 + 2) (8))), .second] [(.ref a1), (.ref pk)])) rfl rfl (hb hby d4_125)
  refine own_to T99 (mkF m 129 #[.val (.ref a1), .val (.long (own_pk (i + 1) (39))), .second, .val (.long (own_pk (i + 1 + 1 + 2) (8))), .second] [(.ref a1), (.int (Int32.ofNat (i + 1 + 1 + 2))), (.ref pk)]) (fun tq kq => st99 _ (XS.aloadN X99.here hx rfl (hb hby d4_128) rfl rfl kq)) ?_
  obtain ⟨T100, X100, e100, st100⟩ := getF X99 hx hZ hown (host := "") (Or.inl (own_w hw 56 rfl)) Via.refl e99 f90 (g := (mkF m 129 #[.val (.ref a1), .val (.long (own_pk (i + 1) (39))), .second, .val (.long (own_pk (i + 1 + 1 + 2) (8))), .second] [(.ref a1), (.int (Int32.ofNat (i + 1 + 1 + 2))), (.ref pk)])) rfl rfl (hb hby d4_129)
  refine own_to T100 (mkF m 132 #[.val (.ref a1), .val (.long (own_pk (i + 1) (39))), .second, .val (.long (own_pk (i + 1 + 1 + 2) (8))), .second] [(.int (Int32.ofNat (i + 1 + 1 + 2 + 8))), (.int (Int32.ofNat (i + 1 + 1 + 2))), (.ref pk)]) (fun tq kq => st100 _ kq) ?_
  obtain ⟨_, _, ⟨T101, L101, k101, n101⟩, -, X101, ⟨Lc101, hQ101, l101, y101, z101⟩, st101⟩ := callSN X100 hx (y := (⟨"com/example/warmjoin/warmjoin/PackedFields", "comma", "([BII)I"⟩ : MethodName)) hown (own_mvMN hZ (own_w hw 63 rfl)) (mvT hZ (own_w hw 64 rfl)) (mvT hZ (own_w hw 30 rfl)) (mvT hZ (own_w hw 65 rfl)) (by decide) (backOf (W := 0) (rm_comma l Z a0 hw [] pk f (i + 1 + 1 + 2) (i + 1 + 1 + 2 + 8) h83 n0 Zs83 f94 (by omega) (by omega) hfc) hZ (own_w hw 65 rfl) (own_w hw 30 rfl) (by decide) (by decide)) (g := (mkF m 132 #[.val (.ref a1), .val (.long (own_pk (i + 1) (39))), .second, .val (.long (own_pk (i + 1 + 1 + 2) (8))), .second] [(.int (Int32.ofNat (i + 1 + 1 + 2 + 8))), (.int (Int32.ofNat (i + 1 + 1 + 2))), (.ref pk)])) rfl (by rw [hml]; rfl) (argsL := [(.ref pk), (.int (Int32.ofNat (i + 1 + 1 + 2))), (.int (Int32.ofNat (i + 1 + 1 + 2 + 8)))]) (rest := []) (lenOf pd_7 rfl) rfl (by show 2 * 0 + _ ≤ _; exact Nat.le_of_eq rfl) (hb hby d4_132) (fun _ _ => ⟨rfl, e100, (by decide : 0 + 0 ≤ _), (by decide : 0 + 0 ≤ _)⟩)
  dsimp only [Pt.U, Pt.locs, Pt.cells, Pt.slots] at X101 l101 y101 z101 st101 hQ101
  have l101y := l101.symm
  clear l101
  subst l101y
  obtain rfl : k101 = 0 := y101
  obtain rfl : n101 = 0 := z101
  obtain ⟨rfl, N101q, e101⟩ := hQ101
  have N101 := Fr.app N83 N101q
  refine own_to T101 (mkF m 138 #[.val (.ref a1), .val (.int (Int32.ofNat (i + 1 + 1 + 2))), .unset, .val (.long (own_pk (i + 1 + 1 + 2) (8))), .second] [(.ref a1), (.ref a1)]) (fun tq kq => st101.trans (XS.istoreN X101.here hx rfl (hb hby d4_135) rfl (l' := #[.val (.ref a1), .val (.int (Int32.ofNat (i + 1 + 1 + 2))), .unset, .val (.long (own_pk (i + 1 + 1 + 2) (8))), .second]) rfl (XS.aloadN X101.here hx rfl (hb hby d4_136) rfl rfl (XS.aloadN X101.here hx rfl (hb hby d4_137) rfl rfl kq)))) ?_
  obtain ⟨T102, X102, e102, st102⟩ := getF X101 hx hZ hown (host := "") (Or.inl (own_w hw 19 rfl)) Via.refl e101 f87 (g := (mkF m 138 #[.val (.ref a1), .val (.int (Int32.ofNat (i + 1 + 1 + 2))), .unset, .val (.long (own_pk (i + 1 + 1 + 2) (8))), .second] [(.ref a1), (.ref a1)])) rfl rfl (hb hby d4_138)
  refine own_to T102 (mkF m 141 #[.val (.ref a1), .val (.int (Int32.ofNat (i + 1 + 1 + 2))), .unset, .val (.long (own_pk (i + 1 + 1 + 2) (8))), .second] [(.int (Int32.ofNat (i + 1 + 1 + 2))), (.ref a1)]) (fun tq kq => st102 _ kq) ?_
  obtain ⟨T103, h103, X103, e103, W103, st103⟩ := putF X102 hx hZ hown (host := "") (Or.inl (own_w hw 66 rfl)) Via.refl e102 f92 f84 (Or.inl (own_w hw 67 rfl)) (own_w hw 2 rfl) (ty := .int) (by decide) rfl rfl (g := (mkF m 141 #[.val (.ref a1), .val (.int (Int32.ofNat (i + 1 + 1 + 2))), .unset, .val (.long (own_pk (i + 1 + 1 + 2) (8))), .second] [(.int (Int32.ofNat (i + 1 + 1 + 2))), (.ref a1)])) rfl rfl (hb hby d4_141)
  have f104 := f84.wr W103
  have f105 := f85.other W103 (Or.inr (sn_packed_offset hw))
  have f106 := f86.other W103 (Or.inr (sn_to_offset hw))
  have f107 := f87.other W103 (Or.inr (sn_at_offset hw))
  have f108 := f88.other W103 (Or.inr (sn_left_offset hw))
  have f109 := f89.other W103 (Or.inr (sn_text_offset hw))
  have f110 := f90.other W103 (Or.inr (sn_textEnd_offset hw))
  have f111 := f91.other W103 (Or.inr (sn_literals_offset hw))
  have f112 := f95.other W103 (Or.inr (sn_index_offset hw))
  have f113 := f93.other W103 (Or.inr (sn_length_offset hw))
  have f114 := f94.other W103 (Ne.symm hne)
  have f115 := f92.same W103
  have N103 := Fr.snoc X103 N101 g_a1
  have Zs103 : n0 ≤ h103.size := by rw [W103.size]; exact Zs83
  have K103 := K83.wr W103 (Or.inl (List.mem_of_getElem? (i := 0) rfl))
  refine own_to T103 (mkF m 147 #[.val (.ref a1), .val (.int (Int32.ofNat (i + 1 + 1 + 2))), .unset, .val (.long (own_pk (i + 1 + 1 + 2) (8))), .second] [(.ref a1), (.int (Int32.ofNat (i + 1 + 1 + 2))), (.ref a1)]) (fun tq kq => st103 _ (XS.aloadN X103.here hx rfl (hb hby d4_144) rfl rfl (XS.iloadN X103.here hx rfl (hb hby d4_145) rfl (XS.aloadN X103.here hx rfl (hb hby d4_146) rfl rfl kq)))) ?_
  obtain ⟨T116, X116, e116, st116⟩ := getF X103 hx hZ hown (host := "") (Or.inl (own_w hw 19 rfl)) Via.refl e103 f107 (g := (mkF m 147 #[.val (.ref a1), .val (.int (Int32.ofNat (i + 1 + 1 + 2))), .unset, .val (.long (own_pk (i + 1 + 1 + 2) (8))), .second] [(.ref a1), (.int (Int32.ofNat (i + 1 + 1 + 2))), (.ref a1)])) rfl rfl (hb hby d4_147)
  refine own_to T116 (mkF m 151 #[.val (.ref a1), .val (.int (Int32.ofNat (i + 1 + 1 + 2))), .unset, .val (.long (own_pk (i + 1 + 1 + 2) (8))), .second] [(.int ((Int32.ofNat (i + 1 + 1 + 2)) - (Int32.ofNat (i + 1 + 1 + 2)))), (.ref a1)]) (fun tq kq => st116 _ (XS.isub X116.here hx rfl (hb hby d4_150) rfl kq)) ?_
  rw [show ((Int32.ofNat (i + 1 + 1 + 2)) - (Int32.ofNat (i + 1 + 1 + 2))) = (0 : Int32) from by rw [own_subn (i + 1 + 1 + 2) (i + 1 + 1 + 2) (by omega) (by omega), Nat.sub_self]; rfl]
  obtain ⟨T117, h117, X117, e117, W117, st117⟩ := putF X116 hx hZ hown (host := "") (Or.inl (own_w hw 68 rfl)) Via.refl e116 f113 f104 (Or.inl (own_w hw 69 rfl)) (own_w hw 2 rfl) (ty := .int) (by decide) rfl rfl (g := (mkF m 151 #[.val (.ref a1), .val (.int (Int32.ofNat (i + 1 + 1 + 2))), .unset, .val (.long (own_pk (i + 1 + 1 + 2) (8))), .second] [(.int (0 : Int32)), (.ref a1)])) rfl rfl (hb hby d4_151)
  have f118 := f104.wr W117
  have f119 := f105.other W117 (Or.inr (sn_packed_length hw))
  have f120 := f106.other W117 (Or.inr (sn_to_length hw))
  have f121 := f107.other W117 (Or.inr (sn_at_length hw))
  have f122 := f108.other W117 (Or.inr (sn_left_length hw))
  have f123 := f109.other W117 (Or.inr (sn_text_length hw))
  have f124 := f110.other W117 (Or.inr (sn_textEnd_length hw))
  have f125 := f111.other W117 (Or.inr (sn_literals_length hw))
  have f126 := f112.other W117 (Or.inr (sn_index_length hw))
  have f127 := f115.other W117 (Or.inr (sn_offset_length hw))
  have f128 := f114.other W117 (Ne.symm hne)
  have f129 := f113.same W117
  have N117 := Fr.snoc X117 N103 g_a1
  have Zs117 : n0 ≤ h117.size := by rw [W117.size]; exact Zs103
  have K117 := K103.wr W117 (Or.inl (List.mem_of_getElem? (i := 0) rfl))
  refine own_to T117 (mkF m 157 #[.val (.ref a1), .val (.int (Int32.ofNat (i + 1 + 1 + 2))), .unset, .val (.long (own_pk (i + 1 + 1 + 2) (8))), .second] [(.ref a1), (.int (Int32.ofNat (i + 1 + 1 + 2))), (.ref a1)]) (fun tq kq => st117 _ (XS.aloadN X117.here hx rfl (hb hby d4_154) rfl rfl (XS.iloadN X117.here hx rfl (hb hby d4_155) rfl (XS.aloadN X117.here hx rfl (hb hby d4_156) rfl rfl kq)))) ?_
  obtain ⟨T130, X130, e130, st130⟩ := getF X117 hx hZ hown (host := "") (Or.inl (own_w hw 56 rfl)) Via.refl e117 f124 (g := (mkF m 157 #[.val (.ref a1), .val (.int (Int32.ofNat (i + 1 + 1 + 2))), .unset, .val (.long (own_pk (i + 1 + 1 + 2) (8))), .second] [(.ref a1), (.int (Int32.ofNat (i + 1 + 1 + 2))), (.ref a1)])) rfl rfl (hb hby d4_157)
  refine own_to T130 (mkF m 166 #[.val (.ref a1), .val (.int (Int32.ofNat (i + 1 + 1 + 2))), .unset, .val (.long (own_pk (i + 1 + 1 + 2) (8))), .second] [(.int ((Int32.ofNat (i + 1 + 1 + 2)) + (1 : Int32))), (.ref a1)]) (fun tq kq => st130 _ (XS.icmpNo X130.here hx rfl (hb hby d4_160) rfl (tlt ((own_ltn (by omega) (by omega)).mpr hlt)).2.1 (XS.iloadN X130.here hx rfl (hb hby d4_163) rfl (XS.iconst X130.here hx rfl (hb hby d4_164) (XS.iadd X130.here hx rfl (hb hby d4_165) rfl kq))))) ?_
  rw [show ((Int32.ofNat (i + 1 + 1 + 2)) + (1 : Int32)) = (Int32.ofNat (i + 1 + 1 + 2 + 1)) from own_addn (i + 1 + 1 + 2) 1 (by omega) (by decide)]
  refine own_to T130 (mkF m 170 #[.val (.ref a1), .val (.int (Int32.ofNat (i + 1 + 1 + 2))), .unset, .val (.long (own_pk (i + 1 + 1 + 2) (8))), .second] [(.int (Int32.ofNat (i + 1 + 1 + 2 + 1))), (.ref a1)]) (fun tq kq => XS.goto X130.here hx rfl (pc0 := 166) (pc' := 170) rfl (hb hby d4_166) (by decide) (by decide) kq) ?_
  obtain ⟨T131, h131, X131, e131, W131, st131⟩ := putF X130 hx hZ hown (host := "") (Or.inl (own_w hw 19 rfl)) Via.refl e130 f121 f118 (Or.inl (own_w hw 20 rfl)) (own_w hw 2 rfl) (ty := .int) (by decide) rfl rfl (g := (mkF m 170 #[.val (.ref a1), .val (.int (Int32.ofNat (i + 1 + 1 + 2))), .unset, .val (.long (own_pk (i + 1 + 1 + 2) (8))), .second] [(.int (Int32.ofNat (i + 1 + 1 + 2 + 1))), (.ref a1)])) rfl rfl (hb hby d4_170)
  have f132 := f118.wr W131
  have f133 := f119.other W131 (Or.inr (sn_packed_at hw))
  have f134 := f120.other W131 (Or.inr (sn_to_at hw))
  have f135 := f122.other W131 (Or.inr (sn_left_at hw))
  have f136 := f123.other W131 (Or.inr (sn_text_at hw))
  have f137 := f124.other W131 (Or.inr (sn_textEnd_at hw))
  have f138 := f125.other W131 (Or.inr (sn_literals_at hw))
  have f139 := f126.other W131 (Or.inr (sn_index_at hw))
  have f140 := f127.other W131 (Or.inr (sn_offset_at hw))
  have f141 := f129.other W131 (Or.inr (sn_length_at hw))
  have f142 := f128.other W131 (Ne.symm hne)
  have f143 := f121.same W131
  have N131 := Fr.snoc X131 N117 g_a1
  have Zs131 : n0 ≤ h131.size := by rw [W131.size]; exact Zs117
  have K131 := K117.wr W131 (Or.inl (List.mem_of_getElem? (i := 0) rfl))
  refine own_to T131 (mkF m 218 #[.val (.ref a1), .val (.int (Int32.ofNat (i + 1 + 1 + 2))), .unset, .val (.long (own_pk (i + 1 + 1 + 2) (8))), .second] [(.ref a1), (.ref a1)]) (fun tq kq => st131 _ (XS.goto X131.here hx rfl (pc0 := 173) (pc' := 216) rfl (hb hby d4_173) (by decide) (by decide) (XS.aloadN X131.here hx rfl (hb hby d4_216) rfl rfl (XS.dup X131.here hx rfl (hb hby d4_217) rfl rfl kq)))) ?_
  obtain ⟨T144, X144, e144, st144⟩ := getF X131 hx hZ hown (host := "") (Or.inl (own_w hw 21 rfl)) Via.refl e131 f135 (g := (mkF m 218 #[.val (.ref a1), .val (.int (Int32.ofNat (i + 1 + 1 + 2))), .unset, .val (.long (own_pk (i + 1 + 1 + 2) (8))), .second] [(.ref a1), (.ref a1)])) rfl rfl (hb hby d4_218)
  refine own_to T144 (mkF m 223 #[.val (.ref a1), .val (.int (Int32.ofNat (i + 1 + 1 + 2))), .unset, .val (.long (own_pk (i + 1 + 1 + 2) (8))), .second] [(.int ((Int32.ofNat (9)) - (1 : Int32))), (.ref a1)]) (fun tq kq => st144 _ (XS.iconst X144.here hx rfl (hb hby d4_221) (XS.isub X144.here hx rfl (hb hby d4_222) rfl kq))) ?_
  rw [show ((Int32.ofNat (9)) - (1 : Int32)) = (Int32.ofNat (9 - 1)) from own_subn 9 1 (by omega) (by omega)]
  obtain ⟨T145, h145, X145, e145, W145, st145⟩ := putF X144 hx hZ hown (host := "") (Or.inl (own_w hw 21 rfl)) Via.refl e144 f135 f132 (Or.inl (own_w hw 22 rfl)) (own_w hw 2 rfl) (ty := .int) (by decide) rfl rfl (g := (mkF m 223 #[.val (.ref a1), .val (.int (Int32.ofNat (i + 1 + 1 + 2))), .unset, .val (.long (own_pk (i + 1 + 1 + 2) (8))), .second] [(.int (Int32.ofNat (9 - 1))), (.ref a1)])) rfl rfl (hb hby d4_223)
  have f146 := f132.wr W145
  have f147 := f133.other W145 (Or.inr (sn_packed_left hw))
  have f148 := f134.other W145 (Or.inr (sn_to_left hw))
  have f149 := f143.other W145 (Or.inr (sn_at_left hw))
  have f150 := f136.other W145 (Or.inr (sn_text_left hw))
  have f151 := f137.other W145 (Or.inr (sn_textEnd_left hw))
  have f152 := f138.other W145 (Or.inr (sn_literals_left hw))
  have f153 := f139.other W145 (Or.inr (sn_index_left hw))
  have f154 := f140.other W145 (Or.inr (sn_offset_left hw))
  have f155 := f141.other W145 (Or.inr (sn_length_left hw))
  have f156 := f142.other W145 (Ne.symm hne)
  have f157 := f135.same W145
  have N145 := Fr.snoc X145 N131 g_a1
  have Zs145 : n0 ≤ h145.size := by rw [W145.size]; exact Zs131
  have K145 := K131.wr W145 (Or.inl (List.mem_of_getElem? (i := 0) rfl))
  refine own_to T145 (mkF m 228 #[.val (.ref a1), .val (.int (Int32.ofNat (i + 1 + 1 + 2))), .unset, .val (.long (own_pk (i + 1 + 1 + 2) (8))), .second] [(.ref a1), (.ref a1)]) (fun tq kq => st145 _ (XS.aloadN X145.here hx rfl (hb hby d4_226) rfl rfl (XS.dup X145.here hx rfl (hb hby d4_227) rfl rfl kq))) ?_
  obtain ⟨T158, X158, e158, st158⟩ := getF X145 hx hZ hown (host := "") (Or.inl (own_w hw 61 rfl)) Via.refl e145 f153 (g := (mkF m 228 #[.val (.ref a1), .val (.int (Int32.ofNat (i + 1 + 1 + 2))), .unset, .val (.long (own_pk (i + 1 + 1 + 2) (8))), .second] [(.ref a1), (.ref a1)])) rfl rfl (hb hby d4_228)
  refine own_to T158 (mkF m 233 #[.val (.ref a1), .val (.int (Int32.ofNat (i + 1 + 1 + 2))), .unset, .val (.long (own_pk (i + 1 + 1 + 2) (8))), .second] [(.int ((-1 : Int32) + (1 : Int32))), (.ref a1)]) (fun tq kq => st158 _ (XS.iconst X158.here hx rfl (hb hby d4_231) (XS.iadd X158.here hx rfl (hb hby d4_232) rfl kq))) ?_
  rw [show ((-1 : Int32) + (1 : Int32)) = (Int32.ofNat (0)) from by decide]
  obtain ⟨T159, h159, X159, e159, W159, st159⟩ := putF X158 hx hZ hown (host := "") (Or.inl (own_w hw 61 rfl)) Via.refl e158 f153 f146 (Or.inl (own_w hw 62 rfl)) (own_w hw 2 rfl) (ty := .int) (by decide) rfl rfl (g := (mkF m 233 #[.val (.ref a1), .val (.int (Int32.ofNat (i + 1 + 1 + 2))), .unset, .val (.long (own_pk (i + 1 + 1 + 2) (8))), .second] [(.int (Int32.ofNat (0))), (.ref a1)])) rfl rfl (hb hby d4_233)
  have f160 := f146.wr W159
  have f161 := f147.other W159 (Or.inr (sn_packed_index hw))
  have f162 := f148.other W159 (Or.inr (sn_to_index hw))
  have f163 := f149.other W159 (Or.inr (sn_at_index hw))
  have f164 := f157.other W159 (Or.inr (sn_left_index hw))
  have f165 := f150.other W159 (Or.inr (sn_text_index hw))
  have f166 := f151.other W159 (Or.inr (sn_textEnd_index hw))
  have f167 := f152.other W159 (Or.inr (sn_literals_index hw))
  have f168 := f154.other W159 (Or.inr (sn_offset_index hw))
  have f169 := f155.other W159 (Or.inr (sn_length_index hw))
  have f170 := f156.other W159 (Ne.symm hne)
  have f171 := f153.same W159
  have N159 := Fr.snoc X159 N145 g_a1
  have Zs159 : n0 ≤ h159.size := by rw [W159.size]; exact Zs145
  have K159 := K145.wr W159 (Or.inl (List.mem_of_getElem? (i := 0) rfl))
  refine own_to T159 (mkF m 237 #[.val (.ref a1), .val (.int (Int32.ofNat (i + 1 + 1 + 2))), .unset, .val (.long (own_pk (i + 1 + 1 + 2) (8))), .second] [(.int (1 : Int32))]) (fun tq kq => st159 _ (XS.iconst X159.here hx rfl (hb hby d4_236) kq)) ?_
  exact own_retZ X159 hx hret hlk (hb hby d4_237) (by decide) (by decide) (Or.inr rfl) (by rw [e159]; exact ⟨rfl, N159, K159, _, _, ⟨f160, f161, f162, f163, f164, f165, f166, f167, f171, f168, f169⟩⟩)
def Q_rm_next1T (Z : State) (a1 pk : Addr) (f : Nat → Int32) (i lf te x : Nat) (u1 u6 u8 u9 : Int32) (h0 : Heap) (n0 : Nat) (v : Option Value) (h : Heap) (L : List Loc) : Prop := v = some (.int (1 : Int32)) ∧ Fr n0 L ∧ Keep h0 h [a1] ∧ ∃ o' l', Cur Z h a1 (.ref pk) u1 (Int32.ofNat (i + 1)) (Int32.ofNat (lf - 1)) (1 : Int32) (Int32.ofNat te) u6 (Int32.ofNat (x + 1)) o' l'
set_option maxRecDepth 65536 in
set_option maxHeartbeats 40000000 in
theorem rm_next1T (l : Launch) (Z : State) (a0 : Array Value) (hw : ∀ d ∈ tables_1, d.before a0 Z = true) (ws : List Jvm.Cond) (a1 pk : Addr) (f : Nat → Int32) (i lf te x : Nat) (u1 u6 u8 u9 : Int32) (h0 : Heap) (n0 : Nat) (Z0 : n0 ≤ h0.size) (U : Cur Z h0 a1 (.ref pk) u1 (Int32.ofNat i) (Int32.ofNat lf) (1 : Int32) (Int32.ofNat te) u6 (Int32.ofNat x) u8 u9) (hne : a1 ≠ pk) (g_a1 : n0 ≤ a1) (A : BArr Z h0 pk 20 f) (hi : i < 20) (hlf : 0 < lf) (hlf' : lf < 100) (hx' : x < 100) (hte : te ≤ 20) (hlt : i < te) (hfc : i < te → f i = (44 : Int32)) :
    MetFree l (⟨"com/example/warmjoin/warmjoin/PackedFields$Cursor", "next", "()Z"⟩ : MethodName) (head1 (Jvm.Cond.code (⟨"com/example/warmjoin/warmjoin/PackedFields$Cursor", "next", "()Z"⟩ : MethodName) prog_100_method_3_code 5 (some .boolean) :: ws) ({ frames := 2, cells := 0, slots := 0, locals := 38 } : Room)) (fun a U => a = #[(.ref a1)] ∧ Z.Warmed39 U.vm ∧ U.heap = h0) (fun _ _ _ _ _ => True) (fun _ U o U' => ∃ v L, o = .returned v ∧ Q_rm_next1T Z a1 pk f i lf te x u1 u6 u8 u9 h0 n0 v U'.heap L ∧ FrameEnd U o U' L ({ frames := 2, cells := 0, slots := 0, locals := 38 } : Room).cells ({ frames := 2, cells := 0, slots := 0, locals := 38 } : Room).slots) := by
  refine own_met (y := (⟨"com/example/warmjoin/warmjoin/PackedFields$Cursor", "next", "()Z"⟩ : MethodName)) (Q := (Q_rm_next1T Z a1 pk f i lf te x u1 u6 u8 u9 h0 n0)) (plainFor_of_name pn_1) fun p e s m below meth c s₁ X0 hx hby hml hret hlk hown hnm hZ e0 => ?_
  refine own_entry (ef_4_R m a1) ?_
  obtain ⟨E1, F0, F1, F2, F3, F4, F5, F6, F7, F8, F9⟩ := U
  have K0 := Keep.refl h0 [a1]
  refine own_to s₁ (mkF m 1 #[.val (.ref a1), .unset, .unset, .unset, .unset] [(.ref a1)]) (fun tq kq => XS.aloadN X0.here hx rfl (hb hby d4_0) rfl rfl kq) ?_
  obtain ⟨T1, X1, e1, st1⟩ := getF X0 hx hZ hown (host := "") (Or.inl (own_w hw 21 rfl)) Via.refl e0 F3 (g := (mkF m 1 #[.val (.ref a1), .unset, .unset, .unset, .unset] [(.ref a1)])) rfl rfl (hb hby d4_1)
  refine own_to T1 (mkF m 114 #[.val (.ref a1), .unset, .unset, .unset, .unset] [(.ref a1)]) (fun tq kq => st1 _ (XS.ifYes X1.here hx rfl (pc0 := 4) (pc' := 113) rfl (hb hby d4_4) rfl ((if0 _ _).trans (feq (mt (own_eqn (b := 0) (by omega) (by decide)).mp (by omega))).2) (by decide) (by decide) (XS.aloadN X1.here hx rfl (hb hby d4_113) rfl rfl kq))) ?_
  obtain ⟨T2, X2, e2, st2⟩ := getF X1 hx hZ hown (host := "") (Or.inl (own_w hw 51 rfl)) Via.refl e1 F4 (g := (mkF m 114 #[.val (.ref a1), .unset, .unset, .unset, .unset] [(.ref a1)])) rfl rfl (hb hby d4_114)
  refine own_to T2 (mkF m 121 #[.val (.ref a1), .unset, .unset, .unset, .unset] [(.ref a1)]) (fun tq kq => st2 _ (XS.ifNo X2.here hx rfl (hb hby d4_117) rfl ((if0 _ _).trans (feq (by decide : ¬ ((1 : Int32) = (0 : Int32)))).1) (XS.aloadN X2.here hx rfl (hb hby d4_120) rfl rfl kq))) ?_
  obtain ⟨T3, X3, e3, st3⟩ := getF X2 hx hZ hown (host := "") (Or.inl (own_w hw 15 rfl)) Via.refl e2 F0 (g := (mkF m 121 #[.val (.ref a1), .unset, .unset, .unset, .unset] [(.ref a1)])) rfl rfl (hb hby d4_121)
  refine own_to T3 (mkF m 125 #[.val (.ref a1), .unset, .unset, .unset, .unset] [(.ref a1), (.ref pk)]) (fun tq kq => st3 _ (XS.aloadN X3.here hx rfl (hb hby d4_124) rfl rfl kq)) ?_
  obtain ⟨T4, X4, e4, st4⟩ := getF X3 hx hZ hown (host := "") (Or.inl (own_w hw 19 rfl)) Via.refl e3 F2 (g := (mkF m 125 #[.val (.ref a1), .unset, .unset, .unset, .unset] [(.ref a1), (.ref pk)])) rfl rfl (hb hby d4_125)
  refine own_to T4 (mkF m 129 #[.val (.ref a1), .unset, .unset, .unset, .unset] [(.ref a1), (.int (Int32.ofNat i)), (.ref pk)]) (fun tq kq => st4 _ (XS.aloadN X4.here hx rfl (hb hby d4_128) rfl rfl kq)) ?_
  obtain ⟨T5, X5, e5, st5⟩ := getF X4 hx hZ hown (host := "") (Or.inl (own_w hw 56 rfl)) Via.refl e4 F5 (g := (mkF m 129 #[.val (.ref a1), .unset, .unset, .unset, .unset] [(.ref a1), (.int (Int32.ofNat i)), (.ref pk)])) rfl rfl (hb hby d4_129)
  refine own_to T5 (mkF m 132 #[.val (.ref a1), .unset, .unset, .unset, .unset] [(.int (Int32.ofNat te)), (.int (Int32.ofNat i)), (.ref pk)]) (fun tq kq => st5 _ kq) ?_
  obtain ⟨_, _, ⟨T6, L6, k6, n6⟩, -, X6, ⟨Lc6, hQ6, l6, y6, z6⟩, st6⟩ := callSN X5 hx (y := (⟨"com/example/warmjoin/warmjoin/PackedFields", "comma", "([BII)I"⟩ : MethodName)) hown (own_mvMN hZ (own_w hw 63 rfl)) (mvT hZ (own_w hw 64 rfl)) (mvT hZ (own_w hw 30 rfl)) (mvT hZ (own_w hw 65 rfl)) (by decide) (backOf (W := 0) (rm_comma l Z a0 hw [] pk f (i) (te) h0 n0 Z0 A (by omega) (by omega) hfc) hZ (own_w hw 65 rfl) (own_w hw 30 rfl) (by decide) (by decide)) (g := (mkF m 132 #[.val (.ref a1), .unset, .unset, .unset, .unset] [(.int (Int32.ofNat te)), (.int (Int32.ofNat i)), (.ref pk)])) rfl (by rw [hml]; rfl) (argsL := [(.ref pk), (.int (Int32.ofNat i)), (.int (Int32.ofNat te))]) (rest := []) (lenOf pd_7 rfl) rfl (by show 2 * 0 + _ ≤ _; exact Nat.le_of_eq rfl) (hb hby d4_132) (fun _ _ => ⟨rfl, e5, (by decide : 0 + 0 ≤ _), (by decide : 0 + 0 ≤ _)⟩)
  dsimp only [Pt.U, Pt.locs, Pt.cells, Pt.slots] at X6 l6 y6 z6 st6 hQ6
  have l6y := l6.symm
  clear l6
  subst l6y
  obtain rfl : k6 = 0 := y6
  obtain rfl : n6 = 0 := z6
  obtain ⟨rfl, N6q, e6⟩ := hQ6
  have N6 := Fr.app (Fr.nil n0) N6q
  refine own_to T6 (mkF m 138 #[.val (.ref a1), .val (.int (Int32.ofNat (i))), .unset, .unset, .unset] [(.ref a1), (.ref a1)]) (fun tq kq => st6.trans (XS.istoreN X6.here hx rfl (hb hby d4_135) rfl (l' := #[.val (.ref a1), .val (.int (Int32.ofNat (i))), .unset, .unset, .unset]) rfl (XS.aloadN X6.here hx rfl (hb hby d4_136) rfl rfl (XS.aloadN X6.here hx rfl (hb hby d4_137) rfl rfl kq)))) ?_
  obtain ⟨T7, X7, e7, st7⟩ := getF X6 hx hZ hown (host := "") (Or.inl (own_w hw 19 rfl)) Via.refl e6 F2 (g := (mkF m 138 #[.val (.ref a1), .val (.int (Int32.ofNat (i))), .unset, .unset, .unset] [(.ref a1), (.ref a1)])) rfl rfl (hb hby d4_138)
  refine own_to T7 (mkF m 141 #[.val (.ref a1), .val (.int (Int32.ofNat (i))), .unset, .unset, .unset] [(.int (Int32.ofNat i)), (.ref a1)]) (fun tq kq => st7 _ kq) ?_
  obtain ⟨T8, h8, X8, e8, W8, st8⟩ := putF X7 hx hZ hown (host := "") (Or.inl (own_w hw 66 rfl)) Via.refl e7 F8 E1 (Or.inl (own_w hw 67 rfl)) (own_w hw 2 rfl) (ty := .int) (by decide) rfl rfl (g := (mkF m 141 #[.val (.ref a1), .val (.int (Int32.ofNat (i))), .unset, .unset, .unset] [(.int (Int32.ofNat i)), (.ref a1)])) rfl rfl (hb hby d4_141)
  have f9 := E1.wr W8
  have f10 := F0.other W8 (Or.inr (sn_packed_offset hw))
  have f11 := F1.other W8 (Or.inr (sn_to_offset hw))
  have f12 := F2.other W8 (Or.inr (sn_at_offset hw))
  have f13 := F3.other W8 (Or.inr (sn_left_offset hw))
  have f14 := F4.other W8 (Or.inr (sn_text_offset hw))
  have f15 := F5.other W8 (Or.inr (sn_textEnd_offset hw))
  have f16 := F6.other W8 (Or.inr (sn_literals_offset hw))
  have f17 := F7.other W8 (Or.inr (sn_index_offset hw))
  have f18 := F9.other W8 (Or.inr (sn_length_offset hw))
  have f19 := A.other W8 (Ne.symm hne)
  have f20 := F8.same W8
  have N8 := Fr.snoc X8 N6 g_a1
  have Zs8 : n0 ≤ h8.size := by rw [W8.size]; exact Z0
  have K8 := K0.wr W8 (Or.inl (List.mem_of_getElem? (i := 0) rfl))
  refine own_to T8 (mkF m 147 #[.val (.ref a1), .val (.int (Int32.ofNat (i))), .unset, .unset, .unset] [(.ref a1), (.int (Int32.ofNat (i))), (.ref a1)]) (fun tq kq => st8 _ (XS.aloadN X8.here hx rfl (hb hby d4_144) rfl rfl (XS.iloadN X8.here hx rfl (hb hby d4_145) rfl (XS.aloadN X8.here hx rfl (hb hby d4_146) rfl rfl kq)))) ?_
  obtain ⟨T21, X21, e21, st21⟩ := getF X8 hx hZ hown (host := "") (Or.inl (own_w hw 19 rfl)) Via.refl e8 f12 (g := (mkF m 147 #[.val (.ref a1), .val (.int (Int32.ofNat (i))), .unset, .unset, .unset] [(.ref a1), (.int (Int32.ofNat (i))), (.ref a1)])) rfl rfl (hb hby d4_147)
  refine own_to T21 (mkF m 151 #[.val (.ref a1), .val (.int (Int32.ofNat (i))), .unset, .unset, .unset] [(.int ((Int32.ofNat (i)) - (Int32.ofNat i))), (.ref a1)]) (fun tq kq => st21 _ (XS.isub X21.here hx rfl (hb hby d4_150) rfl kq)) ?_
  rw [show ((Int32.ofNat (i)) - (Int32.ofNat i)) = (0 : Int32) from by rw [own_subn (i) (i) (by omega) (by omega), Nat.sub_self]; rfl]
  obtain ⟨T22, h22, X22, e22, W22, st22⟩ := putF X21 hx hZ hown (host := "") (Or.inl (own_w hw 68 rfl)) Via.refl e21 f18 f9 (Or.inl (own_w hw 69 rfl)) (own_w hw 2 rfl) (ty := .int) (by decide) rfl rfl (g := (mkF m 151 #[.val (.ref a1), .val (.int (Int32.ofNat (i))), .unset, .unset, .unset] [(.int (0 : Int32)), (.ref a1)])) rfl rfl (hb hby d4_151)
  have f23 := f9.wr W22
  have f24 := f10.other W22 (Or.inr (sn_packed_length hw))
  have f25 := f11.other W22 (Or.inr (sn_to_length hw))
  have f26 := f12.other W22 (Or.inr (sn_at_length hw))
  have f27 := f13.other W22 (Or.inr (sn_left_length hw))
  have f28 := f14.other W22 (Or.inr (sn_text_length hw))
  have f29 := f15.other W22 (Or.inr (sn_textEnd_length hw))
  have f30 := f16.other W22 (Or.inr (sn_literals_length hw))
  have f31 := f17.other W22 (Or.inr (sn_index_length hw))
  have f32 := f20.other W22 (Or.inr (sn_offset_length hw))
  have f33 := f19.other W22 (Ne.symm hne)
  have f34 := f18.same W22
  have N22 := Fr.snoc X22 N8 g_a1
  have Zs22 : n0 ≤ h22.size := by rw [W22.size]; exact Zs8
  have K22 := K8.wr W22 (Or.inl (List.mem_of_getElem? (i := 0) rfl))
  refine own_to T22 (mkF m 157 #[.val (.ref a1), .val (.int (Int32.ofNat (i))), .unset, .unset, .unset] [(.ref a1), (.int (Int32.ofNat (i))), (.ref a1)]) (fun tq kq => st22 _ (XS.aloadN X22.here hx rfl (hb hby d4_154) rfl rfl (XS.iloadN X22.here hx rfl (hb hby d4_155) rfl (XS.aloadN X22.here hx rfl (hb hby d4_156) rfl rfl kq)))) ?_
  obtain ⟨T35, X35, e35, st35⟩ := getF X22 hx hZ hown (host := "") (Or.inl (own_w hw 56 rfl)) Via.refl e22 f29 (g := (mkF m 157 #[.val (.ref a1), .val (.int (Int32.ofNat (i))), .unset, .unset, .unset] [(.ref a1), (.int (Int32.ofNat (i))), (.ref a1)])) rfl rfl (hb hby d4_157)
  refine own_to T35 (mkF m 166 #[.val (.ref a1), .val (.int (Int32.ofNat (i))), .unset, .unset, .unset] [(.int ((Int32.ofNat (i)) + (1 : Int32))), (.ref a1)]) (fun tq kq => st35 _ (XS.icmpNo X35.here hx rfl (hb hby d4_160) rfl (tlt ((own_ltn (by omega) (by omega)).mpr hlt)).2.1 (XS.iloadN X35.here hx rfl (hb hby d4_163) rfl (XS.iconst X35.here hx rfl (hb hby d4_164) (XS.iadd X35.here hx rfl (hb hby d4_165) rfl kq))))) ?_
  rw [show ((Int32.ofNat (i)) + (1 : Int32)) = (Int32.ofNat (i + 1)) from own_addn (i) 1 (by omega) (by decide)]
  refine own_to T35 (mkF m 170 #[.val (.ref a1), .val (.int (Int32.ofNat (i))), .unset, .unset, .unset] [(.int (Int32.ofNat (i + 1))), (.ref a1)]) (fun tq kq => XS.goto X35.here hx rfl (pc0 := 166) (pc' := 170) rfl (hb hby d4_166) (by decide) (by decide) kq) ?_
  obtain ⟨T36, h36, X36, e36, W36, st36⟩ := putF X35 hx hZ hown (host := "") (Or.inl (own_w hw 19 rfl)) Via.refl e35 f26 f23 (Or.inl (own_w hw 20 rfl)) (own_w hw 2 rfl) (ty := .int) (by decide) rfl rfl (g := (mkF m 170 #[.val (.ref a1), .val (.int (Int32.ofNat (i))), .unset, .unset, .unset] [(.int (Int32.ofNat (i + 1))), (.ref a1)])) rfl rfl (hb hby d4_170)
  have f37 := f23.wr W36
  have f38 := f24.other W36 (Or.inr (sn_packed_at hw))
  have f39 := f25.other W36 (Or.inr (sn_to_at hw))
  have f40 := f27.other W36 (Or.inr (sn_left_at hw))
  have f41 := f28.other W36 (Or.inr (sn_text_at hw))
  have f42 := f29.other W36 (Or.inr (sn_textEnd_at hw))
  have f43 := f30.other W36 (Or.inr (sn_literals_at hw))
  have f44 := f31.other W36 (Or.inr (sn_index_at hw))
  have f45 := f32.other W36 (Or.inr (sn_offset_at hw))
  have f46 := f34.other W36 (Or.inr (sn_length_at hw))
  have f47 := f33.other W36 (Ne.symm hne)
  have f48 := f26.same W36
  have N36 := Fr.snoc X36 N22 g_a1
  have Zs36 : n0 ≤ h36.size := by rw [W36.size]; exact Zs22
  have K36 := K22.wr W36 (Or.inl (List.mem_of_getElem? (i := 0) rfl))
  refine own_to T36 (mkF m 218 #[.val (.ref a1), .val (.int (Int32.ofNat (i))), .unset, .unset, .unset] [(.ref a1), (.ref a1)]) (fun tq kq => st36 _ (XS.goto X36.here hx rfl (pc0 := 173) (pc' := 216) rfl (hb hby d4_173) (by decide) (by decide) (XS.aloadN X36.here hx rfl (hb hby d4_216) rfl rfl (XS.dup X36.here hx rfl (hb hby d4_217) rfl rfl kq)))) ?_
  obtain ⟨T49, X49, e49, st49⟩ := getF X36 hx hZ hown (host := "") (Or.inl (own_w hw 21 rfl)) Via.refl e36 f40 (g := (mkF m 218 #[.val (.ref a1), .val (.int (Int32.ofNat (i))), .unset, .unset, .unset] [(.ref a1), (.ref a1)])) rfl rfl (hb hby d4_218)
  refine own_to T49 (mkF m 223 #[.val (.ref a1), .val (.int (Int32.ofNat (i))), .unset, .unset, .unset] [(.int ((Int32.ofNat lf) - (1 : Int32))), (.ref a1)]) (fun tq kq => st49 _ (XS.iconst X49.here hx rfl (hb hby d4_221) (XS.isub X49.here hx rfl (hb hby d4_222) rfl kq))) ?_
  rw [show ((Int32.ofNat lf) - (1 : Int32)) = (Int32.ofNat (lf - 1)) from own_subn lf 1 (by omega) (by omega)]
  obtain ⟨T50, h50, X50, e50, W50, st50⟩ := putF X49 hx hZ hown (host := "") (Or.inl (own_w hw 21 rfl)) Via.refl e49 f40 f37 (Or.inl (own_w hw 22 rfl)) (own_w hw 2 rfl) (ty := .int) (by decide) rfl rfl (g := (mkF m 223 #[.val (.ref a1), .val (.int (Int32.ofNat (i))), .unset, .unset, .unset] [(.int (Int32.ofNat (lf - 1))), (.ref a1)])) rfl rfl (hb hby d4_223)
  have f51 := f37.wr W50
  have f52 := f38.other W50 (Or.inr (sn_packed_left hw))
  have f53 := f39.other W50 (Or.inr (sn_to_left hw))
  have f54 := f48.other W50 (Or.inr (sn_at_left hw))
  have f55 := f41.other W50 (Or.inr (sn_text_left hw))
  have f56 := f42.other W50 (Or.inr (sn_textEnd_left hw))
  have f57 := f43.other W50 (Or.inr (sn_literals_left hw))
  have f58 := f44.other W50 (Or.inr (sn_index_left hw))
  have f59 := f45.other W50 (Or.inr (sn_offset_left hw))
  have f60 := f46.other W50 (Or.inr (sn_length_left hw))
  have f61 := f47.other W50 (Ne.symm hne)
  have f62 := f40.same W50
  have N50 := Fr.snoc X50 N36 g_a1
  have Zs50 : n0 ≤ h50.size := by rw [W50.size]; exact Zs36
  have K50 := K36.wr W50 (Or.inl (List.mem_of_getElem? (i := 0) rfl))
  refine own_to T50 (mkF m 228 #[.val (.ref a1), .val (.int (Int32.ofNat (i))), .unset, .unset, .unset] [(.ref a1), (.ref a1)]) (fun tq kq => st50 _ (XS.aloadN X50.here hx rfl (hb hby d4_226) rfl rfl (XS.dup X50.here hx rfl (hb hby d4_227) rfl rfl kq))) ?_
  obtain ⟨T63, X63, e63, st63⟩ := getF X50 hx hZ hown (host := "") (Or.inl (own_w hw 61 rfl)) Via.refl e50 f58 (g := (mkF m 228 #[.val (.ref a1), .val (.int (Int32.ofNat (i))), .unset, .unset, .unset] [(.ref a1), (.ref a1)])) rfl rfl (hb hby d4_228)
  refine own_to T63 (mkF m 233 #[.val (.ref a1), .val (.int (Int32.ofNat (i))), .unset, .unset, .unset] [(.int ((Int32.ofNat x) + (1 : Int32))), (.ref a1)]) (fun tq kq => st63 _ (XS.iconst X63.here hx rfl (hb hby d4_231) (XS.iadd X63.here hx rfl (hb hby d4_232) rfl kq))) ?_
  rw [show ((Int32.ofNat x) + (1 : Int32)) = (Int32.ofNat (x + 1)) from own_addn x 1 (by omega) (by decide)]
  obtain ⟨T64, h64, X64, e64, W64, st64⟩ := putF X63 hx hZ hown (host := "") (Or.inl (own_w hw 61 rfl)) Via.refl e63 f58 f51 (Or.inl (own_w hw 62 rfl)) (own_w hw 2 rfl) (ty := .int) (by decide) rfl rfl (g := (mkF m 233 #[.val (.ref a1), .val (.int (Int32.ofNat (i))), .unset, .unset, .unset] [(.int (Int32.ofNat (x + 1))), (.ref a1)])) rfl rfl (hb hby d4_233)
  have f65 := f51.wr W64
  have f66 := f52.other W64 (Or.inr (sn_packed_index hw))
  have f67 := f53.other W64 (Or.inr (sn_to_index hw))
  have f68 := f54.other W64 (Or.inr (sn_at_index hw))
  have f69 := f62.other W64 (Or.inr (sn_left_index hw))
  have f70 := f55.other W64 (Or.inr (sn_text_index hw))
  have f71 := f56.other W64 (Or.inr (sn_textEnd_index hw))
  have f72 := f57.other W64 (Or.inr (sn_literals_index hw))
  have f73 := f59.other W64 (Or.inr (sn_offset_index hw))
  have f74 := f60.other W64 (Or.inr (sn_length_index hw))
  have f75 := f61.other W64 (Ne.symm hne)
  have f76 := f58.same W64
  have N64 := Fr.snoc X64 N50 g_a1
  have Zs64 : n0 ≤ h64.size := by rw [W64.size]; exact Zs50
  have K64 := K50.wr W64 (Or.inl (List.mem_of_getElem? (i := 0) rfl))
  refine own_to T64 (mkF m 237 #[.val (.ref a1), .val (.int (Int32.ofNat (i))), .unset, .unset, .unset] [(.int (1 : Int32))]) (fun tq kq => st64 _ (XS.iconst X64.here hx rfl (hb hby d4_236) kq)) ?_
  exact own_retZ X64 hx hret hlk (hb hby d4_237) (by decide) (by decide) (Or.inr rfl) (by rw [e64]; exact ⟨rfl, N64, K64, _, _, ⟨f65, f66, f67, f68, f69, f70, f71, f72, f76, f73, f74⟩⟩)
def Q_rm_next1E (Z : State) (a1 pk : Addr) (f : Nat → Int32) (i lf te x : Nat) (u1 u6 u8 u9 : Int32) (h0 : Heap) (n0 : Nat) (v : Option Value) (h : Heap) (L : List Loc) : Prop := v = some (.int (1 : Int32)) ∧ Fr n0 L ∧ Keep h0 h [a1] ∧ ∃ o' l', Cur Z h a1 (.ref pk) u1 (Int32.ofNat (i)) (Int32.ofNat (lf - 1)) (1 : Int32) (Int32.ofNat te) u6 (Int32.ofNat (x + 1)) o' l'
set_option maxRecDepth 65536 in
set_option maxHeartbeats 40000000 in
theorem rm_next1E (l : Launch) (Z : State) (a0 : Array Value) (hw : ∀ d ∈ tables_1, d.before a0 Z = true) (ws : List Jvm.Cond) (a1 pk : Addr) (f : Nat → Int32) (i lf te x : Nat) (u1 u6 u8 u9 : Int32) (h0 : Heap) (n0 : Nat) (Z0 : n0 ≤ h0.size) (U : Cur Z h0 a1 (.ref pk) u1 (Int32.ofNat i) (Int32.ofNat lf) (1 : Int32) (Int32.ofNat te) u6 (Int32.ofNat x) u8 u9) (hne : a1 ≠ pk) (g_a1 : n0 ≤ a1) (A : BArr Z h0 pk 20 f) (hi : i < 20) (hlf : 0 < lf) (hlf' : lf < 100) (hx' : x < 100) (hte : te ≤ 20) (hfc : i < te → f i = (44 : Int32)) (hge : i = te) :
    MetFree l (⟨"com/example/warmjoin/warmjoin/PackedFields$Cursor", "next", "()Z"⟩ : MethodName) (head1 (Jvm.Cond.code (⟨"com/example/warmjoin/warmjoin/PackedFields$Cursor", "next", "()Z"⟩ : MethodName) prog_100_method_3_code 5 (some .boolean) :: ws) ({ frames := 2, cells := 0, slots := 0, locals := 38 } : Room)) (fun a U => a = #[(.ref a1)] ∧ Z.Warmed39 U.vm ∧ U.heap = h0) (fun _ _ _ _ _ => True) (fun _ U o U' => ∃ v L, o = .returned v ∧ Q_rm_next1E Z a1 pk f i lf te x u1 u6 u8 u9 h0 n0 v U'.heap L ∧ FrameEnd U o U' L ({ frames := 2, cells := 0, slots := 0, locals := 38 } : Room).cells ({ frames := 2, cells := 0, slots := 0, locals := 38 } : Room).slots) := by
  refine own_met (y := (⟨"com/example/warmjoin/warmjoin/PackedFields$Cursor", "next", "()Z"⟩ : MethodName)) (Q := (Q_rm_next1E Z a1 pk f i lf te x u1 u6 u8 u9 h0 n0)) (plainFor_of_name pn_1) fun p e s m below meth c s₁ X0 hx hby hml hret hlk hown hnm hZ e0 => ?_
  refine own_entry (ef_4_R m a1) ?_
  obtain ⟨E1, F0, F1, F2, F3, F4, F5, F6, F7, F8, F9⟩ := U
  have K0 := Keep.refl h0 [a1]
  refine own_to s₁ (mkF m 1 #[.val (.ref a1), .unset, .unset, .unset, .unset] [(.ref a1)]) (fun tq kq => XS.aloadN X0.here hx rfl (hb hby d4_0) rfl rfl kq) ?_
  obtain ⟨T1, X1, e1, st1⟩ := getF X0 hx hZ hown (host := "") (Or.inl (own_w hw 21 rfl)) Via.refl e0 F3 (g := (mkF m 1 #[.val (.ref a1), .unset, .unset, .unset, .unset] [(.ref a1)])) rfl rfl (hb hby d4_1)
  refine own_to T1 (mkF m 114 #[.val (.ref a1), .unset, .unset, .unset, .unset] [(.ref a1)]) (fun tq kq => st1 _ (XS.ifYes X1.here hx rfl (pc0 := 4) (pc' := 113) rfl (hb hby d4_4) rfl ((if0 _ _).trans (feq (mt (own_eqn (b := 0) (by omega) (by decide)).mp (by omega))).2) (by decide) (by decide) (XS.aloadN X1.here hx rfl (hb hby d4_113) rfl rfl kq))) ?_
  obtain ⟨T2, X2, e2, st2⟩ := getF X1 hx hZ hown (host := "") (Or.inl (own_w hw 51 rfl)) Via.refl e1 F4 (g := (mkF m 114 #[.val (.ref a1), .unset, .unset, .unset, .unset] [(.ref a1)])) rfl rfl (hb hby d4_114)
  refine own_to T2 (mkF m 121 #[.val (.ref a1), .unset, .unset, .unset, .unset] [(.ref a1)]) (fun tq kq => st2 _ (XS.ifNo X2.here hx rfl (hb hby d4_117) rfl ((if0 _ _).trans (feq (by decide : ¬ ((1 : Int32) = (0 : Int32)))).1) (XS.aloadN X2.here hx rfl (hb hby d4_120) rfl rfl kq))) ?_
  obtain ⟨T3, X3, e3, st3⟩ := getF X2 hx hZ hown (host := "") (Or.inl (own_w hw 15 rfl)) Via.refl e2 F0 (g := (mkF m 121 #[.val (.ref a1), .unset, .unset, .unset, .unset] [(.ref a1)])) rfl rfl (hb hby d4_121)
  refine own_to T3 (mkF m 125 #[.val (.ref a1), .unset, .unset, .unset, .unset] [(.ref a1), (.ref pk)]) (fun tq kq => st3 _ (XS.aloadN X3.here hx rfl (hb hby d4_124) rfl rfl kq)) ?_
  obtain ⟨T4, X4, e4, st4⟩ := getF X3 hx hZ hown (host := "") (Or.inl (own_w hw 19 rfl)) Via.refl e3 F2 (g := (mkF m 125 #[.val (.ref a1), .unset, .unset, .unset, .unset] [(.ref a1), (.ref pk)])) rfl rfl (hb hby d4_125)
  refine own_to T4 (mkF m 129 #[.val (.ref a1), .unset, .unset, .unset, .unset] [(.ref a1), (.int (Int32.ofNat i)), (.ref pk)]) (fun tq kq => st4 _ (XS.aloadN X4.here hx rfl (hb hby d4_128) rfl rfl kq)) ?_
  obtain ⟨T5, X5, e5, st5⟩ := getF X4 hx hZ hown (host := "") (Or.inl (own_w hw 56 rfl)) Via.refl e4 F5 (g := (mkF m 129 #[.val (.ref a1), .unset, .unset, .unset, .unset] [(.ref a1), (.int (Int32.ofNat i)), (.ref pk)])) rfl rfl (hb hby d4_129)
  refine own_to T5 (mkF m 132 #[.val (.ref a1), .unset, .unset, .unset, .unset] [(.int (Int32.ofNat te)), (.int (Int32.ofNat i)), (.ref pk)]) (fun tq kq => st5 _ kq) ?_
  obtain ⟨_, _, ⟨T6, L6, k6, n6⟩, -, X6, ⟨Lc6, hQ6, l6, y6, z6⟩, st6⟩ := callSN X5 hx (y := (⟨"com/example/warmjoin/warmjoin/PackedFields", "comma", "([BII)I"⟩ : MethodName)) hown (own_mvMN hZ (own_w hw 63 rfl)) (mvT hZ (own_w hw 64 rfl)) (mvT hZ (own_w hw 30 rfl)) (mvT hZ (own_w hw 65 rfl)) (by decide) (backOf (W := 0) (rm_comma l Z a0 hw [] pk f (i) (te) h0 n0 Z0 A (by omega) (by omega) hfc) hZ (own_w hw 65 rfl) (own_w hw 30 rfl) (by decide) (by decide)) (g := (mkF m 132 #[.val (.ref a1), .unset, .unset, .unset, .unset] [(.int (Int32.ofNat te)), (.int (Int32.ofNat i)), (.ref pk)])) rfl (by rw [hml]; rfl) (argsL := [(.ref pk), (.int (Int32.ofNat i)), (.int (Int32.ofNat te))]) (rest := []) (lenOf pd_7 rfl) rfl (by show 2 * 0 + _ ≤ _; exact Nat.le_of_eq rfl) (hb hby d4_132) (fun _ _ => ⟨rfl, e5, (by decide : 0 + 0 ≤ _), (by decide : 0 + 0 ≤ _)⟩)
  dsimp only [Pt.U, Pt.locs, Pt.cells, Pt.slots] at X6 l6 y6 z6 st6 hQ6
  have l6y := l6.symm
  clear l6
  subst l6y
  obtain rfl : k6 = 0 := y6
  obtain rfl : n6 = 0 := z6
  obtain ⟨rfl, N6q, e6⟩ := hQ6
  have N6 := Fr.app (Fr.nil n0) N6q
  refine own_to T6 (mkF m 138 #[.val (.ref a1), .val (.int (Int32.ofNat (i))), .unset, .unset, .unset] [(.ref a1), (.ref a1)]) (fun tq kq => st6.trans (XS.istoreN X6.here hx rfl (hb hby d4_135) rfl (l' := #[.val (.ref a1), .val (.int (Int32.ofNat (i))), .unset, .unset, .unset]) rfl (XS.aloadN X6.here hx rfl (hb hby d4_136) rfl rfl (XS.aloadN X6.here hx rfl (hb hby d4_137) rfl rfl kq)))) ?_
  obtain ⟨T7, X7, e7, st7⟩ := getF X6 hx hZ hown (host := "") (Or.inl (own_w hw 19 rfl)) Via.refl e6 F2 (g := (mkF m 138 #[.val (.ref a1), .val (.int (Int32.ofNat (i))), .unset, .unset, .unset] [(.ref a1), (.ref a1)])) rfl rfl (hb hby d4_138)
  refine own_to T7 (mkF m 141 #[.val (.ref a1), .val (.int (Int32.ofNat (i))), .unset, .unset, .unset] [(.int (Int32.ofNat i)), (.ref a1)]) (fun tq kq => st7 _ kq) ?_
  obtain ⟨T8, h8, X8, e8, W8, st8⟩ := putF X7 hx hZ hown (host := "") (Or.inl (own_w hw 66 rfl)) Via.refl e7 F8 E1 (Or.inl (own_w hw 67 rfl)) (own_w hw 2 rfl) (ty := .int) (by decide) rfl rfl (g := (mkF m 141 #[.val (.ref a1), .val (.int (Int32.ofNat (i))), .unset, .unset, .unset] [(.int (Int32.ofNat i)), (.ref a1)])) rfl rfl (hb hby d4_141)
  have f9 := E1.wr W8
  have f10 := F0.other W8 (Or.inr (sn_packed_offset hw))
  have f11 := F1.other W8 (Or.inr (sn_to_offset hw))
  have f12 := F2.other W8 (Or.inr (sn_at_offset hw))
  have f13 := F3.other W8 (Or.inr (sn_left_offset hw))
  have f14 := F4.other W8 (Or.inr (sn_text_offset hw))
  have f15 := F5.other W8 (Or.inr (sn_textEnd_offset hw))
  have f16 := F6.other W8 (Or.inr (sn_literals_offset hw))
  have f17 := F7.other W8 (Or.inr (sn_index_offset hw))
  have f18 := F9.other W8 (Or.inr (sn_length_offset hw))
  have f19 := A.other W8 (Ne.symm hne)
  have f20 := F8.same W8
  have N8 := Fr.snoc X8 N6 g_a1
  have Zs8 : n0 ≤ h8.size := by rw [W8.size]; exact Z0
  have K8 := K0.wr W8 (Or.inl (List.mem_of_getElem? (i := 0) rfl))
  refine own_to T8 (mkF m 147 #[.val (.ref a1), .val (.int (Int32.ofNat (i))), .unset, .unset, .unset] [(.ref a1), (.int (Int32.ofNat (i))), (.ref a1)]) (fun tq kq => st8 _ (XS.aloadN X8.here hx rfl (hb hby d4_144) rfl rfl (XS.iloadN X8.here hx rfl (hb hby d4_145) rfl (XS.aloadN X8.here hx rfl (hb hby d4_146) rfl rfl kq)))) ?_
  obtain ⟨T21, X21, e21, st21⟩ := getF X8 hx hZ hown (host := "") (Or.inl (own_w hw 19 rfl)) Via.refl e8 f12 (g := (mkF m 147 #[.val (.ref a1), .val (.int (Int32.ofNat (i))), .unset, .unset, .unset] [(.ref a1), (.int (Int32.ofNat (i))), (.ref a1)])) rfl rfl (hb hby d4_147)
  refine own_to T21 (mkF m 151 #[.val (.ref a1), .val (.int (Int32.ofNat (i))), .unset, .unset, .unset] [(.int ((Int32.ofNat (i)) - (Int32.ofNat i))), (.ref a1)]) (fun tq kq => st21 _ (XS.isub X21.here hx rfl (hb hby d4_150) rfl kq)) ?_
  rw [show ((Int32.ofNat (i)) - (Int32.ofNat i)) = (0 : Int32) from by rw [own_subn (i) (i) (by omega) (by omega), Nat.sub_self]; rfl]
  obtain ⟨T22, h22, X22, e22, W22, st22⟩ := putF X21 hx hZ hown (host := "") (Or.inl (own_w hw 68 rfl)) Via.refl e21 f18 f9 (Or.inl (own_w hw 69 rfl)) (own_w hw 2 rfl) (ty := .int) (by decide) rfl rfl (g := (mkF m 151 #[.val (.ref a1), .val (.int (Int32.ofNat (i))), .unset, .unset, .unset] [(.int (0 : Int32)), (.ref a1)])) rfl rfl (hb hby d4_151)
  have f23 := f9.wr W22
  have f24 := f10.other W22 (Or.inr (sn_packed_length hw))
  have f25 := f11.other W22 (Or.inr (sn_to_length hw))
  have f26 := f12.other W22 (Or.inr (sn_at_length hw))
  have f27 := f13.other W22 (Or.inr (sn_left_length hw))
  have f28 := f14.other W22 (Or.inr (sn_text_length hw))
  have f29 := f15.other W22 (Or.inr (sn_textEnd_length hw))
  have f30 := f16.other W22 (Or.inr (sn_literals_length hw))
  have f31 := f17.other W22 (Or.inr (sn_index_length hw))
  have f32 := f20.other W22 (Or.inr (sn_offset_length hw))
  have f33 := f19.other W22 (Ne.symm hne)
  have f34 := f18.same W22
  have N22 := Fr.snoc X22 N8 g_a1
  have Zs22 : n0 ≤ h22.size := by rw [W22.size]; exact Zs8
  have K22 := K8.wr W22 (Or.inl (List.mem_of_getElem? (i := 0) rfl))
  refine own_to T22 (mkF m 157 #[.val (.ref a1), .val (.int (Int32.ofNat (i))), .unset, .unset, .unset] [(.ref a1), (.int (Int32.ofNat (i))), (.ref a1)]) (fun tq kq => st22 _ (XS.aloadN X22.here hx rfl (hb hby d4_154) rfl rfl (XS.iloadN X22.here hx rfl (hb hby d4_155) rfl (XS.aloadN X22.here hx rfl (hb hby d4_156) rfl rfl kq)))) ?_
  obtain ⟨T35, X35, e35, st35⟩ := getF X22 hx hZ hown (host := "") (Or.inl (own_w hw 56 rfl)) Via.refl e22 f29 (g := (mkF m 157 #[.val (.ref a1), .val (.int (Int32.ofNat (i))), .unset, .unset, .unset] [(.ref a1), (.int (Int32.ofNat (i))), (.ref a1)])) rfl rfl (hb hby d4_157)
  refine own_to T35 (mkF m 170 #[.val (.ref a1), .val (.int (Int32.ofNat (i))), .unset, .unset, .unset] [(.int (Int32.ofNat (i))), (.ref a1)]) (fun tq kq => st35 _ (XS.icmpYes X35.here hx rfl (pc0 := 160) (pc' := 169) rfl (hb hby d4_160) rfl (flt (mt (own_ltn (by omega) (by omega)).mp (by omega))).2.1 (by decide) (by decide) (XS.iloadN X35.here hx rfl (hb hby d4_169) rfl kq))) ?_
  obtain ⟨T36, h36, X36, e36, W36, st36⟩ := putF X35 hx hZ hown (host := "") (Or.inl (own_w hw 19 rfl)) Via.refl e35 f26 f23 (Or.inl (own_w hw 20 rfl)) (own_w hw 2 rfl) (ty := .int) (by decide) rfl rfl (g := (mkF m 170 #[.val (.ref a1), .val (.int (Int32.ofNat (i))), .unset, .unset, .unset] [(.int (Int32.ofNat (i))), (.ref a1)])) rfl rfl (hb hby d4_170)
  have f37 := f23.wr W36
  have f38 := f24.other W36 (Or.inr (sn_packed_at hw))
  have f39 := f25.other W36 (Or.inr (sn_to_at hw))
  have f40 := f27.other W36 (Or.inr (sn_left_at hw))
  have f41 := f28.other W36 (Or.inr (sn_text_at hw))
  have f42 := f29.other W36 (Or.inr (sn_textEnd_at hw))
  have f43 := f30.other W36 (Or.inr (sn_literals_at hw))
  have f44 := f31.other W36 (Or.inr (sn_index_at hw))
  have f45 := f32.other W36 (Or.inr (sn_offset_at hw))
  have f46 := f34.other W36 (Or.inr (sn_length_at hw))
  have f47 := f33.other W36 (Ne.symm hne)
  have f48 := f26.same W36
  have N36 := Fr.snoc X36 N22 g_a1
  have Zs36 : n0 ≤ h36.size := by rw [W36.size]; exact Zs22
  have K36 := K22.wr W36 (Or.inl (List.mem_of_getElem? (i := 0) rfl))
  refine own_to T36 (mkF m 218 #[.val (.ref a1), .val (.int (Int32.ofNat (i))), .unset, .unset, .unset] [(.ref a1), (.ref a1)]) (fun tq kq => st36 _ (XS.goto X36.here hx rfl (pc0 := 173) (pc' := 216) rfl (hb hby d4_173) (by decide) (by decide) (XS.aloadN X36.here hx rfl (hb hby d4_216) rfl rfl (XS.dup X36.here hx rfl (hb hby d4_217) rfl rfl kq)))) ?_
  obtain ⟨T49, X49, e49, st49⟩ := getF X36 hx hZ hown (host := "") (Or.inl (own_w hw 21 rfl)) Via.refl e36 f40 (g := (mkF m 218 #[.val (.ref a1), .val (.int (Int32.ofNat (i))), .unset, .unset, .unset] [(.ref a1), (.ref a1)])) rfl rfl (hb hby d4_218)
  refine own_to T49 (mkF m 223 #[.val (.ref a1), .val (.int (Int32.ofNat (i))), .unset, .unset, .unset] [(.int ((Int32.ofNat lf) - (1 : Int32))), (.ref a1)]) (fun tq kq => st49 _ (XS.iconst X49.here hx rfl (hb hby d4_221) (XS.isub X49.here hx rfl (hb hby d4_222) rfl kq))) ?_
  rw [show ((Int32.ofNat lf) - (1 : Int32)) = (Int32.ofNat (lf - 1)) from own_subn lf 1 (by omega) (by omega)]
  obtain ⟨T50, h50, X50, e50, W50, st50⟩ := putF X49 hx hZ hown (host := "") (Or.inl (own_w hw 21 rfl)) Via.refl e49 f40 f37 (Or.inl (own_w hw 22 rfl)) (own_w hw 2 rfl) (ty := .int) (by decide) rfl rfl (g := (mkF m 223 #[.val (.ref a1), .val (.int (Int32.ofNat (i))), .unset, .unset, .unset] [(.int (Int32.ofNat (lf - 1))), (.ref a1)])) rfl rfl (hb hby d4_223)
  have f51 := f37.wr W50
  have f52 := f38.other W50 (Or.inr (sn_packed_left hw))
  have f53 := f39.other W50 (Or.inr (sn_to_left hw))
  have f54 := f48.other W50 (Or.inr (sn_at_left hw))
  have f55 := f41.other W50 (Or.inr (sn_text_left hw))
  have f56 := f42.other W50 (Or.inr (sn_textEnd_left hw))
  have f57 := f43.other W50 (Or.inr (sn_literals_left hw))
  have f58 := f44.other W50 (Or.inr (sn_index_left hw))
  have f59 := f45.other W50 (Or.inr (sn_offset_left hw))
  have f60 := f46.other W50 (Or.inr (sn_length_left hw))
  have f61 := f47.other W50 (Ne.symm hne)
  have f62 := f40.same W50
  have N50 := Fr.snoc X50 N36 g_a1
  have Zs50 : n0 ≤ h50.size := by rw [W50.size]; exact Zs36
  have K50 := K36.wr W50 (Or.inl (List.mem_of_getElem? (i := 0) rfl))
  refine own_to T50 (mkF m 228 #[.val (.ref a1), .val (.int (Int32.ofNat (i))), .unset, .unset, .unset] [(.ref a1), (.ref a1)]) (fun tq kq => st50 _ (XS.aloadN X50.here hx rfl (hb hby d4_226) rfl rfl (XS.dup X50.here hx rfl (hb hby d4_227) rfl rfl kq))) ?_
  obtain ⟨T63, X63, e63, st63⟩ := getF X50 hx hZ hown (host := "") (Or.inl (own_w hw 61 rfl)) Via.refl e50 f58 (g := (mkF m 228 #[.val (.ref a1), .val (.int (Int32.ofNat (i))), .unset, .unset, .unset] [(.ref a1), (.ref a1)])) rfl rfl (hb hby d4_228)
  refine own_to T63 (mkF m 233 #[.val (.ref a1), .val (.int (Int32.ofNat (i))), .unset, .unset, .unset] [(.int ((Int32.ofNat x) + (1 : Int32))), (.ref a1)]) (fun tq kq => st63 _ (XS.iconst X63.here hx rfl (hb hby d4_231) (XS.iadd X63.here hx rfl (hb hby d4_232) rfl kq))) ?_
  rw [show ((Int32.ofNat x) + (1 : Int32)) = (Int32.ofNat (x + 1)) from own_addn x 1 (by omega) (by decide)]
  obtain ⟨T64, h64, X64, e64, W64, st64⟩ := putF X63 hx hZ hown (host := "") (Or.inl (own_w hw 61 rfl)) Via.refl e63 f58 f51 (Or.inl (own_w hw 62 rfl)) (own_w hw 2 rfl) (ty := .int) (by decide) rfl rfl (g := (mkF m 233 #[.val (.ref a1), .val (.int (Int32.ofNat (i))), .unset, .unset, .unset] [(.int (Int32.ofNat (x + 1))), (.ref a1)])) rfl rfl (hb hby d4_233)
  have f65 := f51.wr W64
  have f66 := f52.other W64 (Or.inr (sn_packed_index hw))
  have f67 := f53.other W64 (Or.inr (sn_to_index hw))
  have f68 := f54.other W64 (Or.inr (sn_at_index hw))
  have f69 := f62.other W64 (Or.inr (sn_left_index hw))
  have f70 := f55.other W64 (Or.inr (sn_text_index hw))
  have f71 := f56.other W64 (Or.inr (sn_textEnd_index hw))
  have f72 := f57.other W64 (Or.inr (sn_literals_index hw))
  have f73 := f59.other W64 (Or.inr (sn_offset_index hw))
  have f74 := f60.other W64 (Or.inr (sn_length_index hw))
  have f75 := f61.other W64 (Ne.symm hne)
  have f76 := f58.same W64
  have N64 := Fr.snoc X64 N50 g_a1
  have Zs64 : n0 ≤ h64.size := by rw [W64.size]; exact Zs50
  have K64 := K50.wr W64 (Or.inl (List.mem_of_getElem? (i := 0) rfl))
  refine own_to T64 (mkF m 237 #[.val (.ref a1), .val (.int (Int32.ofNat (i))), .unset, .unset, .unset] [(.int (1 : Int32))]) (fun tq kq => st64 _ (XS.iconst X64.here hx rfl (hb hby d4_236) kq)) ?_
  exact own_retZ X64 hx hret hlk (hb hby d4_237) (by decide) (by decide) (Or.inr rfl) (by rw [e64]; exact ⟨rfl, N64, K64, _, _, ⟨f65, f66, f67, f68, f69, f70, f71, f72, f76, f73, f74⟩⟩)
def Q_rm_next1N (Z : State) (a1 pk : Addr) (f : Nat → Int32) (i lf te x : Nat) (u1 u6 u8 u9 : Int32) (h0 : Heap) (n0 : Nat) (v : Option Value) (h : Heap) (L : List Loc) : Prop := v = some (.int (1 : Int32)) ∧ Fr n0 L ∧ Keep h0 h [a1] ∧ ∃ o' l', Cur Z h a1 (.ref pk) u1 (Int32.ofNat (i + 1 + 0)) (Int32.ofNat (lf - 1)) (0 : Int32) (Int32.ofNat te) u6 (Int32.ofNat (x + 1)) o' l'
set_option maxRecDepth 65536 in
set_option maxHeartbeats 40000000 in
theorem rm_next1N (l : Launch) (Z : State) (a0 : Array Value) (hw : ∀ d ∈ tables_1, d.before a0 Z = true) (ws : List Jvm.Cond) (a1 pk : Addr) (f : Nat → Int32) (i lf te x : Nat) (u1 u6 u8 u9 : Int32) (h0 : Heap) (n0 : Nat) (Z0 : n0 ≤ h0.size) (U : Cur Z h0 a1 (.ref pk) u1 (Int32.ofNat i) (Int32.ofNat lf) (0 : Int32) (Int32.ofNat te) u6 (Int32.ofNat x) u8 u9) (hne : a1 ≠ pk) (g_a1 : n0 ≤ a1) (A : BArr Z h0 pk 20 f) (hi : i < 20) (hlf : 0 < lf) (hlf' : lf < 100) (hx' : x < 100) (hte : te ≤ 20) (hfc : f i = Int32.ofNat 0) :
    MetFree l (⟨"com/example/warmjoin/warmjoin/PackedFields$Cursor", "next", "()Z"⟩ : MethodName) (head1 (Jvm.Cond.code (⟨"com/example/warmjoin/warmjoin/PackedFields$Cursor", "next", "()Z"⟩ : MethodName) prog_100_method_3_code 5 (some .boolean) :: ws) ({ frames := 2, cells := 0, slots := 0, locals := 38 } : Room)) (fun a U => a = #[(.ref a1)] ∧ Z.Warmed39 U.vm ∧ U.heap = h0) (fun _ _ _ _ _ => True) (fun _ U o U' => ∃ v L, o = .returned v ∧ Q_rm_next1N Z a1 pk f i lf te x u1 u6 u8 u9 h0 n0 v U'.heap L ∧ FrameEnd U o U' L ({ frames := 2, cells := 0, slots := 0, locals := 38 } : Room).cells ({ frames := 2, cells := 0, slots := 0, locals := 38 } : Room).slots) := by
  refine own_met (y := (⟨"com/example/warmjoin/warmjoin/PackedFields$Cursor", "next", "()Z"⟩ : MethodName)) (Q := (Q_rm_next1N Z a1 pk f i lf te x u1 u6 u8 u9 h0 n0)) (plainFor_of_name pn_1) fun p e s m below meth c s₁ X0 hx hby hml hret hlk hown hnm hZ e0 => ?_
  refine own_entry (ef_4_R m a1) ?_
  obtain ⟨E1, F0, F1, F2, F3, F4, F5, F6, F7, F8, F9⟩ := U
  have K0 := Keep.refl h0 [a1]
  refine own_to s₁ (mkF m 1 #[.val (.ref a1), .unset, .unset, .unset, .unset] [(.ref a1)]) (fun tq kq => XS.aloadN X0.here hx rfl (hb hby d4_0) rfl rfl kq) ?_
  obtain ⟨T1, X1, e1, st1⟩ := getF X0 hx hZ hown (host := "") (Or.inl (own_w hw 21 rfl)) Via.refl e0 F3 (g := (mkF m 1 #[.val (.ref a1), .unset, .unset, .unset, .unset] [(.ref a1)])) rfl rfl (hb hby d4_1)
  refine own_to T1 (mkF m 114 #[.val (.ref a1), .unset, .unset, .unset, .unset] [(.ref a1)]) (fun tq kq => st1 _ (XS.ifYes X1.here hx rfl (pc0 := 4) (pc' := 113) rfl (hb hby d4_4) rfl ((if0 _ _).trans (feq (mt (own_eqn (b := 0) (by omega) (by decide)).mp (by omega))).2) (by decide) (by decide) (XS.aloadN X1.here hx rfl (hb hby d4_113) rfl rfl kq))) ?_
  obtain ⟨T2, X2, e2, st2⟩ := getF X1 hx hZ hown (host := "") (Or.inl (own_w hw 51 rfl)) Via.refl e1 F4 (g := (mkF m 114 #[.val (.ref a1), .unset, .unset, .unset, .unset] [(.ref a1)])) rfl rfl (hb hby d4_114)
  refine own_to T2 (mkF m 177 #[.val (.ref a1), .unset, .unset, .unset, .unset] [(.ref a1)]) (fun tq kq => st2 _ (XS.ifYes X2.here hx rfl (pc0 := 117) (pc' := 176) rfl (hb hby d4_117) rfl ((if0 _ _).trans (teq (by decide : (0 : Int32) = (0 : Int32))).1) (by decide) (by decide) (XS.aloadN X2.here hx rfl (hb hby d4_176) rfl rfl kq))) ?_
  obtain ⟨T3, X3, e3, st3⟩ := getF X2 hx hZ hown (host := "") (Or.inl (own_w hw 15 rfl)) Via.refl e2 F0 (g := (mkF m 177 #[.val (.ref a1), .unset, .unset, .unset, .unset] [(.ref a1)])) rfl rfl (hb hby d4_177)
  refine own_to T3 (mkF m 181 #[.val (.ref a1), .unset, .unset, .unset, .unset] [(.ref a1), (.ref pk)]) (fun tq kq => st3 _ (XS.aloadN X3.here hx rfl (hb hby d4_180) rfl rfl kq)) ?_
  obtain ⟨T4, X4, e4, st4⟩ := getF X3 hx hZ hown (host := "") (Or.inl (own_w hw 19 rfl)) Via.refl e3 F2 (g := (mkF m 181 #[.val (.ref a1), .unset, .unset, .unset, .unset] [(.ref a1), (.ref pk)])) rfl rfl (hb hby d4_181)
  refine own_to T4 (mkF m 184 #[.val (.ref a1), .unset, .unset, .unset, .unset] [(.int (Int32.ofNat i)), (.ref pk)]) (fun tq kq => st4 _ kq) ?_
  obtain ⟨_, _, ⟨T5, L5, k5, n5⟩, -, X5, ⟨Lc5, hQ5, l5, y5, z5⟩, st5⟩ := callSN X4 hx (y := (⟨"com/example/warmjoin/warmjoin/PackedFields", "number", "([BI)J"⟩ : MethodName)) hown (own_mvMN hZ (own_w hw 28 rfl)) (mvT hZ (own_w hw 29 rfl)) (mvT hZ (own_w hw 30 rfl)) (mvT hZ (own_w hw 31 rfl)) (by decide) (backOf (W := 0) (rm_number l Z a0 hw [] pk f (i) (0) h0 n0 Z0 A (by omega) hfc (by omega)) hZ (own_w hw 31 rfl) (own_w hw 30 rfl) (by decide) (by decide)) (g := (mkF m 184 #[.val (.ref a1), .unset, .unset, .unset, .unset] [(.int (Int32.ofNat i)), (.ref pk)])) rfl (by rw [hml]; rfl) (argsL := [(.ref pk), (.int (Int32.ofNat i))]) (rest := []) (lenOf pd_3 rfl) rfl (by show 2 * 0 + _ ≤ _; exact Nat.le_of_eq rfl) (hb hby d4_184) (fun _ _ => ⟨rfl, e4, (by decide : 0 + 0 ≤ _), (by decide : 0 + 0 ≤ _)⟩)
  dsimp only [Pt.U, Pt.locs, Pt.cells, Pt.slots] at X5 l5 y5 z5 st5 hQ5
  have l5y := l5.symm
  clear l5
  subst l5y
  obtain rfl : k5 = 0 := y5
  obtain rfl : n5 = 0 := z5
  obtain ⟨rfl, N5q, e5⟩ := hQ5
  have N5 := Fr.app (Fr.nil n0) N5q
  refine own_to T5 (mkF m 191 #[.val (.ref a1), .val (.long (own_pk (i + 1) (0))), .second, .unset, .unset] [(.int ((own_pk (i + 1) (0)).toInt32)), (.ref a1)]) (fun tq kq => st5.trans (XS.lstoreN X5.here hx rfl (hb hby d4_187) rfl (l' := #[.val (.ref a1), .val (.long (own_pk (i + 1) (0))), .second, .unset, .unset]) rfl (XS.aloadN X5.here hx rfl (hb hby d4_188) rfl rfl (XS.lloadN X5.here hx rfl (hb hby d4_189) rfl (XS.l2i X5.here hx rfl (hb hby d4_190) rfl kq))))) ?_
  rw [show ((own_pk (i + 1) (0)).toInt32) = (Int32.ofNat (0)) from own_len (by omega) (by omega)]
  obtain ⟨T6, h6, X6, e6, W6, st6⟩ := putF X5 hx hZ hown (host := "") (Or.inl (own_w hw 68 rfl)) Via.refl e5 F9 E1 (Or.inl (own_w hw 69 rfl)) (own_w hw 2 rfl) (ty := .int) (by decide) rfl rfl (g := (mkF m 191 #[.val (.ref a1), .val (.long (own_pk (i + 1) (0))), .second, .unset, .unset] [(.int (Int32.ofNat (0))), (.ref a1)])) rfl rfl (hb hby d4_191)
  have f7 := E1.wr W6
  have f8 := F0.other W6 (Or.inr (sn_packed_length hw))
  have f9 := F1.other W6 (Or.inr (sn_to_length hw))
  have f10 := F2.other W6 (Or.inr (sn_at_length hw))
  have f11 := F3.other W6 (Or.inr (sn_left_length hw))
  have f12 := F4.other W6 (Or.inr (sn_text_length hw))
  have f13 := F5.other W6 (Or.inr (sn_textEnd_length hw))
  have f14 := F6.other W6 (Or.inr (sn_literals_length hw))
  have f15 := F7.other W6 (Or.inr (sn_index_length hw))
  have f16 := F8.other W6 (Or.inr (sn_offset_length hw))
  have f17 := A.other W6 (Ne.symm hne)
  have f18 := F9.same W6
  have N6 := Fr.snoc X6 N5 g_a1
  have Zs6 : n0 ≤ h6.size := by rw [W6.size]; exact Z0
  have K6 := K0.wr W6 (Or.inl (List.mem_of_getElem? (i := 0) rfl))
  refine own_to T6 (mkF m 200 #[.val (.ref a1), .val (.long (own_pk (i + 1) (0))), .second, .unset, .unset] [(.int ((((own_pk (i + 1) (0)).toUInt64 >>> ((32 : Int32) &&& 0x3f).toInt64.toUInt64).toInt64).toInt32)), (.ref a1)]) (fun tq kq => st6 _ (XS.aloadN X6.here hx rfl (hb hby d4_194) rfl rfl (XS.lloadN X6.here hx rfl (hb hby d4_195) rfl (XS.bipush X6.here hx rfl (hb hby d4_196) (XS.lushr X6.here hx rfl (hb hby d4_198) rfl (XS.l2i X6.here hx rfl (hb hby d4_199) rfl kq)))))) ?_
  rw [show ((((own_pk (i + 1) (0)).toUInt64 >>> ((32 : Int32) &&& 0x3f).toInt64.toUInt64).toInt64).toInt32) = (Int32.ofNat (i + 1)) from own_start (by omega) (by omega)]
  obtain ⟨T19, h19, X19, e19, W19, st19⟩ := putF X6 hx hZ hown (host := "") (Or.inl (own_w hw 66 rfl)) Via.refl e6 f16 f7 (Or.inl (own_w hw 67 rfl)) (own_w hw 2 rfl) (ty := .int) (by decide) rfl rfl (g := (mkF m 200 #[.val (.ref a1), .val (.long (own_pk (i + 1) (0))), .second, .unset, .unset] [(.int (Int32.ofNat (i + 1))), (.ref a1)])) rfl rfl (hb hby d4_200)
  have f20 := f7.wr W19
  have f21 := f8.other W19 (Or.inr (sn_packed_offset hw))
  have f22 := f9.other W19 (Or.inr (sn_to_offset hw))
  have f23 := f10.other W19 (Or.inr (sn_at_offset hw))
  have f24 := f11.other W19 (Or.inr (sn_left_offset hw))
  have f25 := f12.other W19 (Or.inr (sn_text_offset hw))
  have f26 := f13.other W19 (Or.inr (sn_textEnd_offset hw))
  have f27 := f14.other W19 (Or.inr (sn_literals_offset hw))
  have f28 := f15.other W19 (Or.inr (sn_index_offset hw))
  have f29 := f18.other W19 (Or.inr (sn_length_offset hw))
  have f30 := f17.other W19 (Ne.symm hne)
  have f31 := f16.same W19
  have N19 := Fr.snoc X19 N6 g_a1
  have Zs19 : n0 ≤ h19.size := by rw [W19.size]; exact Zs6
  have K19 := K6.wr W19 (Or.inl (List.mem_of_getElem? (i := 0) rfl))
  refine own_to T19 (mkF m 205 #[.val (.ref a1), .val (.long (own_pk (i + 1) (0))), .second, .unset, .unset] [(.ref a1), (.ref a1)]) (fun tq kq => st19 _ (XS.aloadN X19.here hx rfl (hb hby d4_203) rfl rfl (XS.aloadN X19.here hx rfl (hb hby d4_204) rfl rfl kq))) ?_
  obtain ⟨T32, X32, e32, st32⟩ := getF X19 hx hZ hown (host := "") (Or.inl (own_w hw 66 rfl)) Via.refl e19 f31 (g := (mkF m 205 #[.val (.ref a1), .val (.long (own_pk (i + 1) (0))), .second, .unset, .unset] [(.ref a1), (.ref a1)])) rfl rfl (hb hby d4_205)
  refine own_to T32 (mkF m 209 #[.val (.ref a1), .val (.long (own_pk (i + 1) (0))), .second, .unset, .unset] [(.ref a1), (.int (Int32.ofNat (i + 1))), (.ref a1)]) (fun tq kq => st32 _ (XS.aloadN X32.here hx rfl (hb hby d4_208) rfl rfl kq)) ?_
  obtain ⟨T33, X33, e33, st33⟩ := getF X32 hx hZ hown (host := "") (Or.inl (own_w hw 68 rfl)) Via.refl e32 f29 (g := (mkF m 209 #[.val (.ref a1), .val (.long (own_pk (i + 1) (0))), .second, .unset, .unset] [(.ref a1), (.int (Int32.ofNat (i + 1))), (.ref a1)])) rfl rfl (hb hby d4_209)
  refine own_to T33 (mkF m 213 #[.val (.ref a1), .val (.long (own_pk (i + 1) (0))), .second, .unset, .unset] [(.int ((Int32.ofNat (i + 1)) + (Int32.ofNat (0)))), (.ref a1)]) (fun tq kq => st33 _ (XS.iadd X33.here hx rfl (hb hby d4_212) rfl kq)) ?_
  rw [show ((Int32.ofNat (i + 1)) + (Int32.ofNat (0))) = (Int32.ofNat (i + 1 + 0)) from own_addn (i + 1) 0 (by omega) (by decide)]
  obtain ⟨T34, h34, X34, e34, W34, st34⟩ := putF X33 hx hZ hown (host := "") (Or.inl (own_w hw 19 rfl)) Via.refl e33 f23 f20 (Or.inl (own_w hw 20 rfl)) (own_w hw 2 rfl) (ty := .int) (by decide) rfl rfl (g := (mkF m 213 #[.val (.ref a1), .val (.long (own_pk (i + 1) (0))), .second, .unset, .unset] [(.int (Int32.ofNat (i + 1 + 0))), (.ref a1)])) rfl rfl (hb hby d4_213)
  have f35 := f20.wr W34
  have f36 := f21.other W34 (Or.inr (sn_packed_at hw))
  have f37 := f22.other W34 (Or.inr (sn_to_at hw))
  have f38 := f24.other W34 (Or.inr (sn_left_at hw))
  have f39 := f25.other W34 (Or.inr (sn_text_at hw))
  have f40 := f26.other W34 (Or.inr (sn_textEnd_at hw))
  have f41 := f27.other W34 (Or.inr (sn_literals_at hw))
  have f42 := f28.other W34 (Or.inr (sn_index_at hw))
  have f43 := f31.other W34 (Or.inr (sn_offset_at hw))
  have f44 := f29.other W34 (Or.inr (sn_length_at hw))
  have f45 := f30.other W34 (Ne.symm hne)
  have f46 := f23.same W34
  have N34 := Fr.snoc X34 N19 g_a1
  have Zs34 : n0 ≤ h34.size := by rw [W34.size]; exact Zs19
  have K34 := K19.wr W34 (Or.inl (List.mem_of_getElem? (i := 0) rfl))
  refine own_to T34 (mkF m 218 #[.val (.ref a1), .val (.long (own_pk (i + 1) (0))), .second, .unset, .unset] [(.ref a1), (.ref a1)]) (fun tq kq => st34 _ (XS.aloadN X34.here hx rfl (hb hby d4_216) rfl rfl (XS.dup X34.here hx rfl (hb hby d4_217) rfl rfl kq))) ?_
  obtain ⟨T47, X47, e47, st47⟩ := getF X34 hx hZ hown (host := "") (Or.inl (own_w hw 21 rfl)) Via.refl e34 f38 (g := (mkF m 218 #[.val (.ref a1), .val (.long (own_pk (i + 1) (0))), .second, .unset, .unset] [(.ref a1), (.ref a1)])) rfl rfl (hb hby d4_218)
  refine own_to T47 (mkF m 223 #[.val (.ref a1), .val (.long (own_pk (i + 1) (0))), .second, .unset, .unset] [(.int ((Int32.ofNat lf) - (1 : Int32))), (.ref a1)]) (fun tq kq => st47 _ (XS.iconst X47.here hx rfl (hb hby d4_221) (XS.isub X47.here hx rfl (hb hby d4_222) rfl kq))) ?_
  rw [show ((Int32.ofNat lf) - (1 : Int32)) = (Int32.ofNat (lf - 1)) from own_subn lf 1 (by omega) (by omega)]
  obtain ⟨T48, h48, X48, e48, W48, st48⟩ := putF X47 hx hZ hown (host := "") (Or.inl (own_w hw 21 rfl)) Via.refl e47 f38 f35 (Or.inl (own_w hw 22 rfl)) (own_w hw 2 rfl) (ty := .int) (by decide) rfl rfl (g := (mkF m 223 #[.val (.ref a1), .val (.long (own_pk (i + 1) (0))), .second, .unset, .unset] [(.int (Int32.ofNat (lf - 1))), (.ref a1)])) rfl rfl (hb hby d4_223)
  have f49 := f35.wr W48
  have f50 := f36.other W48 (Or.inr (sn_packed_left hw))
  have f51 := f37.other W48 (Or.inr (sn_to_left hw))
  have f52 := f46.other W48 (Or.inr (sn_at_left hw))
  have f53 := f39.other W48 (Or.inr (sn_text_left hw))
  have f54 := f40.other W48 (Or.inr (sn_textEnd_left hw))
  have f55 := f41.other W48 (Or.inr (sn_literals_left hw))
  have f56 := f42.other W48 (Or.inr (sn_index_left hw))
  have f57 := f43.other W48 (Or.inr (sn_offset_left hw))
  have f58 := f44.other W48 (Or.inr (sn_length_left hw))
  have f59 := f45.other W48 (Ne.symm hne)
  have f60 := f38.same W48
  have N48 := Fr.snoc X48 N34 g_a1
  have Zs48 : n0 ≤ h48.size := by rw [W48.size]; exact Zs34
  have K48 := K34.wr W48 (Or.inl (List.mem_of_getElem? (i := 0) rfl))
  refine own_to T48 (mkF m 228 #[.val (.ref a1), .val (.long (own_pk (i + 1) (0))), .second, .unset, .unset] [(.ref a1), (.ref a1)]) (fun tq kq => st48 _ (XS.aloadN X48.here hx rfl (hb hby d4_226) rfl rfl (XS.dup X48.here hx rfl (hb hby d4_227) rfl rfl kq))) ?_
  obtain ⟨T61, X61, e61, st61⟩ := getF X48 hx hZ hown (host := "") (Or.inl (own_w hw 61 rfl)) Via.refl e48 f56 (g := (mkF m 228 #[.val (.ref a1), .val (.long (own_pk (i + 1) (0))), .second, .unset, .unset] [(.ref a1), (.ref a1)])) rfl rfl (hb hby d4_228)
  refine own_to T61 (mkF m 233 #[.val (.ref a1), .val (.long (own_pk (i + 1) (0))), .second, .unset, .unset] [(.int ((Int32.ofNat x) + (1 : Int32))), (.ref a1)]) (fun tq kq => st61 _ (XS.iconst X61.here hx rfl (hb hby d4_231) (XS.iadd X61.here hx rfl (hb hby d4_232) rfl kq))) ?_
  rw [show ((Int32.ofNat x) + (1 : Int32)) = (Int32.ofNat (x + 1)) from own_addn x 1 (by omega) (by decide)]
  obtain ⟨T62, h62, X62, e62, W62, st62⟩ := putF X61 hx hZ hown (host := "") (Or.inl (own_w hw 61 rfl)) Via.refl e61 f56 f49 (Or.inl (own_w hw 62 rfl)) (own_w hw 2 rfl) (ty := .int) (by decide) rfl rfl (g := (mkF m 233 #[.val (.ref a1), .val (.long (own_pk (i + 1) (0))), .second, .unset, .unset] [(.int (Int32.ofNat (x + 1))), (.ref a1)])) rfl rfl (hb hby d4_233)
  have f63 := f49.wr W62
  have f64 := f50.other W62 (Or.inr (sn_packed_index hw))
  have f65 := f51.other W62 (Or.inr (sn_to_index hw))
  have f66 := f52.other W62 (Or.inr (sn_at_index hw))
  have f67 := f60.other W62 (Or.inr (sn_left_index hw))
  have f68 := f53.other W62 (Or.inr (sn_text_index hw))
  have f69 := f54.other W62 (Or.inr (sn_textEnd_index hw))
  have f70 := f55.other W62 (Or.inr (sn_literals_index hw))
  have f71 := f57.other W62 (Or.inr (sn_offset_index hw))
  have f72 := f58.other W62 (Or.inr (sn_length_index hw))
  have f73 := f59.other W62 (Ne.symm hne)
  have f74 := f56.same W62
  have N62 := Fr.snoc X62 N48 g_a1
  have Zs62 : n0 ≤ h62.size := by rw [W62.size]; exact Zs48
  have K62 := K48.wr W62 (Or.inl (List.mem_of_getElem? (i := 0) rfl))
  refine own_to T62 (mkF m 237 #[.val (.ref a1), .val (.long (own_pk (i + 1) (0))), .second, .unset, .unset] [(.int (1 : Int32))]) (fun tq kq => st62 _ (XS.iconst X62.here hx rfl (hb hby d4_236) kq)) ?_
  exact own_retZ X62 hx hret hlk (hb hby d4_237) (by decide) (by decide) (Or.inr rfl) (by rw [e62]; exact ⟨rfl, N62, K62, _, _, ⟨f63, f64, f65, f66, f67, f68, f69, f70, f74, f71, f72⟩⟩)
theorem d13_0 : decode prog_100_method_4_code 0 = .ok (.aload_n 0, 1) := by decide +kernel
theorem d13_1 : decode prog_100_method_4_code 1 = .ok (.getfield 61, 3) := by decide +kernel
theorem d13_4 : decode prog_100_method_4_code 4 = .ok (.ifCond .lt 36, 3) := by decide +kernel
theorem d13_7 : decode prog_100_method_4_code 7 = .ok (.aload_n 0, 1) := by decide +kernel
theorem d13_8 : decode prog_100_method_4_code 8 = .ok (.getfield 7, 3) := by decide +kernel
theorem d13_11 : decode prog_100_method_4_code 11 = .ok (.aload_n 0, 1) := by decide +kernel
theorem d13_12 : decode prog_100_method_4_code 12 = .ok (.getfield 61, 3) := by decide +kernel
theorem d13_15 : decode prog_100_method_4_code 15 = .ok (.aload_n 0, 1) := by decide +kernel
theorem d13_16 : decode prog_100_method_4_code 16 = .ok (.getfield 64, 3) := by decide +kernel
theorem d13_19 : decode prog_100_method_4_code 19 = .ok (.iconst 3, 1) := by decide +kernel
theorem d13_20 : decode prog_100_method_4_code 20 = .ok (.iushr, 1) := by decide +kernel
theorem d13_21 : decode prog_100_method_4_code 21 = .ok (.iadd, 1) := by decide +kernel
theorem d13_22 : decode prog_100_method_4_code 22 = .ok (.baload, 1) := by decide +kernel
theorem d13_23 : decode prog_100_method_4_code 23 = .ok (.iconst 1, 1) := by decide +kernel
theorem d13_24 : decode prog_100_method_4_code 24 = .ok (.aload_n 0, 1) := by decide +kernel
theorem d13_25 : decode prog_100_method_4_code 25 = .ok (.getfield 64, 3) := by decide +kernel
theorem d13_28 : decode prog_100_method_4_code 28 = .ok (.bipush 7, 2) := by decide +kernel
theorem d13_30 : decode prog_100_method_4_code 30 = .ok (.iand, 1) := by decide +kernel
theorem d13_31 : decode prog_100_method_4_code 31 = .ok (.ishl, 1) := by decide +kernel
theorem d13_32 : decode prog_100_method_4_code 32 = .ok (.iand, 1) := by decide +kernel
theorem d13_33 : decode prog_100_method_4_code 33 = .ok (.ifCond .eq 7, 3) := by decide +kernel
theorem d13_36 : decode prog_100_method_4_code 36 = .ok (.iconst 1, 1) := by decide +kernel
theorem d13_37 : decode prog_100_method_4_code 37 = .ok (.goto 4, 3) := by decide +kernel
theorem d13_40 : decode prog_100_method_4_code 40 = .ok (.iconst 0, 1) := by decide +kernel
theorem d13_41 : decode prog_100_method_4_code 41 = .ok (.ireturn, 1) := by decide +kernel
def own_bit (x : Int32) : Int32 := if x = (0 : Int32) then 0 else 1
theorem ef_13_R (m : MethodId) (x0 : Addr) : entryFrame m #[(.ref x0)] 1 = mkF m 0 #[.val (.ref x0)] [] := by first | (simp [entryFrame, mkF, argsToLocals, Value.category]; done) | rfl
def Q_rm_lit7 (Z : State) (a1 pk : Addr) (f : Nat → Int32) (lt : Nat) (u1 u2 u3 u4 u5 u8 u9 : Int32) (h0 : Heap) (n0 : Nat) (v : Option Value) (h : Heap) (L : List Loc) : Prop := v = some (.int (own_bit ((f (lt + 0)) &&& ((1 : Int32) <<< ((Int32.ofNat (7) &&& (7 : Int32)) &&& 31))))) ∧ Fr n0 L ∧ h = h0
set_option maxRecDepth 65536 in
set_option maxHeartbeats 40000000 in
theorem rm_lit7 (l : Launch) (Z : State) (a0 : Array Value) (hw : ∀ d ∈ tables_1, d.before a0 Z = true) (ws : List Jvm.Cond) (a1 pk : Addr) (f : Nat → Int32) (lt : Nat) (u1 u2 u3 u4 u5 u8 u9 : Int32) (h0 : Heap) (n0 : Nat) (Z0 : n0 ≤ h0.size) (U : Cur Z h0 a1 (.ref pk) u1 u2 u3 u4 u5 (Int32.ofNat lt) (Int32.ofNat (7)) u8 u9) (A : BArr Z h0 pk 20 f) (hlt : lt < 18) :
    MetFree l (⟨"com/example/warmjoin/warmjoin/PackedFields$Cursor", "literal", "()Z"⟩ : MethodName) (head1 (Jvm.Cond.code (⟨"com/example/warmjoin/warmjoin/PackedFields$Cursor", "literal", "()Z"⟩ : MethodName) prog_100_method_4_code 1 (some .boolean) :: ws) ({ frames := 0, cells := 0, slots := 0, locals := 0 } : Room)) (fun a U => a = #[(.ref a1)] ∧ Z.Warmed39 U.vm ∧ U.heap = h0) (fun _ _ _ _ _ => True) (fun _ U o U' => ∃ v L, o = .returned v ∧ Q_rm_lit7 Z a1 pk f lt u1 u2 u3 u4 u5 u8 u9 h0 n0 v U'.heap L ∧ FrameEnd U o U' L ({ frames := 0, cells := 0, slots := 0, locals := 0 } : Room).cells ({ frames := 0, cells := 0, slots := 0, locals := 0 } : Room).slots) := by
  refine own_met (y := (⟨"com/example/warmjoin/warmjoin/PackedFields$Cursor", "literal", "()Z"⟩ : MethodName)) (Q := (Q_rm_lit7 Z a1 pk f lt u1 u2 u3 u4 u5 u8 u9 h0 n0)) (plainFor_of_name pn_1) fun p e s m below meth c s₁ X0 hx hby hml hret hlk hown hnm hZ e0 => ?_
  refine own_entry (ef_13_R m a1) ?_
  obtain ⟨E1, F0, F1, F2, F3, F4, F5, F6, F7, F8, F9⟩ := U
  obtain ⟨c1, Ar, hsz, hat⟩ := A
  have hin : ¬ ((Int32.ofNat (lt + 0)) < 0 ∨ c1.slots.size ≤ (Int32.ofNat (lt + 0)).toNatClampNeg) := by rw [hsz]; exact within rfl (show lt + 0 < 20 by omega) (by decide)
  have hat2 : c1.slots[(Int32.ofNat (lt + 0)).toNatClampNeg]? = some (.int (f (lt + 0))) := by rw [clamp_of rfl (by omega)]; exact hat _ (by omega)
  refine own_to s₁ (mkF m 1 #[.val (.ref a1)] [(.ref a1)]) (fun tq kq => XS.aloadN X0.here hx rfl (hb hby d13_0) rfl rfl kq) ?_
  obtain ⟨T1, X1, e1, st1⟩ := getF X0 hx hZ hown (host := "") (Or.inl (own_w hw 59 rfl)) Via.refl e0 F6 (g := (mkF m 1 #[.val (.ref a1)] [(.ref a1)])) rfl rfl (hb hby d13_1)
  refine own_to T1 (mkF m 8 #[.val (.ref a1)] [(.ref a1)]) (fun tq kq => st1 _ (XS.ifNo X1.here hx rfl (hb hby d13_4) rfl ((if0 _ _).trans (flt (own_nonneg (by omega))).1) (XS.aloadN X1.here hx rfl (hb hby d13_7) rfl rfl kq))) ?_
  obtain ⟨T2, X2, e2, st2⟩ := getF X1 hx hZ hown (host := "") (Or.inl (own_w hw 15 rfl)) Via.refl e1 F0 (g := (mkF m 8 #[.val (.ref a1)] [(.ref a1)])) rfl rfl (hb hby d13_8)
  refine own_to T2 (mkF m 12 #[.val (.ref a1)] [(.ref a1), (.ref pk)]) (fun tq kq => st2 _ (XS.aloadN X2.here hx rfl (hb hby d13_11) rfl rfl kq)) ?_
  obtain ⟨T3, X3, e3, st3⟩ := getF X2 hx hZ hown (host := "") (Or.inl (own_w hw 59 rfl)) Via.refl e2 F6 (g := (mkF m 12 #[.val (.ref a1)] [(.ref a1), (.ref pk)])) rfl rfl (hb hby d13_12)
  refine own_to T3 (mkF m 16 #[.val (.ref a1)] [(.ref a1), (.int (Int32.ofNat lt)), (.ref pk)]) (fun tq kq => st3 _ (XS.aloadN X3.here hx rfl (hb hby d13_15) rfl rfl kq)) ?_
  obtain ⟨T4, X4, e4, st4⟩ := getF X3 hx hZ hown (host := "") (Or.inl (own_w hw 61 rfl)) Via.refl e3 F7 (g := (mkF m 16 #[.val (.ref a1)] [(.ref a1), (.int (Int32.ofNat lt)), (.ref pk)])) rfl rfl (hb hby d13_16)
  refine own_to T4 (mkF m 21 #[.val (.ref a1)] [(.int (((Int32.ofNat (7)).toUInt32 >>> ((3 : Int32) &&& 31).toUInt32).toInt32)), (.int (Int32.ofNat lt)), (.ref pk)]) (fun tq kq => st4 _ (XS.iconst X4.here hx rfl (hb hby d13_19) (XS.iushr X4.here hx rfl (hb hby d13_20) rfl kq))) ?_
  rw [show (((Int32.ofNat (7)).toUInt32 >>> ((3 : Int32) &&& 31).toUInt32).toInt32) = (Int32.ofNat 0) from by decide]
  refine own_to T4 (mkF m 22 #[.val (.ref a1)] [(.int ((Int32.ofNat lt) + (Int32.ofNat 0))), (.ref pk)]) (fun tq kq => XS.iadd X4.here hx rfl (hb hby d13_21) rfl kq) ?_
  rw [show ((Int32.ofNat lt) + (Int32.ofNat 0)) = (Int32.ofNat (lt + 0)) from own_addn lt 0 (by omega) (by decide)]
  refine own_to T4 (mkF m 25 #[.val (.ref a1)] [(.ref a1), (.int (1 : Int32)), (.int (f (lt + 0)))]) (fun tq kq => X4.baloadBytes hx (j := (Int32.ofNat (lt + 0))) (v := (.int (f (lt + 0)))) (by rw [e4]; exact Ar.1) (State.isArrayOf_alike hZ.alike Ar.2.1) Ar.2.2 hin hat2 (g := (mkF m 22 #[.val (.ref a1)] [(.int (Int32.ofNat (lt + 0))), (.ref pk)])) rfl rfl (hb hby d13_22) _ (XS.iconst X4.here hx rfl (hb hby d13_23) (XS.aloadN X4.here hx rfl (hb hby d13_24) rfl rfl kq))) ?_
  obtain ⟨T5, X5, e5, st5⟩ := getF X4 hx hZ hown (host := "") (Or.inl (own_w hw 61 rfl)) Via.refl e4 F7 (g := (mkF m 25 #[.val (.ref a1)] [(.ref a1), (.int (1 : Int32)), (.int (f (lt + 0)))])) rfl rfl (hb hby d13_25)
  refine own_to T5 (mkF m 33 #[.val (.ref a1)] [(.int ((f (lt + 0)) &&& ((1 : Int32) <<< (((Int32.ofNat (7)) &&& (7 : Int32)) &&& 31))))]) (fun tq kq => st5 _ (XS.bipush X5.here hx rfl (hb hby d13_28) (XS.iand X5.here hx rfl (hb hby d13_30) rfl (XS.ishl X5.here hx rfl (hb hby d13_31) rfl (XS.iand X5.here hx rfl (hb hby d13_32) rfl kq))))) ?_
  by_cases c33 : ((f (lt + 0)) &&& ((1 : Int32) <<< (((Int32.ofNat (7)) &&& (7 : Int32)) &&& 31))) = (0 : Int32)
  · skip
    refine own_to T5 (mkF m 41 #[.val (.ref a1)] [(.int (0 : Int32))]) (fun tq kq => XS.ifYes X5.here hx rfl (pc0 := 33) (pc' := 40) rfl (hb hby d13_33) rfl ((if0 _ _).trans (teq c33).1) (by decide) (by decide) (XS.iconst X5.here hx rfl (hb hby d13_40) kq)) ?_
    exact own_retZ X5 hx hret hlk (hb hby d13_41) (by decide) (by decide) (Or.inl rfl) ⟨congrArg (fun z => some (Value.int z)) (show own_bit ((f (lt + 0)) &&& ((1 : Int32) <<< ((Int32.ofNat (7) &&& (7 : Int32)) &&& 31))) = (0 : Int32) from if_pos c33).symm, (Fr.nil n0), e5⟩
  · skip
    refine own_to T5 (mkF m 41 #[.val (.ref a1)] [(.int (1 : Int32))]) (fun tq kq => XS.ifNo X5.here hx rfl (hb hby d13_33) rfl ((if0 _ _).trans (feq c33).1) (XS.iconst X5.here hx rfl (hb hby d13_36) (XS.goto X5.here hx rfl (pc0 := 37) (pc' := 41) rfl (hb hby d13_37) (by decide) (by decide) kq))) ?_
    exact own_retZ X5 hx hret hlk (hb hby d13_41) (by decide) (by decide) (Or.inr rfl) ⟨congrArg (fun z => some (Value.int z)) (show own_bit ((f (lt + 0)) &&& ((1 : Int32) <<< ((Int32.ofNat (7) &&& (7 : Int32)) &&& 31))) = (1 : Int32) from if_neg c33).symm, (Fr.nil n0), e5⟩
def Q_rm_lit8 (Z : State) (a1 pk : Addr) (f : Nat → Int32) (lt : Nat) (u1 u2 u3 u4 u5 u8 u9 : Int32) (h0 : Heap) (n0 : Nat) (v : Option Value) (h : Heap) (L : List Loc) : Prop := v = some (.int (own_bit ((f (lt + 1)) &&& ((1 : Int32) <<< ((Int32.ofNat (8) &&& (7 : Int32)) &&& 31))))) ∧ Fr n0 L ∧ h = h0
set_option maxRecDepth 65536 in
set_option maxHeartbeats 40000000 in
theorem rm_lit8 (l : Launch) (Z : State) (a0 : Array Value) (hw : ∀ d ∈ tables_1, d.before a0 Z = true) (ws : List Jvm.Cond) (a1 pk : Addr) (f : Nat → Int32) (lt : Nat) (u1 u2 u3 u4 u5 u8 u9 : Int32) (h0 : Heap) (n0 : Nat) (Z0 : n0 ≤ h0.size) (U : Cur Z h0 a1 (.ref pk) u1 u2 u3 u4 u5 (Int32.ofNat lt) (Int32.ofNat (8)) u8 u9) (A : BArr Z h0 pk 20 f) (hlt : lt < 18) :
    MetFree l (⟨"com/example/warmjoin/warmjoin/PackedFields$Cursor", "literal", "()Z"⟩ : MethodName) (head1 (Jvm.Cond.code (⟨"com/example/warmjoin/warmjoin/PackedFields$Cursor", "literal", "()Z"⟩ : MethodName) prog_100_method_4_code 1 (some .boolean) :: ws) ({ frames := 0, cells := 0, slots := 0, locals := 0 } : Room)) (fun a U => a = #[(.ref a1)] ∧ Z.Warmed39 U.vm ∧ U.heap = h0) (fun _ _ _ _ _ => True) (fun _ U o U' => ∃ v L, o = .returned v ∧ Q_rm_lit8 Z a1 pk f lt u1 u2 u3 u4 u5 u8 u9 h0 n0 v U'.heap L ∧ FrameEnd U o U' L ({ frames := 0, cells := 0, slots := 0, locals := 0 } : Room).cells ({ frames := 0, cells := 0, slots := 0, locals := 0 } : Room).slots) := by
  refine own_met (y := (⟨"com/example/warmjoin/warmjoin/PackedFields$Cursor", "literal", "()Z"⟩ : MethodName)) (Q := (Q_rm_lit8 Z a1 pk f lt u1 u2 u3 u4 u5 u8 u9 h0 n0)) (plainFor_of_name pn_1) fun p e s m below meth c s₁ X0 hx hby hml hret hlk hown hnm hZ e0 => ?_
  refine own_entry (ef_13_R m a1) ?_
  obtain ⟨E1, F0, F1, F2, F3, F4, F5, F6, F7, F8, F9⟩ := U
  obtain ⟨c1, Ar, hsz, hat⟩ := A
  have hin : ¬ ((Int32.ofNat (lt + 1)) < 0 ∨ c1.slots.size ≤ (Int32.ofNat (lt + 1)).toNatClampNeg) := by rw [hsz]; exact within rfl (show lt + 1 < 20 by omega) (by decide)
  have hat2 : c1.slots[(Int32.ofNat (lt + 1)).toNatClampNeg]? = some (.int (f (lt + 1))) := by rw [clamp_of rfl (by omega)]; exact hat _ (by omega)
  refine own_to s₁ (mkF m 1 #[.val (.ref a1)] [(.ref a1)]) (fun tq kq => XS.aloadN X0.here hx rfl (hb hby d13_0) rfl rfl kq) ?_
  obtain ⟨T1, X1, e1, st1⟩ := getF X0 hx hZ hown (host := "") (Or.inl (own_w hw 59 rfl)) Via.refl e0 F6 (g := (mkF m 1 #[.val (.ref a1)] [(.ref a1)])) rfl rfl (hb hby d13_1)
  refine own_to T1 (mkF m 8 #[.val (.ref a1)] [(.ref a1)]) (fun tq kq => st1 _ (XS.ifNo X1.here hx rfl (hb hby d13_4) rfl ((if0 _ _).trans (flt (own_nonneg (by omega))).1) (XS.aloadN X1.here hx rfl (hb hby d13_7) rfl rfl kq))) ?_
  obtain ⟨T2, X2, e2, st2⟩ := getF X1 hx hZ hown (host := "") (Or.inl (own_w hw 15 rfl)) Via.refl e1 F0 (g := (mkF m 8 #[.val (.ref a1)] [(.ref a1)])) rfl rfl (hb hby d13_8)
  refine own_to T2 (mkF m 12 #[.val (.ref a1)] [(.ref a1), (.ref pk)]) (fun tq kq => st2 _ (XS.aloadN X2.here hx rfl (hb hby d13_11) rfl rfl kq)) ?_
  obtain ⟨T3, X3, e3, st3⟩ := getF X2 hx hZ hown (host := "") (Or.inl (own_w hw 59 rfl)) Via.refl e2 F6 (g := (mkF m 12 #[.val (.ref a1)] [(.ref a1), (.ref pk)])) rfl rfl (hb hby d13_12)
  refine own_to T3 (mkF m 16 #[.val (.ref a1)] [(.ref a1), (.int (Int32.ofNat lt)), (.ref pk)]) (fun tq kq => st3 _ (XS.aloadN X3.here hx rfl (hb hby d13_15) rfl rfl kq)) ?_
  obtain ⟨T4, X4, e4, st4⟩ := getF X3 hx hZ hown (host := "") (Or.inl (own_w hw 61 rfl)) Via.refl e3 F7 (g := (mkF m 16 #[.val (.ref a1)] [(.ref a1), (.int (Int32.ofNat lt)), (.ref pk)])) rfl rfl (hb hby d13_16)
  refine own_to T4 (mkF m 21 #[.val (.ref a1)] [(.int (((Int32.ofNat (8)).toUInt32 >>> ((3 : Int32) &&& 31).toUInt32).toInt32)), (.int (Int32.ofNat lt)), (.ref pk)]) (fun tq kq => st4 _ (XS.iconst X4.here hx rfl (hb hby d13_19) (XS.iushr X4.here hx rfl (hb hby d13_20) rfl kq))) ?_
  rw [show (((Int32.ofNat (8)).toUInt32 >>> ((3 : Int32) &&& 31).toUInt32).toInt32) = (Int32.ofNat 1) from by decide]
  refine own_to T4 (mkF m 22 #[.val (.ref a1)] [(.int ((Int32.ofNat lt) + (Int32.ofNat 1))), (.ref pk)]) (fun tq kq => XS.iadd X4.here hx rfl (hb hby d13_21) rfl kq) ?_
  rw [show ((Int32.ofNat lt) + (Int32.ofNat 1)) = (Int32.ofNat (lt + 1)) from own_addn lt 1 (by omega) (by decide)]
  refine own_to T4 (mkF m 25 #[.val (.ref a1)] [(.ref a1), (.int (1 : Int32)), (.int (f (lt + 1)))]) (fun tq kq => X4.baloadBytes hx (j := (Int32.ofNat (lt + 1))) (v := (.int (f (lt + 1)))) (by rw [e4]; exact Ar.1) (State.isArrayOf_alike hZ.alike Ar.2.1) Ar.2.2 hin hat2 (g := (mkF m 22 #[.val (.ref a1)] [(.int (Int32.ofNat (lt + 1))), (.ref pk)])) rfl rfl (hb hby d13_22) _ (XS.iconst X4.here hx rfl (hb hby d13_23) (XS.aloadN X4.here hx rfl (hb hby d13_24) rfl rfl kq))) ?_
  obtain ⟨T5, X5, e5, st5⟩ := getF X4 hx hZ hown (host := "") (Or.inl (own_w hw 61 rfl)) Via.refl e4 F7 (g := (mkF m 25 #[.val (.ref a1)] [(.ref a1), (.int (1 : Int32)), (.int (f (lt + 1)))])) rfl rfl (hb hby d13_25)
  refine own_to T5 (mkF m 33 #[.val (.ref a1)] [(.int ((f (lt + 1)) &&& ((1 : Int32) <<< (((Int32.ofNat (8)) &&& (7 : Int32)) &&& 31))))]) (fun tq kq => st5 _ (XS.bipush X5.here hx rfl (hb hby d13_28) (XS.iand X5.here hx rfl (hb hby d13_30) rfl (XS.ishl X5.here hx rfl (hb hby d13_31) rfl (XS.iand X5.here hx rfl (hb hby d13_32) rfl kq))))) ?_
  by_cases c33 : ((f (lt + 1)) &&& ((1 : Int32) <<< (((Int32.ofNat (8)) &&& (7 : Int32)) &&& 31))) = (0 : Int32)
  · skip
    refine own_to T5 (mkF m 41 #[.val (.ref a1)] [(.int (0 : Int32))]) (fun tq kq => XS.ifYes X5.here hx rfl (pc0 := 33) (pc' := 40) rfl (hb hby d13_33) rfl ((if0 _ _).trans (teq c33).1) (by decide) (by decide) (XS.iconst X5.here hx rfl (hb hby d13_40) kq)) ?_
    exact own_retZ X5 hx hret hlk (hb hby d13_41) (by decide) (by decide) (Or.inl rfl) ⟨congrArg (fun z => some (Value.int z)) (show own_bit ((f (lt + 1)) &&& ((1 : Int32) <<< ((Int32.ofNat (8) &&& (7 : Int32)) &&& 31))) = (0 : Int32) from if_pos c33).symm, (Fr.nil n0), e5⟩
  · skip
    refine own_to T5 (mkF m 41 #[.val (.ref a1)] [(.int (1 : Int32))]) (fun tq kq => XS.ifNo X5.here hx rfl (hb hby d13_33) rfl ((if0 _ _).trans (feq c33).1) (XS.iconst X5.here hx rfl (hb hby d13_36) (XS.goto X5.here hx rfl (pc0 := 37) (pc' := 41) rfl (hb hby d13_37) (by decide) (by decide) kq))) ?_
    exact own_retZ X5 hx hret hlk (hb hby d13_41) (by decide) (by decide) (Or.inr rfl) ⟨congrArg (fun z => some (Value.int z)) (show own_bit ((f (lt + 1)) &&& ((1 : Int32) <<< ((Int32.ofNat (8) &&& (7 : Int32)) &&& 31))) = (1 : Int32) from if_neg c33).symm, (Fr.nil n0), e5⟩
def Q_rm_litN (Z : State) (a1 pk : Addr) (u1 u2 u3 u4 u5 u7 u8 u9 : Int32) (h0 : Heap) (n0 : Nat) (v : Option Value) (h : Heap) (L : List Loc) : Prop := v = some (.int (0 : Int32)) ∧ Fr n0 L ∧ h = h0
set_option maxRecDepth 65536 in
set_option maxHeartbeats 40000000 in
theorem rm_litN (l : Launch) (Z : State) (a0 : Array Value) (hw : ∀ d ∈ tables_1, d.before a0 Z = true) (ws : List Jvm.Cond) (a1 pk : Addr) (u1 u2 u3 u4 u5 u7 u8 u9 : Int32) (h0 : Heap) (n0 : Nat) (Z0 : n0 ≤ h0.size) (U : Cur Z h0 a1 (.ref pk) u1 u2 u3 u4 u5 (-1 : Int32) u7 u8 u9) :
    MetFree l (⟨"com/example/warmjoin/warmjoin/PackedFields$Cursor", "literal", "()Z"⟩ : MethodName) (head1 (Jvm.Cond.code (⟨"com/example/warmjoin/warmjoin/PackedFields$Cursor", "literal", "()Z"⟩ : MethodName) prog_100_method_4_code 1 (some .boolean) :: ws) ({ frames := 0, cells := 0, slots := 0, locals := 0 } : Room)) (fun a U => a = #[(.ref a1)] ∧ Z.Warmed39 U.vm ∧ U.heap = h0) (fun _ _ _ _ _ => True) (fun _ U o U' => ∃ v L, o = .returned v ∧ Q_rm_litN Z a1 pk u1 u2 u3 u4 u5 u7 u8 u9 h0 n0 v U'.heap L ∧ FrameEnd U o U' L ({ frames := 0, cells := 0, slots := 0, locals := 0 } : Room).cells ({ frames := 0, cells := 0, slots := 0, locals := 0 } : Room).slots) := by
  refine own_met (y := (⟨"com/example/warmjoin/warmjoin/PackedFields$Cursor", "literal", "()Z"⟩ : MethodName)) (Q := (Q_rm_litN Z a1 pk u1 u2 u3 u4 u5 u7 u8 u9 h0 n0)) (plainFor_of_name pn_1) fun p e s m below meth c s₁ X0 hx hby hml hret hlk hown hnm hZ e0 => ?_
  refine own_entry (ef_13_R m a1) ?_
  obtain ⟨E1, F0, F1, F2, F3, F4, F5, F6, F7, F8, F9⟩ := U
  refine own_to s₁ (mkF m 1 #[.val (.ref a1)] [(.ref a1)]) (fun tq kq => XS.aloadN X0.here hx rfl (hb hby d13_0) rfl rfl kq) ?_
  obtain ⟨T1, X1, e1, st1⟩ := getF X0 hx hZ hown (host := "") (Or.inl (own_w hw 59 rfl)) Via.refl e0 F6 (g := (mkF m 1 #[.val (.ref a1)] [(.ref a1)])) rfl rfl (hb hby d13_1)
  refine own_to T1 (mkF m 41 #[.val (.ref a1)] [(.int (0 : Int32))]) (fun tq kq => st1 _ (XS.ifYes X1.here hx rfl (pc0 := 4) (pc' := 40) rfl (hb hby d13_4) rfl ((if0 _ _).trans (tlt (by decide)).1) (by decide) (by decide) (XS.iconst X1.here hx rfl (hb hby d13_40) kq))) ?_
  exact own_retZ X1 hx hret hlk (hb hby d13_41) (by decide) (by decide) (Or.inl rfl) ⟨rfl, (Fr.nil n0), e1⟩
theorem pn_0 : plainName "com/example/warmjoin/warmjoin/CursorLiteralPinLaw" = true := by first | (simp [plainName, overriddenIn]; done) | decide +kernel
theorem ef_0_III (m : MethodId) (x0 : Int32) (x1 : Int32) (x2 : Int32) : entryFrame m #[(.int x0), (.int x1), (.int x2)] maxLocals = mkF m 0 #[.val (.int x0), .val (.int x1), .val (.int x2), .unset, .unset, .unset, .unset, .unset, .unset, .unset, .unset, .unset, .unset, .unset] [] := by first | (simp [entryFrame, mkF, argsToLocals, Value.category, maxLocals]; done) | rfl
def Q_rm0 (Z : State) (i0 i1 i2 : Int32) (h0 : Heap) (n0 : Nat) (v : Option Value) (h : Heap) (L : List Loc) : Prop := v = some (.int 1) ∧ Fr n0 L
theorem pd_0 : parseMethodDescriptor "()V" = some ⟨[], none⟩ := by decide +kernel
theorem pd_1 : parseMethodDescriptor "([BII)Lcom/example/warmjoin/warmjoin/PackedFields$Cursor;" = some ⟨[(.array .byte), .int, .int], some (.object "com/example/warmjoin/warmjoin/PackedFields$Cursor")⟩ := by decide +kernel
theorem pd_2 : parseMethodDescriptor "()Z" = some ⟨[], some .boolean⟩ := by decide +kernel
set_option maxRecDepth 65536 in
set_option maxHeartbeats 40000000 in
theorem rm0 (l : Launch) (Z : State) (a0 : Array Value) (hw : ∀ d ∈ tables_1, d.before a0 Z = true) (ws : List Jvm.Cond) (i0 i1 i2 : Int32) (h0 : Heap) (n0 : Nat) (Z0 : n0 ≤ h0.size)  :
    MetFree l x (head1 (Jvm.Cond.code x code maxLocals ret :: ws) room_1) (fun a U => a = #[(.int i0), (.int i1), (.int i2)] ∧ Z.Warmed39 U.vm ∧ U.heap = h0) (fun _ _ _ _ _ => True) (fun _ U o U' => ∃ v L, o = .returned v ∧ Q_rm0 Z i0 i1 i2 h0 n0 v U'.heap L ∧ FrameEnd U o U' L room_1.cells room_1.slots) := by
  refine own_met (y := x) (Q := (Q_rm0 Z i0 i1 i2 h0 n0)) (plainFor_of_name pn_0) fun p e s m below meth c s₁ X0 hx hby hml hret hlk hown hnm hZ e0 => ?_
  refine own_entry (ef_0_III m i0 i1 i2) ?_
  obtain ⟨nl, hnl', hlo⟩ := own_small i0 (511 : Int32) 511 rfl (by decide)
  have hnl : nl < 512 := by omega
  have J36 : ∀ t b : Int32, (t = 0 ∨ t = 1) → (b = 0 ∨ b = 1) → Own p e below s room_1.cells room_1.slots (Q_rm0 Z i0 i1 i2 h0 n0) s₁ (mkF m 36 #[.val (.int i0), .val (.int i1), .val (.int i2), .val (.int (Int32.ofNat nl)), .val (.int t), .val (.int b), .unset, .unset, .unset, .unset, .unset, .unset, .unset, .unset] []) := by
    intro t b ht hb'
    rcases ht with rfl | rfl <;> rcases hb' with rfl | rfl
    · skip
      refine own_to s₁ (mkF m 41 #[.val (.int i0), .val (.int i1), .val (.int i2), .val (.int (Int32.ofNat nl)), .val (.int (0 : Int32)), .val (.int (0 : Int32)), .unset, .unset, .unset, .unset, .unset, .unset, .unset, .unset] [(.int (((i1.toUInt32 >>> ((2 : Int32) &&& 31).toUInt32).toInt32) &&& (3 : Int32)))]) (fun tq kq => XS.iloadN X0.here hx rfl (hb hby at_36) rfl (XS.iconst X0.here hx rfl (hb hby at_37) (XS.iushr X0.here hx rfl (hb hby at_38) rfl (XS.iconst X0.here hx rfl (hb hby at_39) (XS.iand X0.here hx rfl (hb hby at_40) rfl kq))))) ?_
      obtain ⟨u, hu, hs6⟩ := own_small ((i1.toUInt32 >>> ((2 : Int32) &&& 31).toUInt32).toInt32) (3 : Int32) 3 rfl (by decide)
      rw [hs6]
      have hu4 : u < 4 := by omega
      refine own_to s₁ (mkF m 45 #[.val (.int i0), .val (.int i1), .val (.int i2), .val (.int (Int32.ofNat nl)), .val (.int (0 : Int32)), .val (.int (0 : Int32)), .val (.int (Int32.ofNat (u))), .unset, .unset, .unset, .unset, .unset, .unset, .unset] [(.int (20 : Int32))]) (fun tq kq => XS.istore X0.here hx rfl (hb hby at_41) rfl (l' := #[.val (.int i0), .val (.int i1), .val (.int i2), .val (.int (Int32.ofNat nl)), .val (.int (0 : Int32)), .val (.int (0 : Int32)), .val (.int (Int32.ofNat (u))), .unset, .unset, .unset, .unset, .unset, .unset, .unset]) rfl (XS.bipush X0.here hx rfl (hb hby at_43) kq)) ?_
      obtain ⟨T1, h1, k1, X1, e1, E1, A1, st1⟩ := newP X0 hx hZ (own_w hw 0 rfl) e0 (g := (mkF m 45 #[.val (.int i0), .val (.int i1), .val (.int i2), .val (.int (Int32.ofNat nl)), .val (.int (0 : Int32)), .val (.int (0 : Int32)), .val (.int (Int32.ofNat (u))), .unset, .unset, .unset, .unset, .unset, .unset, .unset] [(.int (20 : Int32))])) rfl (hb hby at_45) rfl (by decide) (cap := 20) (by decide) (by decide) (by decide) (by decide)
      obtain ⟨b1, g1⟩ : ∃ z, z = h0.size := ⟨_, rfl⟩
      rw [← g1] at A1 st1
      have sz1 : n0 ≤ b1 := Nat.le_trans Z0 (Nat.le_of_eq g1.symm)
      have Zs1 : n0 ≤ h1.size := Nat.le_trans Z0 E1.1
      have V1 : BArr Z h1 b1 20 (fun _ => 0) := BArr.new A1 (by decide)
      refine own_to T1 (mkF m 54 #[.val (.int i0), .val (.int i1), .val (.int i2), .val (.int (Int32.ofNat nl)), .val (.int (0 : Int32)), .val (.int (0 : Int32)), .val (.int (Int32.ofNat (u))), .val (.ref b1), .unset, .unset, .unset, .unset, .unset, .unset] [(.int (i2.toInt8.toInt32)), (.int (0 : Int32)), (.ref b1)]) (fun tq kq => st1 _ (XS.astore X1.here hx rfl (hb hby at_47) rfl rfl (l' := #[.val (.int i0), .val (.int i1), .val (.int i2), .val (.int (Int32.ofNat nl)), .val (.int (0 : Int32)), .val (.int (0 : Int32)), .val (.int (Int32.ofNat (u))), .val (.ref b1), .unset, .unset, .unset, .unset, .unset, .unset]) rfl (XS.aload X1.here hx rfl (hb hby at_49) rfl rfl (XS.iconst X1.here hx rfl (hb hby at_51) (XS.iloadN X1.here hx rfl (hb hby at_52) rfl (XS.i2b X1.here hx rfl (hb hby at_53) rfl kq)))))) ?_
      obtain ⟨co3, Aro3, hszo3, hato3⟩ := id V1
      obtain ⟨T2, h2, X2, e2, W2, st2⟩ := stB X1 hx hZ e1 Aro3 (j := (0 : Int32)) (by rw [hszo3]; decide) (g := (mkF m 54 #[.val (.int i0), .val (.int i1), .val (.int i2), .val (.int (Int32.ofNat nl)), .val (.int (0 : Int32)), .val (.int (0 : Int32)), .val (.int (Int32.ofNat (u))), .val (.ref b1), .unset, .unset, .unset, .unset, .unset, .unset] [(.int (i2.toInt8.toInt32)), (.int (0 : Int32)), (.ref b1)])) rfl rfl (hb hby at_54)
      have N2 := Fr.snoc X2 (Fr.nil n0) sz1
      have Zs2 : n0 ≤ h2.size := by rw [W2.size]; exact Zs1
      have V2 := BArr.set Aro3 hszo3 hato3 W2 (by decide : ((0 : Int32)).toNatClampNeg = 0)
      obtain ⟨f2, hf2⟩ : ∃ f', f' = own_upd (fun _ => 0) (0) ((i2.toInt8.toInt32).toInt8.toInt32) := ⟨_, rfl⟩
      rw [← hf2] at V2
      refine own_to T2 (mkF m 63 #[.val (.int i0), .val (.int i1), .val (.int i2), .val (.int (Int32.ofNat nl)), .val (.int (0 : Int32)), .val (.int (0 : Int32)), .val (.int (Int32.ofNat (u))), .val (.ref b1), .unset, .unset, .unset, .unset, .unset, .unset] [(.int (((i2.toUInt32 >>> ((8 : Int32) &&& 31).toUInt32).toInt32).toInt8.toInt32)), (.int (1 : Int32)), (.ref b1)]) (fun tq kq => st2 _ (XS.aload X2.here hx rfl (hb hby at_55) rfl rfl (XS.iconst X2.here hx rfl (hb hby at_57) (XS.iloadN X2.here hx rfl (hb hby at_58) rfl (XS.bipush X2.here hx rfl (hb hby at_59) (XS.iushr X2.here hx rfl (hb hby at_61) rfl (XS.i2b X2.here hx rfl (hb hby at_62) rfl kq))))))) ?_
      obtain ⟨co5, Aro5, hszo5, hato5⟩ := id V2
      obtain ⟨T4, h4, X4, e4, W4, st4⟩ := stB X2 hx hZ e2 Aro5 (j := (1 : Int32)) (by rw [hszo5]; decide) (g := (mkF m 63 #[.val (.int i0), .val (.int i1), .val (.int i2), .val (.int (Int32.ofNat nl)), .val (.int (0 : Int32)), .val (.int (0 : Int32)), .val (.int (Int32.ofNat (u))), .val (.ref b1), .unset, .unset, .unset, .unset, .unset, .unset] [(.int (((i2.toUInt32 >>> ((8 : Int32) &&& 31).toUInt32).toInt32).toInt8.toInt32)), (.int (1 : Int32)), (.ref b1)])) rfl rfl (hb hby at_63)
      have N4 := Fr.snoc X4 N2 sz1
      have Zs4 : n0 ≤ h4.size := by rw [W4.size]; exact Zs2
      have V4 := BArr.set Aro5 hszo5 hato5 W4 (by decide : ((1 : Int32)).toNatClampNeg = 1)
      obtain ⟨f4, hf4⟩ : ∃ f', f' = own_upd f2 (1) ((((i2.toUInt32 >>> ((8 : Int32) &&& 31).toUInt32).toInt32).toInt8.toInt32).toInt8.toInt32) := ⟨_, rfl⟩
      rw [← hf4] at V4
      refine own_to T4 (mkF m 72 #[.val (.int i0), .val (.int i1), .val (.int i2), .val (.int (Int32.ofNat nl)), .val (.int (0 : Int32)), .val (.int (0 : Int32)), .val (.int (Int32.ofNat (u))), .val (.ref b1), .unset, .unset, .unset, .unset, .unset, .unset] [(.int (((i2.toUInt32 >>> ((16 : Int32) &&& 31).toUInt32).toInt32).toInt8.toInt32)), (.int (2 : Int32)), (.ref b1)]) (fun tq kq => st4 _ (XS.aload X4.here hx rfl (hb hby at_64) rfl rfl (XS.iconst X4.here hx rfl (hb hby at_66) (XS.iloadN X4.here hx rfl (hb hby at_67) rfl (XS.bipush X4.here hx rfl (hb hby at_68) (XS.iushr X4.here hx rfl (hb hby at_70) rfl (XS.i2b X4.here hx rfl (hb hby at_71) rfl kq))))))) ?_
      obtain ⟨co7, Aro7, hszo7, hato7⟩ := id V4
      obtain ⟨T6, h6, X6, e6, W6, st6⟩ := stB X4 hx hZ e4 Aro7 (j := (2 : Int32)) (by rw [hszo7]; decide) (g := (mkF m 72 #[.val (.int i0), .val (.int i1), .val (.int i2), .val (.int (Int32.ofNat nl)), .val (.int (0 : Int32)), .val (.int (0 : Int32)), .val (.int (Int32.ofNat (u))), .val (.ref b1), .unset, .unset, .unset, .unset, .unset, .unset] [(.int (((i2.toUInt32 >>> ((16 : Int32) &&& 31).toUInt32).toInt32).toInt8.toInt32)), (.int (2 : Int32)), (.ref b1)])) rfl rfl (hb hby at_72)
      have N6 := Fr.snoc X6 N4 sz1
      have Zs6 : n0 ≤ h6.size := by rw [W6.size]; exact Zs4
      have V6 := BArr.set Aro7 hszo7 hato7 W6 (by decide : ((2 : Int32)).toNatClampNeg = 2)
      obtain ⟨f6, hf6⟩ : ∃ f', f' = own_upd f4 (2) ((((i2.toUInt32 >>> ((16 : Int32) &&& 31).toUInt32).toInt32).toInt8.toInt32).toInt8.toInt32) := ⟨_, rfl⟩
      rw [← hf6] at V6
      refine own_to T6 (mkF m 94 #[.val (.int i0), .val (.int i1), .val (.int i2), .val (.int (Int32.ofNat nl)), .val (.int (0 : Int32)), .val (.int (0 : Int32)), .val (.int (Int32.ofNat (u))), .val (.ref b1), .val (.int (Int32.ofNat (u))), .unset, .unset, .unset, .unset, .unset] [(.int ((36 : Int32) ||| (0 : Int32))), (.int (Int32.ofNat (u))), (.ref b1)]) (fun tq kq => st6 _ (XS.iload X6.here hx rfl (hb hby at_73) rfl (XS.istore X6.here hx rfl (hb hby at_75) rfl (l' := #[.val (.int i0), .val (.int i1), .val (.int i2), .val (.int (Int32.ofNat nl)), .val (.int (0 : Int32)), .val (.int (0 : Int32)), .val (.int (Int32.ofNat (u))), .val (.ref b1), .val (.int (Int32.ofNat (u))), .unset, .unset, .unset, .unset, .unset]) rfl (XS.aload X6.here hx rfl (hb hby at_77) rfl rfl (XS.iload X6.here hx rfl (hb hby at_79) rfl (XS.bipush X6.here hx rfl (hb hby at_81) (XS.iload X6.here hx rfl (hb hby at_83) rfl (XS.ifYes X6.here hx rfl (pc0 := 85) (pc' := 92) rfl (hb hby at_85) rfl ((if0 _ _).trans (teq (by decide : (0 : Int32) = (0 : Int32))).1) (by decide) (by decide) (XS.iconst X6.here hx rfl (hb hby at_92) (XS.ior X6.here hx rfl (hb hby at_93) rfl kq)))))))))) ?_
      refine own_to T6 (mkF m 106 #[.val (.int i0), .val (.int i1), .val (.int i2), .val (.int (Int32.ofNat nl)), .val (.int (0 : Int32)), .val (.int (0 : Int32)), .val (.int (Int32.ofNat (u))), .val (.ref b1), .val (.int (Int32.ofNat (u))), .unset, .unset, .unset, .unset, .unset] [(.int ((((36 : Int32) ||| (0 : Int32)) ||| (0 : Int32)).toInt8.toInt32)), (.int (Int32.ofNat (u))), (.ref b1)]) (fun tq kq => XS.iload X6.here hx rfl (hb hby at_94) rfl (XS.ifYes X6.here hx rfl (pc0 := 96) (pc' := 103) rfl (hb hby at_96) rfl ((if0 _ _).trans (teq (by decide : (0 : Int32) = (0 : Int32))).1) (by decide) (by decide) (XS.iconst X6.here hx rfl (hb hby at_103) (XS.ior X6.here hx rfl (hb hby at_104) rfl (XS.i2b X6.here hx rfl (hb hby at_105) rfl kq))))) ?_
      rw [show ((((36 : Int32) ||| (0 : Int32)) ||| (0 : Int32)).toInt8.toInt32) = (36 : Int32) from by decide]
      obtain ⟨co9, Aro9, hszo9, hato9⟩ := id V6
      obtain ⟨T8, h8, X8, e8, W8, st8⟩ := stB X6 hx hZ e6 Aro9 (j := (Int32.ofNat (u))) (by rw [hszo9]; exact within rfl (show u < 20 by omega) (by decide)) (g := (mkF m 106 #[.val (.int i0), .val (.int i1), .val (.int i2), .val (.int (Int32.ofNat nl)), .val (.int (0 : Int32)), .val (.int (0 : Int32)), .val (.int (Int32.ofNat (u))), .val (.ref b1), .val (.int (Int32.ofNat (u))), .unset, .unset, .unset, .unset, .unset] [(.int (36 : Int32)), (.int (Int32.ofNat (u))), (.ref b1)])) rfl rfl (hb hby at_106)
      have N8 := Fr.snoc X8 N6 sz1
      have Zs8 : n0 ≤ h8.size := by rw [W8.size]; exact Zs6
      have V8 := BArr.set Aro9 hszo9 hato9 W8 (clamp_of rfl (by omega) : ((Int32.ofNat (u))).toNatClampNeg = u)
      obtain ⟨f8, hf8⟩ : ∃ f', f' = own_upd f6 (u) ((36 : Int32).toInt8.toInt32) := ⟨_, rfl⟩
      rw [← hf8] at V8
      refine own_to T8 (mkF m 111 #[.val (.int i0), .val (.int i1), .val (.int i2), .val (.int (Int32.ofNat nl)), .val (.int (0 : Int32)), .val (.int (0 : Int32)), .val (.int (Int32.ofNat (u))), .val (.ref b1), .val (.int (Int32.ofNat (u))), .unset, .unset, .unset, .unset, .unset] [(.int ((Int32.ofNat (u)) + (1 : Int32)))]) (fun tq kq => st8 _ (XS.iload X8.here hx rfl (hb hby at_107) rfl (XS.iconst X8.here hx rfl (hb hby at_109) (XS.iadd X8.here hx rfl (hb hby at_110) rfl kq)))) ?_
      rw [show ((Int32.ofNat (u)) + (1 : Int32)) = (Int32.ofNat (u + 1)) from own_addn (u) 1 (by omega) (by decide)]
      refine own_to T8 (mkF m 253 #[.val (.int i0), .val (.int i1), .val (.int i2), .val (.int (Int32.ofNat nl)), .val (.int (0 : Int32)), .val (.int (0 : Int32)), .val (.int (Int32.ofNat (u))), .val (.ref b1), .val (.int (Int32.ofNat (u + 1))), .unset, .unset, .unset, .unset, .unset] [(.int (1 : Int32)), (.int (Int32.ofNat (u + 1))), (.ref b1)]) (fun tq kq => XS.istore X8.here hx rfl (hb hby at_111) rfl (l' := #[.val (.int i0), .val (.int i1), .val (.int i2), .val (.int (Int32.ofNat nl)), .val (.int (0 : Int32)), .val (.int (0 : Int32)), .val (.int (Int32.ofNat (u))), .val (.ref b1), .val (.int (Int32.ofNat (u + 1))), .unset, .unset, .unset, .unset, .unset]) rfl (XS.iload X8.here hx rfl (hb hby at_113) rfl (XS.ifYes X8.here hx rfl (pc0 := 115) (pc' := 131) rfl (hb hby at_115) rfl ((if0 _ _).trans (teq (by decide : (0 : Int32) = (0 : Int32))).1) (by decide) (by decide) (XS.iload X8.here hx rfl (hb hby at_131) rfl (XS.ifYes X8.here hx rfl (pc0 := 133) (pc' := 161) rfl (hb hby at_133) rfl ((if0 _ _).trans (teq (by decide : (0 : Int32) = (0 : Int32))).1) (by decide) (by decide) (XS.iload X8.here hx rfl (hb hby at_161) rfl (XS.ifYes X8.here hx rfl (pc0 := 163) (pc' := 248) rfl (hb hby at_163) rfl ((if0 _ _).trans (teq (by decide : (0 : Int32) = (0 : Int32))).1) (by decide) (by decide) (XS.aload X8.here hx rfl (hb hby at_248) rfl rfl (XS.iload X8.here hx rfl (hb hby at_250) rfl (XS.iconst X8.here hx rfl (hb hby at_252) kq)))))))))) ?_
      obtain ⟨co11, Aro11, hszo11, hato11⟩ := id V8
      obtain ⟨T10, h10, X10, e10, W10, st10⟩ := stB X8 hx hZ e8 Aro11 (j := (Int32.ofNat (u + 1))) (by rw [hszo11]; exact within rfl (show u + 1 < 20 by omega) (by decide)) (g := (mkF m 253 #[.val (.int i0), .val (.int i1), .val (.int i2), .val (.int (Int32.ofNat nl)), .val (.int (0 : Int32)), .val (.int (0 : Int32)), .val (.int (Int32.ofNat (u))), .val (.ref b1), .val (.int (Int32.ofNat (u + 1))), .unset, .unset, .unset, .unset, .unset] [(.int (1 : Int32)), (.int (Int32.ofNat (u + 1))), (.ref b1)])) rfl rfl (hb hby at_253)
      have N10 := Fr.snoc X10 N8 sz1
      have Zs10 : n0 ≤ h10.size := by rw [W10.size]; exact Zs8
      have V10 := BArr.set Aro11 hszo11 hato11 W10 (clamp_of rfl (by omega) : ((Int32.ofNat (u + 1))).toNatClampNeg = u + 1)
      obtain ⟨f10, hf10⟩ : ∃ f', f' = own_upd f8 (u + 1) ((1 : Int32).toInt8.toInt32) := ⟨_, rfl⟩
      rw [← hf10] at V10
      refine own_to T10 (mkF m 260 #[.val (.int i0), .val (.int i1), .val (.int i2), .val (.int (Int32.ofNat nl)), .val (.int (0 : Int32)), .val (.int (0 : Int32)), .val (.int (Int32.ofNat (u))), .val (.ref b1), .val (.int (Int32.ofNat (u + 1))), .unset, .unset, .unset, .unset, .unset] [(.int ((Int32.ofNat (u + 1)) + (1 : Int32))), (.ref b1)]) (fun tq kq => st10 _ (XS.aload X10.here hx rfl (hb hby at_254) rfl rfl (XS.iload X10.here hx rfl (hb hby at_256) rfl (XS.iconst X10.here hx rfl (hb hby at_258) (XS.iadd X10.here hx rfl (hb hby at_259) rfl kq))))) ?_
      rw [show ((Int32.ofNat (u + 1)) + (1 : Int32)) = (Int32.ofNat (u + 2)) from own_addn (u + 1) 1 (by omega) (by decide)]
      refine own_to T10 (mkF m 262 #[.val (.int i0), .val (.int i1), .val (.int i2), .val (.int (Int32.ofNat nl)), .val (.int (0 : Int32)), .val (.int (0 : Int32)), .val (.int (Int32.ofNat (u))), .val (.ref b1), .val (.int (Int32.ofNat (u + 1))), .unset, .unset, .unset, .unset, .unset] [(.int (44 : Int32)), (.int (Int32.ofNat (u + 2))), (.ref b1)]) (fun tq kq => XS.bipush X10.here hx rfl (hb hby at_260) kq) ?_
      obtain ⟨co13, Aro13, hszo13, hato13⟩ := id V10
      obtain ⟨T12, h12, X12, e12, W12, st12⟩ := stB X10 hx hZ e10 Aro13 (j := (Int32.ofNat (u + 2))) (by rw [hszo13]; exact within rfl (show u + 2 < 20 by omega) (by decide)) (g := (mkF m 262 #[.val (.int i0), .val (.int i1), .val (.int i2), .val (.int (Int32.ofNat nl)), .val (.int (0 : Int32)), .val (.int (0 : Int32)), .val (.int (Int32.ofNat (u))), .val (.ref b1), .val (.int (Int32.ofNat (u + 1))), .unset, .unset, .unset, .unset, .unset] [(.int (44 : Int32)), (.int (Int32.ofNat (u + 2))), (.ref b1)])) rfl rfl (hb hby at_262)
      have N12 := Fr.snoc X12 N10 sz1
      have Zs12 : n0 ≤ h12.size := by rw [W12.size]; exact Zs10
      have V12 := BArr.set Aro13 hszo13 hato13 W12 (clamp_of rfl (by omega) : ((Int32.ofNat (u + 2))).toNatClampNeg = u + 2)
      obtain ⟨f12, hf12⟩ : ∃ f', f' = own_upd f10 (u + 2) ((44 : Int32).toInt8.toInt32) := ⟨_, rfl⟩
      rw [← hf12] at V12
      refine own_to T12 (mkF m 269 #[.val (.int i0), .val (.int i1), .val (.int i2), .val (.int (Int32.ofNat nl)), .val (.int (0 : Int32)), .val (.int (0 : Int32)), .val (.int (Int32.ofNat (u))), .val (.ref b1), .val (.int (Int32.ofNat (u + 1))), .unset, .unset, .unset, .unset, .unset] [(.int ((Int32.ofNat (u + 1)) + (2 : Int32))), (.ref b1)]) (fun tq kq => st12 _ (XS.aload X12.here hx rfl (hb hby at_263) rfl rfl (XS.iload X12.here hx rfl (hb hby at_265) rfl (XS.iconst X12.here hx rfl (hb hby at_267) (XS.iadd X12.here hx rfl (hb hby at_268) rfl kq))))) ?_
      rw [show ((Int32.ofNat (u + 1)) + (2 : Int32)) = (Int32.ofNat (u + 3)) from own_addn (u + 1) 2 (by omega) (by decide)]
      refine own_to T12 (mkF m 270 #[.val (.int i0), .val (.int i1), .val (.int i2), .val (.int (Int32.ofNat nl)), .val (.int (0 : Int32)), .val (.int (0 : Int32)), .val (.int (Int32.ofNat (u))), .val (.ref b1), .val (.int (Int32.ofNat (u + 1))), .unset, .unset, .unset, .unset, .unset] [(.int (0 : Int32)), (.int (Int32.ofNat (u + 3))), (.ref b1)]) (fun tq kq => XS.iconst X12.here hx rfl (hb hby at_269) kq) ?_
      obtain ⟨co15, Aro15, hszo15, hato15⟩ := id V12
      obtain ⟨T14, h14, X14, e14, W14, st14⟩ := stB X12 hx hZ e12 Aro15 (j := (Int32.ofNat (u + 3))) (by rw [hszo15]; exact within rfl (show u + 3 < 20 by omega) (by decide)) (g := (mkF m 270 #[.val (.int i0), .val (.int i1), .val (.int i2), .val (.int (Int32.ofNat nl)), .val (.int (0 : Int32)), .val (.int (0 : Int32)), .val (.int (Int32.ofNat (u))), .val (.ref b1), .val (.int (Int32.ofNat (u + 1))), .unset, .unset, .unset, .unset, .unset] [(.int (0 : Int32)), (.int (Int32.ofNat (u + 3))), (.ref b1)])) rfl rfl (hb hby at_270)
      have N14 := Fr.snoc X14 N12 sz1
      have Zs14 : n0 ≤ h14.size := by rw [W14.size]; exact Zs12
      have V14 := BArr.set Aro15 hszo15 hato15 W14 (clamp_of rfl (by omega) : ((Int32.ofNat (u + 3))).toNatClampNeg = u + 3)
      obtain ⟨f14, hf14⟩ : ∃ f', f' = own_upd f12 (u + 3) ((0 : Int32).toInt8.toInt32) := ⟨_, rfl⟩
      rw [← hf14] at V14
      refine own_to T14 (mkF m 277 #[.val (.int i0), .val (.int i1), .val (.int i2), .val (.int (Int32.ofNat nl)), .val (.int (0 : Int32)), .val (.int (0 : Int32)), .val (.int (Int32.ofNat (u))), .val (.ref b1), .val (.int (Int32.ofNat (u + 1))), .unset, .unset, .unset, .unset, .unset] [(.int ((Int32.ofNat (u + 1)) + (3 : Int32))), (.ref b1)]) (fun tq kq => st14 _ (XS.aload X14.here hx rfl (hb hby at_271) rfl rfl (XS.iload X14.here hx rfl (hb hby at_273) rfl (XS.iconst X14.here hx rfl (hb hby at_275) (XS.iadd X14.here hx rfl (hb hby at_276) rfl kq))))) ?_
      rw [show ((Int32.ofNat (u + 1)) + (3 : Int32)) = (Int32.ofNat (u + 4)) from own_addn (u + 1) 3 (by omega) (by decide)]
      refine own_to T14 (mkF m 278 #[.val (.int i0), .val (.int i1), .val (.int i2), .val (.int (Int32.ofNat nl)), .val (.int (0 : Int32)), .val (.int (0 : Int32)), .val (.int (Int32.ofNat (u))), .val (.ref b1), .val (.int (Int32.ofNat (u + 1))), .unset, .unset, .unset, .unset, .unset] [(.int (0 : Int32)), (.int (Int32.ofNat (u + 4))), (.ref b1)]) (fun tq kq => XS.iconst X14.here hx rfl (hb hby at_277) kq) ?_
      obtain ⟨co17, Aro17, hszo17, hato17⟩ := id V14
      obtain ⟨T16, h16, X16, e16, W16, st16⟩ := stB X14 hx hZ e14 Aro17 (j := (Int32.ofNat (u + 4))) (by rw [hszo17]; exact within rfl (show u + 4 < 20 by omega) (by decide)) (g := (mkF m 278 #[.val (.int i0), .val (.int i1), .val (.int i2), .val (.int (Int32.ofNat nl)), .val (.int (0 : Int32)), .val (.int (0 : Int32)), .val (.int (Int32.ofNat (u))), .val (.ref b1), .val (.int (Int32.ofNat (u + 1))), .unset, .unset, .unset, .unset, .unset] [(.int (0 : Int32)), (.int (Int32.ofNat (u + 4))), (.ref b1)])) rfl rfl (hb hby at_278)
      have N16 := Fr.snoc X16 N14 sz1
      have Zs16 : n0 ≤ h16.size := by rw [W16.size]; exact Zs14
      have V16 := BArr.set Aro17 hszo17 hato17 W16 (clamp_of rfl (by omega) : ((Int32.ofNat (u + 4))).toNatClampNeg = u + 4)
      obtain ⟨f16, hf16⟩ : ∃ f', f' = own_upd f14 (u + 4) ((0 : Int32).toInt8.toInt32) := ⟨_, rfl⟩
      rw [← hf16] at V16
      refine own_to T16 (mkF m 285 #[.val (.int i0), .val (.int i1), .val (.int i2), .val (.int (Int32.ofNat nl)), .val (.int (0 : Int32)), .val (.int (0 : Int32)), .val (.int (Int32.ofNat (u))), .val (.ref b1), .val (.int (Int32.ofNat (u + 1))), .unset, .unset, .unset, .unset, .unset] [(.int ((Int32.ofNat (u + 1)) + (4 : Int32))), (.ref b1)]) (fun tq kq => st16 _ (XS.aload X16.here hx rfl (hb hby at_279) rfl rfl (XS.iload X16.here hx rfl (hb hby at_281) rfl (XS.iconst X16.here hx rfl (hb hby at_283) (XS.iadd X16.here hx rfl (hb hby at_284) rfl kq))))) ?_
      rw [show ((Int32.ofNat (u + 1)) + (4 : Int32)) = (Int32.ofNat (u + 5)) from own_addn (u + 1) 4 (by omega) (by decide)]
      refine own_to T16 (mkF m 286 #[.val (.int i0), .val (.int i1), .val (.int i2), .val (.int (Int32.ofNat nl)), .val (.int (0 : Int32)), .val (.int (0 : Int32)), .val (.int (Int32.ofNat (u))), .val (.ref b1), .val (.int (Int32.ofNat (u + 1))), .unset, .unset, .unset, .unset, .unset] [(.int (0 : Int32)), (.int (Int32.ofNat (u + 5))), (.ref b1)]) (fun tq kq => XS.iconst X16.here hx rfl (hb hby at_285) kq) ?_
      obtain ⟨co19, Aro19, hszo19, hato19⟩ := id V16
      obtain ⟨T18, h18, X18, e18, W18, st18⟩ := stB X16 hx hZ e16 Aro19 (j := (Int32.ofNat (u + 5))) (by rw [hszo19]; exact within rfl (show u + 5 < 20 by omega) (by decide)) (g := (mkF m 286 #[.val (.int i0), .val (.int i1), .val (.int i2), .val (.int (Int32.ofNat nl)), .val (.int (0 : Int32)), .val (.int (0 : Int32)), .val (.int (Int32.ofNat (u))), .val (.ref b1), .val (.int (Int32.ofNat (u + 1))), .unset, .unset, .unset, .unset, .unset] [(.int (0 : Int32)), (.int (Int32.ofNat (u + 5))), (.ref b1)])) rfl rfl (hb hby at_286)
      have N18 := Fr.snoc X18 N16 sz1
      have Zs18 : n0 ≤ h18.size := by rw [W18.size]; exact Zs16
      have V18 := BArr.set Aro19 hszo19 hato19 W18 (clamp_of rfl (by omega) : ((Int32.ofNat (u + 5))).toNatClampNeg = u + 5)
      obtain ⟨f18, hf18⟩ : ∃ f', f' = own_upd f16 (u + 5) ((0 : Int32).toInt8.toInt32) := ⟨_, rfl⟩
      rw [← hf18] at V18
      refine own_to T18 (mkF m 293 #[.val (.int i0), .val (.int i1), .val (.int i2), .val (.int (Int32.ofNat nl)), .val (.int (0 : Int32)), .val (.int (0 : Int32)), .val (.int (Int32.ofNat (u))), .val (.ref b1), .val (.int (Int32.ofNat (u + 1))), .unset, .unset, .unset, .unset, .unset] [(.int ((Int32.ofNat (u + 1)) + (5 : Int32))), (.ref b1)]) (fun tq kq => st18 _ (XS.aload X18.here hx rfl (hb hby at_287) rfl rfl (XS.iload X18.here hx rfl (hb hby at_289) rfl (XS.iconst X18.here hx rfl (hb hby at_291) (XS.iadd X18.here hx rfl (hb hby at_292) rfl kq))))) ?_
      rw [show ((Int32.ofNat (u + 1)) + (5 : Int32)) = (Int32.ofNat (u + 6)) from own_addn (u + 1) 5 (by omega) (by decide)]
      refine own_to T18 (mkF m 294 #[.val (.int i0), .val (.int i1), .val (.int i2), .val (.int (Int32.ofNat nl)), .val (.int (0 : Int32)), .val (.int (0 : Int32)), .val (.int (Int32.ofNat (u))), .val (.ref b1), .val (.int (Int32.ofNat (u + 1))), .unset, .unset, .unset, .unset, .unset] [(.int (0 : Int32)), (.int (Int32.ofNat (u + 6))), (.ref b1)]) (fun tq kq => XS.iconst X18.here hx rfl (hb hby at_293) kq) ?_
      obtain ⟨co21, Aro21, hszo21, hato21⟩ := id V18
      obtain ⟨T20, h20, X20, e20, W20, st20⟩ := stB X18 hx hZ e18 Aro21 (j := (Int32.ofNat (u + 6))) (by rw [hszo21]; exact within rfl (show u + 6 < 20 by omega) (by decide)) (g := (mkF m 294 #[.val (.int i0), .val (.int i1), .val (.int i2), .val (.int (Int32.ofNat nl)), .val (.int (0 : Int32)), .val (.int (0 : Int32)), .val (.int (Int32.ofNat (u))), .val (.ref b1), .val (.int (Int32.ofNat (u + 1))), .unset, .unset, .unset, .unset, .unset] [(.int (0 : Int32)), (.int (Int32.ofNat (u + 6))), (.ref b1)])) rfl rfl (hb hby at_294)
      have N20 := Fr.snoc X20 N18 sz1
      have Zs20 : n0 ≤ h20.size := by rw [W20.size]; exact Zs18
      have V20 := BArr.set Aro21 hszo21 hato21 W20 (clamp_of rfl (by omega) : ((Int32.ofNat (u + 6))).toNatClampNeg = u + 6)
      obtain ⟨f20, hf20⟩ : ∃ f', f' = own_upd f18 (u + 6) ((0 : Int32).toInt8.toInt32) := ⟨_, rfl⟩
      rw [← hf20] at V20
      refine own_to T20 (mkF m 302 #[.val (.int i0), .val (.int i1), .val (.int i2), .val (.int (Int32.ofNat nl)), .val (.int (0 : Int32)), .val (.int (0 : Int32)), .val (.int (Int32.ofNat (u))), .val (.ref b1), .val (.int (Int32.ofNat (u + 1))), .unset, .unset, .unset, .unset, .unset] [(.int ((Int32.ofNat (u + 1)) + (6 : Int32))), (.ref b1)]) (fun tq kq => st20 _ (XS.aload X20.here hx rfl (hb hby at_295) rfl rfl (XS.iload X20.here hx rfl (hb hby at_297) rfl (XS.bipush X20.here hx rfl (hb hby at_299) (XS.iadd X20.here hx rfl (hb hby at_301) rfl kq))))) ?_
      rw [show ((Int32.ofNat (u + 1)) + (6 : Int32)) = (Int32.ofNat (u + 7)) from own_addn (u + 1) 6 (by omega) (by decide)]
      refine own_to T20 (mkF m 303 #[.val (.int i0), .val (.int i1), .val (.int i2), .val (.int (Int32.ofNat nl)), .val (.int (0 : Int32)), .val (.int (0 : Int32)), .val (.int (Int32.ofNat (u))), .val (.ref b1), .val (.int (Int32.ofNat (u + 1))), .unset, .unset, .unset, .unset, .unset] [(.int (0 : Int32)), (.int (Int32.ofNat (u + 7))), (.ref b1)]) (fun tq kq => XS.iconst X20.here hx rfl (hb hby at_302) kq) ?_
      obtain ⟨co23, Aro23, hszo23, hato23⟩ := id V20
      obtain ⟨T22, h22, X22, e22, W22, st22⟩ := stB X20 hx hZ e20 Aro23 (j := (Int32.ofNat (u + 7))) (by rw [hszo23]; exact within rfl (show u + 7 < 20 by omega) (by decide)) (g := (mkF m 303 #[.val (.int i0), .val (.int i1), .val (.int i2), .val (.int (Int32.ofNat nl)), .val (.int (0 : Int32)), .val (.int (0 : Int32)), .val (.int (Int32.ofNat (u))), .val (.ref b1), .val (.int (Int32.ofNat (u + 1))), .unset, .unset, .unset, .unset, .unset] [(.int (0 : Int32)), (.int (Int32.ofNat (u + 7))), (.ref b1)])) rfl rfl (hb hby at_303)
      have N22 := Fr.snoc X22 N20 sz1
      have Zs22 : n0 ≤ h22.size := by rw [W22.size]; exact Zs20
      have V22 := BArr.set Aro23 hszo23 hato23 W22 (clamp_of rfl (by omega) : ((Int32.ofNat (u + 7))).toNatClampNeg = u + 7)
      obtain ⟨f22, hf22⟩ : ∃ f', f' = own_upd f20 (u + 7) ((0 : Int32).toInt8.toInt32) := ⟨_, rfl⟩
      rw [← hf22] at V22
      refine own_to T22 (mkF m 311 #[.val (.int i0), .val (.int i1), .val (.int i2), .val (.int (Int32.ofNat nl)), .val (.int (0 : Int32)), .val (.int (0 : Int32)), .val (.int (Int32.ofNat (u))), .val (.ref b1), .val (.int (Int32.ofNat (u + 1))), .unset, .unset, .unset, .unset, .unset] [(.int ((Int32.ofNat (u + 1)) + (7 : Int32))), (.ref b1)]) (fun tq kq => st22 _ (XS.aload X22.here hx rfl (hb hby at_304) rfl rfl (XS.iload X22.here hx rfl (hb hby at_306) rfl (XS.bipush X22.here hx rfl (hb hby at_308) (XS.iadd X22.here hx rfl (hb hby at_310) rfl kq))))) ?_
      rw [show ((Int32.ofNat (u + 1)) + (7 : Int32)) = (Int32.ofNat (u + 8)) from own_addn (u + 1) 7 (by omega) (by decide)]
      refine own_to T22 (mkF m 312 #[.val (.int i0), .val (.int i1), .val (.int i2), .val (.int (Int32.ofNat nl)), .val (.int (0 : Int32)), .val (.int (0 : Int32)), .val (.int (Int32.ofNat (u))), .val (.ref b1), .val (.int (Int32.ofNat (u + 1))), .unset, .unset, .unset, .unset, .unset] [(.int (0 : Int32)), (.int (Int32.ofNat (u + 8))), (.ref b1)]) (fun tq kq => XS.iconst X22.here hx rfl (hb hby at_311) kq) ?_
      obtain ⟨co25, Aro25, hszo25, hato25⟩ := id V22
      obtain ⟨T24, h24, X24, e24, W24, st24⟩ := stB X22 hx hZ e22 Aro25 (j := (Int32.ofNat (u + 8))) (by rw [hszo25]; exact within rfl (show u + 8 < 20 by omega) (by decide)) (g := (mkF m 312 #[.val (.int i0), .val (.int i1), .val (.int i2), .val (.int (Int32.ofNat nl)), .val (.int (0 : Int32)), .val (.int (0 : Int32)), .val (.int (Int32.ofNat (u))), .val (.ref b1), .val (.int (Int32.ofNat (u + 1))), .unset, .unset, .unset, .unset, .unset] [(.int (0 : Int32)), (.int (Int32.ofNat (u + 8))), (.ref b1)])) rfl rfl (hb hby at_312)
      have N24 := Fr.snoc X24 N22 sz1
      have Zs24 : n0 ≤ h24.size := by rw [W24.size]; exact Zs22
      have V24 := BArr.set Aro25 hszo25 hato25 W24 (clamp_of rfl (by omega) : ((Int32.ofNat (u + 8))).toNatClampNeg = u + 8)
      obtain ⟨f24, hf24⟩ : ∃ f', f' = own_upd f22 (u + 8) ((0 : Int32).toInt8.toInt32) := ⟨_, rfl⟩
      rw [← hf24] at V24
      refine own_to T24 (mkF m 320 #[.val (.int i0), .val (.int i1), .val (.int i2), .val (.int (Int32.ofNat nl)), .val (.int (0 : Int32)), .val (.int (0 : Int32)), .val (.int (Int32.ofNat (u))), .val (.ref b1), .val (.int (Int32.ofNat (u + 1))), .unset, .unset, .unset, .unset, .unset] [(.int ((Int32.ofNat (u + 1)) + (8 : Int32))), (.ref b1)]) (fun tq kq => st24 _ (XS.aload X24.here hx rfl (hb hby at_313) rfl rfl (XS.iload X24.here hx rfl (hb hby at_315) rfl (XS.bipush X24.here hx rfl (hb hby at_317) (XS.iadd X24.here hx rfl (hb hby at_319) rfl kq))))) ?_
      rw [show ((Int32.ofNat (u + 1)) + (8 : Int32)) = (Int32.ofNat (u + 9)) from own_addn (u + 1) 8 (by omega) (by decide)]
      refine own_to T24 (mkF m 321 #[.val (.int i0), .val (.int i1), .val (.int i2), .val (.int (Int32.ofNat nl)), .val (.int (0 : Int32)), .val (.int (0 : Int32)), .val (.int (Int32.ofNat (u))), .val (.ref b1), .val (.int (Int32.ofNat (u + 1))), .unset, .unset, .unset, .unset, .unset] [(.int (0 : Int32)), (.int (Int32.ofNat (u + 9))), (.ref b1)]) (fun tq kq => XS.iconst X24.here hx rfl (hb hby at_320) kq) ?_
      obtain ⟨co27, Aro27, hszo27, hato27⟩ := id V24
      obtain ⟨T26, h26, X26, e26, W26, st26⟩ := stB X24 hx hZ e24 Aro27 (j := (Int32.ofNat (u + 9))) (by rw [hszo27]; exact within rfl (show u + 9 < 20 by omega) (by decide)) (g := (mkF m 321 #[.val (.int i0), .val (.int i1), .val (.int i2), .val (.int (Int32.ofNat nl)), .val (.int (0 : Int32)), .val (.int (0 : Int32)), .val (.int (Int32.ofNat (u))), .val (.ref b1), .val (.int (Int32.ofNat (u + 1))), .unset, .unset, .unset, .unset, .unset] [(.int (0 : Int32)), (.int (Int32.ofNat (u + 9))), (.ref b1)])) rfl rfl (hb hby at_321)
      have N26 := Fr.snoc X26 N24 sz1
      have Zs26 : n0 ≤ h26.size := by rw [W26.size]; exact Zs24
      have V26 := BArr.set Aro27 hszo27 hato27 W26 (clamp_of rfl (by omega) : ((Int32.ofNat (u + 9))).toNatClampNeg = u + 9)
      obtain ⟨f26, hf26⟩ : ∃ f', f' = own_upd f24 (u + 9) ((0 : Int32).toInt8.toInt32) := ⟨_, rfl⟩
      rw [← hf26] at V26
      refine own_to T26 (mkF m 329 #[.val (.int i0), .val (.int i1), .val (.int i2), .val (.int (Int32.ofNat nl)), .val (.int (0 : Int32)), .val (.int (0 : Int32)), .val (.int (Int32.ofNat (u))), .val (.ref b1), .val (.int (Int32.ofNat (u + 1))), .unset, .unset, .unset, .unset, .unset] [(.int ((Int32.ofNat (u + 1)) + (9 : Int32))), (.ref b1)]) (fun tq kq => st26 _ (XS.aload X26.here hx rfl (hb hby at_322) rfl rfl (XS.iload X26.here hx rfl (hb hby at_324) rfl (XS.bipush X26.here hx rfl (hb hby at_326) (XS.iadd X26.here hx rfl (hb hby at_328) rfl kq))))) ?_
      rw [show ((Int32.ofNat (u + 1)) + (9 : Int32)) = (Int32.ofNat (u + 10)) from own_addn (u + 1) 9 (by omega) (by decide)]
      refine own_to T26 (mkF m 330 #[.val (.int i0), .val (.int i1), .val (.int i2), .val (.int (Int32.ofNat nl)), .val (.int (0 : Int32)), .val (.int (0 : Int32)), .val (.int (Int32.ofNat (u))), .val (.ref b1), .val (.int (Int32.ofNat (u + 1))), .unset, .unset, .unset, .unset, .unset] [(.int (0 : Int32)), (.int (Int32.ofNat (u + 10))), (.ref b1)]) (fun tq kq => XS.iconst X26.here hx rfl (hb hby at_329) kq) ?_
      obtain ⟨co29, Aro29, hszo29, hato29⟩ := id V26
      obtain ⟨T28, h28, X28, e28, W28, st28⟩ := stB X26 hx hZ e26 Aro29 (j := (Int32.ofNat (u + 10))) (by rw [hszo29]; exact within rfl (show u + 10 < 20 by omega) (by decide)) (g := (mkF m 330 #[.val (.int i0), .val (.int i1), .val (.int i2), .val (.int (Int32.ofNat nl)), .val (.int (0 : Int32)), .val (.int (0 : Int32)), .val (.int (Int32.ofNat (u))), .val (.ref b1), .val (.int (Int32.ofNat (u + 1))), .unset, .unset, .unset, .unset, .unset] [(.int (0 : Int32)), (.int (Int32.ofNat (u + 10))), (.ref b1)])) rfl rfl (hb hby at_330)
      have N28 := Fr.snoc X28 N26 sz1
      have Zs28 : n0 ≤ h28.size := by rw [W28.size]; exact Zs26
      have V28 := BArr.set Aro29 hszo29 hato29 W28 (clamp_of rfl (by omega) : ((Int32.ofNat (u + 10))).toNatClampNeg = u + 10)
      obtain ⟨f28, hf28⟩ : ∃ f', f' = own_upd f26 (u + 10) ((0 : Int32).toInt8.toInt32) := ⟨_, rfl⟩
      rw [← hf28] at V28
      refine own_to T28 (mkF m 336 #[.val (.int i0), .val (.int i1), .val (.int i2), .val (.int (Int32.ofNat nl)), .val (.int (0 : Int32)), .val (.int (0 : Int32)), .val (.int (Int32.ofNat (u))), .val (.ref b1), .val (.int (Int32.ofNat (u + 1))), .unset, .unset, .unset, .unset, .unset] [(.int ((Int32.ofNat (u + 1)) + (10 : Int32)))]) (fun tq kq => st28 _ (XS.iload X28.here hx rfl (hb hby at_331) rfl (XS.bipush X28.here hx rfl (hb hby at_333) (XS.iadd X28.here hx rfl (hb hby at_335) rfl kq)))) ?_
      rw [show ((Int32.ofNat (u + 1)) + (10 : Int32)) = (Int32.ofNat (u + 11)) from own_addn (u + 1) 10 (by omega) (by decide)]
      refine own_to T28 (mkF m 338 #[.val (.int i0), .val (.int i1), .val (.int i2), .val (.int (Int32.ofNat nl)), .val (.int (0 : Int32)), .val (.int (0 : Int32)), .val (.int (Int32.ofNat (u))), .val (.ref b1), .val (.int (Int32.ofNat (u + 11))), .unset, .unset, .unset, .unset, .unset] []) (fun tq kq => XS.istore X28.here hx rfl (hb hby at_336) rfl (l' := #[.val (.int i0), .val (.int i1), .val (.int i2), .val (.int (Int32.ofNat nl)), .val (.int (0 : Int32)), .val (.int (0 : Int32)), .val (.int (Int32.ofNat (u))), .val (.ref b1), .val (.int (Int32.ofNat (u + 11))), .unset, .unset, .unset, .unset, .unset]) rfl kq) ?_
      obtain ⟨T30, h30, X30, e30, E30, A30, D30, -, st30⟩ := newO X28 hx hZ hown (own_w hw 1 rfl) (own_w hw 2 rfl) (own_w hw 3 rfl) e28 (g := (mkF m 338 #[.val (.int i0), .val (.int i1), .val (.int i2), .val (.int (Int32.ofNat nl)), .val (.int (0 : Int32)), .val (.int (0 : Int32)), .val (.int (Int32.ofNat (u))), .val (.ref b1), .val (.int (Int32.ofNat (u + 11))), .unset, .unset, .unset, .unset, .unset] [])) rfl (hb hby at_338) (by decide) (by decide)
      obtain ⟨b30, g30⟩ : ∃ z, z = h28.size := ⟨_, rfl⟩
      rw [← g30] at A30 D30 st30
      have ne_b1_b30 : own_ne b1 b30 := Nat.ne_of_lt (Nat.lt_of_lt_of_le V28.lt (Nat.le_of_eq g30.symm))
      have f31 := V28.ext E30
      have sz30 : n0 ≤ b30 := Nat.le_trans Zs28 (Nat.le_of_eq g30.symm)
      have Zs30 : n0 ≤ h30.size := Nat.le_trans Zs28 E30.1
      have F30_packed : Fld Z h30 b30 "com/example/warmjoin/warmjoin/PackedFields$Cursor" "packed" "[B" .null := D30 (Or.inl (own_w hw 16 rfl)) (ty := (.array .byte)) (by decide)
      have F30_to : Fld Z h30 b30 "com/example/warmjoin/warmjoin/PackedFields$Cursor" "to" "I" (.int (0 : Int32)) := D30 (Or.inl (own_w hw 18 rfl)) (ty := .int) (by decide)
      have F30_at : Fld Z h30 b30 "com/example/warmjoin/warmjoin/PackedFields$Cursor" "at" "I" (.int (0 : Int32)) := D30 (Or.inl (own_w hw 20 rfl)) (ty := .int) (by decide)
      have F30_left : Fld Z h30 b30 "com/example/warmjoin/warmjoin/PackedFields$Cursor" "left" "I" (.int (0 : Int32)) := D30 (Or.inl (own_w hw 22 rfl)) (ty := .int) (by decide)
      have F30_text : Fld Z h30 b30 "com/example/warmjoin/warmjoin/PackedFields$Cursor" "text" "Z" (.int (0 : Int32)) := D30 (Or.inl (own_w hw 52 rfl)) (ty := .boolean) (by decide)
      have F30_textEnd : Fld Z h30 b30 "com/example/warmjoin/warmjoin/PackedFields$Cursor" "textEnd" "I" (.int (0 : Int32)) := D30 (Or.inl (own_w hw 57 rfl)) (ty := .int) (by decide)
      have F30_literals : Fld Z h30 b30 "com/example/warmjoin/warmjoin/PackedFields$Cursor" "literals" "I" (.int (0 : Int32)) := D30 (Or.inl (own_w hw 60 rfl)) (ty := .int) (by decide)
      have F30_index : Fld Z h30 b30 "com/example/warmjoin/warmjoin/PackedFields$Cursor" "index" "I" (.int (0 : Int32)) := D30 (Or.inl (own_w hw 62 rfl)) (ty := .int) (by decide)
      have F30_offset : Fld Z h30 b30 "com/example/warmjoin/warmjoin/PackedFields$Cursor" "offset" "I" (.int (0 : Int32)) := D30 (Or.inl (own_w hw 67 rfl)) (ty := .int) (by decide)
      have F30_length : Fld Z h30 b30 "com/example/warmjoin/warmjoin/PackedFields$Cursor" "length" "I" (.int (0 : Int32)) := D30 (Or.inl (own_w hw 69 rfl)) (ty := .int) (by decide)
      refine own_to T30 (mkF m 342 #[.val (.int i0), .val (.int i1), .val (.int i2), .val (.int (Int32.ofNat nl)), .val (.int (0 : Int32)), .val (.int (0 : Int32)), .val (.int (Int32.ofNat (u))), .val (.ref b1), .val (.int (Int32.ofNat (u + 11))), .unset, .unset, .unset, .unset, .unset] [(.ref b30), (.ref b30)]) (fun tq kq => st30 _ (XS.dup X30.here hx rfl (hb hby at_341) rfl rfl kq)) ?_
      obtain ⟨_, _, ⟨T32, L32, k32, n32⟩, -, X32, ⟨Lc32, hQ32, l32, y32, z32⟩, st32⟩ := X30.specialBack hx (y := (⟨"com/example/warmjoin/warmjoin/PackedFields$Cursor", "<init>", "()V"⟩ : MethodName)) rfl hown (mvT hZ (own_w hw 4 rfl)) (mvT hZ (own_w hw 5 rfl)) (mvT hZ (own_w hw 6 rfl)) (by decide) (backOf (W := 1) (rm_init l Z a0 hw [] b30 h30 n0 Zs30) hZ (own_w hw 6 rfl) (own_w hw 3 rfl) (by decide) (by decide)) (g := (mkF m 342 #[.val (.int i0), .val (.int i1), .val (.int i2), .val (.int (Int32.ofNat nl)), .val (.int (0 : Int32)), .val (.int (0 : Int32)), .val (.int (Int32.ofNat (u))), .val (.ref b1), .val (.int (Int32.ofNat (u + 11))), .unset, .unset, .unset, .unset, .unset] [(.ref b30), (.ref b30)])) rfl (by rw [hml]; rfl) (Steps.refl _) (a := b30) (argsL := []) (rest := [(.ref b30)]) (lenOf pd_0 rfl) rfl (by show 2 * 0 + _ ≤ _; exact Nat.le_of_eq rfl) (hb hby at_342) (fun _ _ => ⟨rfl, e30, (by decide : 2 + 0 ≤ _), (by decide : 30 + 0 ≤ _)⟩)
      dsimp only [Pt.U, Pt.locs, Pt.cells, Pt.slots] at X32 l32 y32 z32 st32 hQ32
      have l32y := l32.symm
      clear l32
      subst l32y
      obtain rfl : k32 = 2 := y32
      obtain rfl : n32 = 30 := z32
      obtain ⟨rfl, N32q, e32⟩ := hQ32
      have N32 := Fr.app N28 N32q
      refine own_to T32 (mkF m 351 #[.val (.int i0), .val (.int i1), .val (.int i2), .val (.int (Int32.ofNat nl)), .val (.int (0 : Int32)), .val (.int (0 : Int32)), .val (.int (Int32.ofNat (u))), .val (.ref b1), .val (.int (Int32.ofNat (u + 11))), .unset, .unset, .unset, .unset, .unset] [(.int (Int32.ofNat (u + 11))), (.int (Int32.ofNat (u))), (.ref b1), (.ref b30)]) (fun tq kq => st32.trans (XS.aload X32.here hx rfl (hb hby at_345) rfl rfl (XS.iload X32.here hx rfl (hb hby at_347) rfl (XS.iload X32.here hx rfl (hb hby at_349) rfl kq)))) ?_
      -- what the buffer holds
      have g_u : f28 (u) = (36 : Int32) := by simp [hf2, hf4, hf6, hf8, hf10, hf12, hf14, hf16, hf18, hf20, hf22, hf24, hf26, hf28, own_upd]; try decide
      have g_u_1 : f28 (u + 1) = (1 : Int32) := by simp [hf2, hf4, hf6, hf8, hf10, hf12, hf14, hf16, hf18, hf20, hf22, hf24, hf26, hf28, own_upd]; try decide
      have g_u_2 : f28 (u + 2) = (44 : Int32) := by simp [hf2, hf4, hf6, hf8, hf10, hf12, hf14, hf16, hf18, hf20, hf22, hf24, hf26, hf28, own_upd]; try decide
      have g_u_3 : f28 (u + 3) = (0 : Int32) := by simp [hf2, hf4, hf6, hf8, hf10, hf12, hf14, hf16, hf18, hf20, hf22, hf24, hf26, hf28, own_upd]; try decide
      have g_u_4 : f28 (u + 4) = (0 : Int32) := by simp [hf2, hf4, hf6, hf8, hf10, hf12, hf14, hf16, hf18, hf20, hf22, hf24, hf26, hf28, own_upd]; try decide
      have g_u_5 : f28 (u + 5) = (0 : Int32) := by simp [hf2, hf4, hf6, hf8, hf10, hf12, hf14, hf16, hf18, hf20, hf22, hf24, hf26, hf28, own_upd]; try decide
      have g_u_6 : f28 (u + 6) = (0 : Int32) := by simp [hf2, hf4, hf6, hf8, hf10, hf12, hf14, hf16, hf18, hf20, hf22, hf24, hf26, hf28, own_upd]; try decide
      have g_u_7 : f28 (u + 7) = (0 : Int32) := by simp [hf2, hf4, hf6, hf8, hf10, hf12, hf14, hf16, hf18, hf20, hf22, hf24, hf26, hf28, own_upd]; try decide
      have g_u_8 : f28 (u + 8) = (0 : Int32) := by simp [hf2, hf4, hf6, hf8, hf10, hf12, hf14, hf16, hf18, hf20, hf22, hf24, hf26, hf28, own_upd]; try decide
      have g_u_9 : f28 (u + 9) = (0 : Int32) := by simp [hf2, hf4, hf6, hf8, hf10, hf12, hf14, hf16, hf18, hf20, hf22, hf24, hf26, hf28, own_upd]; try decide
      have g_u_10 : f28 (u + 10) = (0 : Int32) := by simp [hf2, hf4, hf6, hf8, hf10, hf12, hf14, hf16, hf18, hf20, hf22, hf24, hf26, hf28, own_upd]; try decide
      obtain ⟨cq33, kq33, q33a, q33b, q33c⟩ := isOf hZ e32 A30
      obtain ⟨_, _, ⟨T33, L33, k33, n33⟩, -, X33, ⟨Lc33, hQ33, l33, y33, z33⟩, st33⟩ := X32.virtualBack hx (y := (⟨"com/example/warmjoin/warmjoin/PackedFields$Cursor", "over", "([BII)Lcom/example/warmjoin/warmjoin/PackedFields$Cursor;"⟩ : MethodName)) (z := (⟨"com/example/warmjoin/warmjoin/PackedFields$Cursor", "over", "([BII)Lcom/example/warmjoin/warmjoin/PackedFields$Cursor;"⟩ : MethodName)) hown (mvT hZ (own_w hw 10 rfl)) (mvT hZ (own_w hw 11 rfl)) (notFace_of_selects (args := #[]) (mvT hZ (own_w hw 13 rfl))) (mvT hZ (own_w hw 13 rfl)) (mvT hZ (own_w hw 12 rfl)) (by decide) (backOf (W := 0) (rm_over l Z a0 hw [] b30 b1 (Int32.ofNat (u)) (Int32.ofNat (u + 11)) h30 n0 Zs30 (show Cur Z h30 b30 .null (0 : Int32) (0 : Int32) (0 : Int32) (0 : Int32) (0 : Int32) (0 : Int32) (0 : Int32) (0 : Int32) (0 : Int32) from ⟨A30, F30_packed, F30_to, F30_at, F30_left, F30_text, F30_textEnd, F30_literals, F30_index, F30_offset, F30_length⟩) sz30) hZ (own_w hw 14 rfl) (own_w hw 3 rfl) (by decide) (by decide)) q33a q33c (g := (mkF m 351 #[.val (.int i0), .val (.int i1), .val (.int i2), .val (.int (Int32.ofNat nl)), .val (.int (0 : Int32)), .val (.int (0 : Int32)), .val (.int (Int32.ofNat (u))), .val (.ref b1), .val (.int (Int32.ofNat (u + 11))), .unset, .unset, .unset, .unset, .unset] [(.int (Int32.ofNat (u + 11))), (.int (Int32.ofNat (u))), (.ref b1), (.ref b30)])) rfl (by rw [hml]; rfl) (Steps.refl _) (argsL := [(.ref b1), (.int (Int32.ofNat (u))), (.int (Int32.ofNat (u + 11)))]) (rest := []) (lenOf pd_1 rfl) rfl (by show 2 * 0 + _ ≤ _; exact Nat.le_of_eq rfl) (hb hby at_351) (fun _ _ => ⟨rfl, e32, (by decide : 2 + 0 ≤ _), (by decide : 30 + 0 ≤ _)⟩)
      dsimp only [Pt.U, Pt.locs, Pt.cells, Pt.slots] at X33 l33 y33 z33 st33 hQ33
      have l33y := l33.symm
      clear l33
      subst l33y
      obtain rfl : k33 = 2 := y33
      obtain rfl : n33 = 30 := z33
      obtain ⟨rfl, N33q, K33q, U33⟩ := hQ33
      have N33 := Fr.app N32 N33q
      have f34 := f31.keep K33q (ninS ne_b1_b30 nin0)
      have f35 := A30.keep K33q
      have Zs33 : n0 ≤ T33.heap.size := Nat.le_trans Zs30 K33q.1
      refine own_to T33 (mkF m 358 #[.val (.int i0), .val (.int i1), .val (.int i2), .val (.int (Int32.ofNat nl)), .val (.int (0 : Int32)), .val (.int (0 : Int32)), .val (.int (Int32.ofNat (u))), .val (.ref b1), .val (.int (Int32.ofNat (u + 11))), .val (.ref b30), .unset, .unset, .unset, .unset] [(.ref b30)]) (fun tq kq => st33.trans (XS.astore X33.here hx rfl (hb hby at_354) rfl rfl (l' := #[.val (.int i0), .val (.int i1), .val (.int i2), .val (.int (Int32.ofNat nl)), .val (.int (0 : Int32)), .val (.int (0 : Int32)), .val (.int (Int32.ofNat (u))), .val (.ref b1), .val (.int (Int32.ofNat (u + 11))), .val (.ref b30), .unset, .unset, .unset, .unset]) rfl (XS.aload X33.here hx rfl (hb hby at_356) rfl rfl kq))) ?_
      obtain ⟨cq36, kq36, q36a, q36b, q36c⟩ := isOf hZ rfl f35
      obtain ⟨_, _, ⟨T36, L36, k36, n36⟩, -, X36, ⟨Lc36, hQ36, l36, y36, z36⟩, st36⟩ := X33.virtualBack hx (y := (⟨"com/example/warmjoin/warmjoin/PackedFields$Cursor", "next", "()Z"⟩ : MethodName)) (z := (⟨"com/example/warmjoin/warmjoin/PackedFields$Cursor", "next", "()Z"⟩ : MethodName)) hown (mvT hZ (own_w hw 23 rfl)) (mvT hZ (own_w hw 24 rfl)) (notFace_of_selects (args := #[]) (mvT hZ (own_w hw 26 rfl))) (mvT hZ (own_w hw 26 rfl)) (mvT hZ (own_w hw 25 rfl)) (by decide) (backOf (W := 0) (rm_next000 l Z a0 hw [] b30 b1 f28 u (u + 11) _ _ _ _ _ _ T33.heap n0 Zs33 U33 (Ne.symm ne_b1_b30) sz30 f34 hu4 (by omega) (by omega) (g_u.trans rfl) (g_u_1.trans rfl)) hZ (own_w hw 27 rfl) (own_w hw 3 rfl) (by decide) (by decide)) q36a q36c (g := (mkF m 358 #[.val (.int i0), .val (.int i1), .val (.int i2), .val (.int (Int32.ofNat nl)), .val (.int (0 : Int32)), .val (.int (0 : Int32)), .val (.int (Int32.ofNat (u))), .val (.ref b1), .val (.int (Int32.ofNat (u + 11))), .val (.ref b30), .unset, .unset, .unset, .unset] [(.ref b30)])) rfl (by rw [hml]; rfl) (Steps.refl _) (argsL := []) (rest := []) (lenOf pd_2 rfl) rfl (by show 2 * 0 + _ ≤ _; exact Nat.le_of_eq rfl) (hb hby at_358) (fun _ _ => ⟨rfl, rfl, (by decide : 2 + 0 ≤ _), (by decide : 30 + 0 ≤ _)⟩)
      dsimp only [Pt.U, Pt.locs, Pt.cells, Pt.slots] at X36 l36 y36 z36 st36 hQ36
      have l36y := l36.symm
      clear l36
      subst l36y
      obtain rfl : k36 = 2 := y36
      obtain rfl : n36 = 30 := z36
      obtain ⟨rfl, N36q, K36q, o36, l36, U36⟩ := hQ36
      have N36 := Fr.app N33 N36q
      have f37 := f34.keep K36q (ninS ne_b1_b30 nin0)
      have f38 := f35.keep K36q
      have Zs36 : n0 ≤ T36.heap.size := Nat.le_trans Zs33 K36q.1
      refine own_to T36 (mkF m 364 #[.val (.int i0), .val (.int i1), .val (.int i2), .val (.int (Int32.ofNat nl)), .val (.int (0 : Int32)), .val (.int (0 : Int32)), .val (.int (Int32.ofNat (u))), .val (.ref b1), .val (.int (Int32.ofNat (u + 11))), .val (.ref b30), .unset, .unset, .unset, .unset] [(.ref b30)]) (fun tq kq => st36.trans (XS.pop X36.here hx rfl (hb hby at_361) rfl rfl (XS.aload X36.here hx rfl (hb hby at_362) rfl rfl kq))) ?_
      obtain ⟨cq39, kq39, q39a, q39b, q39c⟩ := isOf hZ rfl f38
      obtain ⟨_, _, ⟨T39, L39, k39, n39⟩, -, X39, ⟨Lc39, hQ39, l39, y39, z39⟩, st39⟩ := X36.virtualBack hx (y := (⟨"com/example/warmjoin/warmjoin/PackedFields$Cursor", "next", "()Z"⟩ : MethodName)) (z := (⟨"com/example/warmjoin/warmjoin/PackedFields$Cursor", "next", "()Z"⟩ : MethodName)) hown (mvT hZ (own_w hw 23 rfl)) (mvT hZ (own_w hw 24 rfl)) (notFace_of_selects (args := #[]) (mvT hZ (own_w hw 26 rfl))) (mvT hZ (own_w hw 26 rfl)) (mvT hZ (own_w hw 25 rfl)) (by decide) (backOf (W := 0) (rm_next1N l Z a0 hw [] b30 b1 f28 (u + 3) 8 (u + 1) 0 _ _ _ _ T36.heap n0 Zs36 U36 (Ne.symm ne_b1_b30) sz30 f37 (by omega) (by omega) (by omega) (by omega) (by omega) (g_u_3.trans rfl)) hZ (own_w hw 27 rfl) (own_w hw 3 rfl) (by decide) (by decide)) q39a q39c (g := (mkF m 364 #[.val (.int i0), .val (.int i1), .val (.int i2), .val (.int (Int32.ofNat nl)), .val (.int (0 : Int32)), .val (.int (0 : Int32)), .val (.int (Int32.ofNat (u))), .val (.ref b1), .val (.int (Int32.ofNat (u + 11))), .val (.ref b30), .unset, .unset, .unset, .unset] [(.ref b30)])) rfl (by rw [hml]; rfl) (Steps.refl _) (argsL := []) (rest := []) (lenOf pd_2 rfl) rfl (by show 2 * 0 + _ ≤ _; exact Nat.le_of_eq rfl) (hb hby at_364) (fun _ _ => ⟨rfl, rfl, (by decide : 2 + 0 ≤ _), (by decide : 30 + 0 ≤ _)⟩)
      dsimp only [Pt.U, Pt.locs, Pt.cells, Pt.slots] at X39 l39 y39 z39 st39 hQ39
      have l39y := l39.symm
      clear l39
      subst l39y
      obtain rfl : k39 = 2 := y39
      obtain rfl : n39 = 30 := z39
      obtain ⟨rfl, N39q, K39q, o39, l39, U39⟩ := hQ39
      have N39 := Fr.app N36 N39q
      have f40 := f37.keep K39q (ninS ne_b1_b30 nin0)
      have f41 := f38.keep K39q
      have Zs39 : n0 ≤ T39.heap.size := Nat.le_trans Zs36 K39q.1
      refine own_to T39 (mkF m 370 #[.val (.int i0), .val (.int i1), .val (.int i2), .val (.int (Int32.ofNat nl)), .val (.int (0 : Int32)), .val (.int (0 : Int32)), .val (.int (Int32.ofNat (u))), .val (.ref b1), .val (.int (Int32.ofNat (u + 11))), .val (.ref b30), .unset, .unset, .unset, .unset] [(.ref b30)]) (fun tq kq => st39.trans (XS.pop X39.here hx rfl (hb hby at_367) rfl rfl (XS.aload X39.here hx rfl (hb hby at_368) rfl rfl kq))) ?_
      obtain ⟨cq42, kq42, q42a, q42b, q42c⟩ := isOf hZ rfl f41
      obtain ⟨_, _, ⟨T42, L42, k42, n42⟩, -, X42, ⟨Lc42, hQ42, l42, y42, z42⟩, st42⟩ := X39.virtualBack hx (y := (⟨"com/example/warmjoin/warmjoin/PackedFields$Cursor", "next", "()Z"⟩ : MethodName)) (z := (⟨"com/example/warmjoin/warmjoin/PackedFields$Cursor", "next", "()Z"⟩ : MethodName)) hown (mvT hZ (own_w hw 23 rfl)) (mvT hZ (own_w hw 24 rfl)) (notFace_of_selects (args := #[]) (mvT hZ (own_w hw 26 rfl))) (mvT hZ (own_w hw 26 rfl)) (mvT hZ (own_w hw 25 rfl)) (by decide) (backOf (W := 0) (rm_next1N l Z a0 hw [] b30 b1 f28 (u + 4) 7 (u + 1) 1 _ _ _ _ T39.heap n0 Zs39 U39 (Ne.symm ne_b1_b30) sz30 f40 (by omega) (by omega) (by omega) (by omega) (by omega) (g_u_4.trans rfl)) hZ (own_w hw 27 rfl) (own_w hw 3 rfl) (by decide) (by decide)) q42a q42c (g := (mkF m 370 #[.val (.int i0), .val (.int i1), .val (.int i2), .val (.int (Int32.ofNat nl)), .val (.int (0 : Int32)), .val (.int (0 : Int32)), .val (.int (Int32.ofNat (u))), .val (.ref b1), .val (.int (Int32.ofNat (u + 11))), .val (.ref b30), .unset, .unset, .unset, .unset] [(.ref b30)])) rfl (by rw [hml]; rfl) (Steps.refl _) (argsL := []) (rest := []) (lenOf pd_2 rfl) rfl (by show 2 * 0 + _ ≤ _; exact Nat.le_of_eq rfl) (hb hby at_370) (fun _ _ => ⟨rfl, rfl, (by decide : 2 + 0 ≤ _), (by decide : 30 + 0 ≤ _)⟩)
      dsimp only [Pt.U, Pt.locs, Pt.cells, Pt.slots] at X42 l42 y42 z42 st42 hQ42
      have l42y := l42.symm
      clear l42
      subst l42y
      obtain rfl : k42 = 2 := y42
      obtain rfl : n42 = 30 := z42
      obtain ⟨rfl, N42q, K42q, o42, l42, U42⟩ := hQ42
      have N42 := Fr.app N39 N42q
      have f43 := f40.keep K42q (ninS ne_b1_b30 nin0)
      have f44 := f41.keep K42q
      have Zs42 : n0 ≤ T42.heap.size := Nat.le_trans Zs39 K42q.1
      refine own_to T42 (mkF m 376 #[.val (.int i0), .val (.int i1), .val (.int i2), .val (.int (Int32.ofNat nl)), .val (.int (0 : Int32)), .val (.int (0 : Int32)), .val (.int (Int32.ofNat (u))), .val (.ref b1), .val (.int (Int32.ofNat (u + 11))), .val (.ref b30), .unset, .unset, .unset, .unset] [(.ref b30)]) (fun tq kq => st42.trans (XS.pop X42.here hx rfl (hb hby at_373) rfl rfl (XS.aload X42.here hx rfl (hb hby at_374) rfl rfl kq))) ?_
      obtain ⟨cq45, kq45, q45a, q45b, q45c⟩ := isOf hZ rfl f44
      obtain ⟨_, _, ⟨T45, L45, k45, n45⟩, -, X45, ⟨Lc45, hQ45, l45, y45, z45⟩, st45⟩ := X42.virtualBack hx (y := (⟨"com/example/warmjoin/warmjoin/PackedFields$Cursor", "next", "()Z"⟩ : MethodName)) (z := (⟨"com/example/warmjoin/warmjoin/PackedFields$Cursor", "next", "()Z"⟩ : MethodName)) hown (mvT hZ (own_w hw 23 rfl)) (mvT hZ (own_w hw 24 rfl)) (notFace_of_selects (args := #[]) (mvT hZ (own_w hw 26 rfl))) (mvT hZ (own_w hw 26 rfl)) (mvT hZ (own_w hw 25 rfl)) (by decide) (backOf (W := 0) (rm_next1N l Z a0 hw [] b30 b1 f28 (u + 5) 6 (u + 1) 2 _ _ _ _ T42.heap n0 Zs42 U42 (Ne.symm ne_b1_b30) sz30 f43 (by omega) (by omega) (by omega) (by omega) (by omega) (g_u_5.trans rfl)) hZ (own_w hw 27 rfl) (own_w hw 3 rfl) (by decide) (by decide)) q45a q45c (g := (mkF m 376 #[.val (.int i0), .val (.int i1), .val (.int i2), .val (.int (Int32.ofNat nl)), .val (.int (0 : Int32)), .val (.int (0 : Int32)), .val (.int (Int32.ofNat (u))), .val (.ref b1), .val (.int (Int32.ofNat (u + 11))), .val (.ref b30), .unset, .unset, .unset, .unset] [(.ref b30)])) rfl (by rw [hml]; rfl) (Steps.refl _) (argsL := []) (rest := []) (lenOf pd_2 rfl) rfl (by show 2 * 0 + _ ≤ _; exact Nat.le_of_eq rfl) (hb hby at_376) (fun _ _ => ⟨rfl, rfl, (by decide : 2 + 0 ≤ _), (by decide : 30 + 0 ≤ _)⟩)
      dsimp only [Pt.U, Pt.locs, Pt.cells, Pt.slots] at X45 l45 y45 z45 st45 hQ45
      have l45y := l45.symm
      clear l45
      subst l45y
      obtain rfl : k45 = 2 := y45
      obtain rfl : n45 = 30 := z45
      obtain ⟨rfl, N45q, K45q, o45, l45, U45⟩ := hQ45
      have N45 := Fr.app N42 N45q
      have f46 := f43.keep K45q (ninS ne_b1_b30 nin0)
      have f47 := f44.keep K45q
      have Zs45 : n0 ≤ T45.heap.size := Nat.le_trans Zs42 K45q.1
      refine own_to T45 (mkF m 382 #[.val (.int i0), .val (.int i1), .val (.int i2), .val (.int (Int32.ofNat nl)), .val (.int (0 : Int32)), .val (.int (0 : Int32)), .val (.int (Int32.ofNat (u))), .val (.ref b1), .val (.int (Int32.ofNat (u + 11))), .val (.ref b30), .unset, .unset, .unset, .unset] [(.ref b30)]) (fun tq kq => st45.trans (XS.pop X45.here hx rfl (hb hby at_379) rfl rfl (XS.aload X45.here hx rfl (hb hby at_380) rfl rfl kq))) ?_
      obtain ⟨cq48, kq48, q48a, q48b, q48c⟩ := isOf hZ rfl f47
      obtain ⟨_, _, ⟨T48, L48, k48, n48⟩, -, X48, ⟨Lc48, hQ48, l48, y48, z48⟩, st48⟩ := X45.virtualBack hx (y := (⟨"com/example/warmjoin/warmjoin/PackedFields$Cursor", "next", "()Z"⟩ : MethodName)) (z := (⟨"com/example/warmjoin/warmjoin/PackedFields$Cursor", "next", "()Z"⟩ : MethodName)) hown (mvT hZ (own_w hw 23 rfl)) (mvT hZ (own_w hw 24 rfl)) (notFace_of_selects (args := #[]) (mvT hZ (own_w hw 26 rfl))) (mvT hZ (own_w hw 26 rfl)) (mvT hZ (own_w hw 25 rfl)) (by decide) (backOf (W := 0) (rm_next1N l Z a0 hw [] b30 b1 f28 (u + 6) 5 (u + 1) 3 _ _ _ _ T45.heap n0 Zs45 U45 (Ne.symm ne_b1_b30) sz30 f46 (by omega) (by omega) (by omega) (by omega) (by omega) (g_u_6.trans rfl)) hZ (own_w hw 27 rfl) (own_w hw 3 rfl) (by decide) (by decide)) q48a q48c (g := (mkF m 382 #[.val (.int i0), .val (.int i1), .val (.int i2), .val (.int (Int32.ofNat nl)), .val (.int (0 : Int32)), .val (.int (0 : Int32)), .val (.int (Int32.ofNat (u))), .val (.ref b1), .val (.int (Int32.ofNat (u + 11))), .val (.ref b30), .unset, .unset, .unset, .unset] [(.ref b30)])) rfl (by rw [hml]; rfl) (Steps.refl _) (argsL := []) (rest := []) (lenOf pd_2 rfl) rfl (by show 2 * 0 + _ ≤ _; exact Nat.le_of_eq rfl) (hb hby at_382) (fun _ _ => ⟨rfl, rfl, (by decide : 2 + 0 ≤ _), (by decide : 30 + 0 ≤ _)⟩)
      dsimp only [Pt.U, Pt.locs, Pt.cells, Pt.slots] at X48 l48 y48 z48 st48 hQ48
      have l48y := l48.symm
      clear l48
      subst l48y
      obtain rfl : k48 = 2 := y48
      obtain rfl : n48 = 30 := z48
      obtain ⟨rfl, N48q, K48q, o48, l48, U48⟩ := hQ48
      have N48 := Fr.app N45 N48q
      have f49 := f46.keep K48q (ninS ne_b1_b30 nin0)
      have f50 := f47.keep K48q
      have Zs48 : n0 ≤ T48.heap.size := Nat.le_trans Zs45 K48q.1
      refine own_to T48 (mkF m 388 #[.val (.int i0), .val (.int i1), .val (.int i2), .val (.int (Int32.ofNat nl)), .val (.int (0 : Int32)), .val (.int (0 : Int32)), .val (.int (Int32.ofNat (u))), .val (.ref b1), .val (.int (Int32.ofNat (u + 11))), .val (.ref b30), .unset, .unset, .unset, .unset] [(.ref b30)]) (fun tq kq => st48.trans (XS.pop X48.here hx rfl (hb hby at_385) rfl rfl (XS.aload X48.here hx rfl (hb hby at_386) rfl rfl kq))) ?_
      obtain ⟨cq51, kq51, q51a, q51b, q51c⟩ := isOf hZ rfl f50
      obtain ⟨_, _, ⟨T51, L51, k51, n51⟩, -, X51, ⟨Lc51, hQ51, l51, y51, z51⟩, st51⟩ := X48.virtualBack hx (y := (⟨"com/example/warmjoin/warmjoin/PackedFields$Cursor", "next", "()Z"⟩ : MethodName)) (z := (⟨"com/example/warmjoin/warmjoin/PackedFields$Cursor", "next", "()Z"⟩ : MethodName)) hown (mvT hZ (own_w hw 23 rfl)) (mvT hZ (own_w hw 24 rfl)) (notFace_of_selects (args := #[]) (mvT hZ (own_w hw 26 rfl))) (mvT hZ (own_w hw 26 rfl)) (mvT hZ (own_w hw 25 rfl)) (by decide) (backOf (W := 0) (rm_next1N l Z a0 hw [] b30 b1 f28 (u + 7) 4 (u + 1) 4 _ _ _ _ T48.heap n0 Zs48 U48 (Ne.symm ne_b1_b30) sz30 f49 (by omega) (by omega) (by omega) (by omega) (by omega) (g_u_7.trans rfl)) hZ (own_w hw 27 rfl) (own_w hw 3 rfl) (by decide) (by decide)) q51a q51c (g := (mkF m 388 #[.val (.int i0), .val (.int i1), .val (.int i2), .val (.int (Int32.ofNat nl)), .val (.int (0 : Int32)), .val (.int (0 : Int32)), .val (.int (Int32.ofNat (u))), .val (.ref b1), .val (.int (Int32.ofNat (u + 11))), .val (.ref b30), .unset, .unset, .unset, .unset] [(.ref b30)])) rfl (by rw [hml]; rfl) (Steps.refl _) (argsL := []) (rest := []) (lenOf pd_2 rfl) rfl (by show 2 * 0 + _ ≤ _; exact Nat.le_of_eq rfl) (hb hby at_388) (fun _ _ => ⟨rfl, rfl, (by decide : 2 + 0 ≤ _), (by decide : 30 + 0 ≤ _)⟩)
      dsimp only [Pt.U, Pt.locs, Pt.cells, Pt.slots] at X51 l51 y51 z51 st51 hQ51
      have l51y := l51.symm
      clear l51
      subst l51y
      obtain rfl : k51 = 2 := y51
      obtain rfl : n51 = 30 := z51
      obtain ⟨rfl, N51q, K51q, o51, l51, U51⟩ := hQ51
      have N51 := Fr.app N48 N51q
      have f52 := f49.keep K51q (ninS ne_b1_b30 nin0)
      have f53 := f50.keep K51q
      have Zs51 : n0 ≤ T51.heap.size := Nat.le_trans Zs48 K51q.1
      refine own_to T51 (mkF m 394 #[.val (.int i0), .val (.int i1), .val (.int i2), .val (.int (Int32.ofNat nl)), .val (.int (0 : Int32)), .val (.int (0 : Int32)), .val (.int (Int32.ofNat (u))), .val (.ref b1), .val (.int (Int32.ofNat (u + 11))), .val (.ref b30), .unset, .unset, .unset, .unset] [(.ref b30)]) (fun tq kq => st51.trans (XS.pop X51.here hx rfl (hb hby at_391) rfl rfl (XS.aload X51.here hx rfl (hb hby at_392) rfl rfl kq))) ?_
      obtain ⟨cq54, kq54, q54a, q54b, q54c⟩ := isOf hZ rfl f53
      obtain ⟨_, _, ⟨T54, L54, k54, n54⟩, -, X54, ⟨Lc54, hQ54, l54, y54, z54⟩, st54⟩ := X51.virtualBack hx (y := (⟨"com/example/warmjoin/warmjoin/PackedFields$Cursor", "next", "()Z"⟩ : MethodName)) (z := (⟨"com/example/warmjoin/warmjoin/PackedFields$Cursor", "next", "()Z"⟩ : MethodName)) hown (mvT hZ (own_w hw 23 rfl)) (mvT hZ (own_w hw 24 rfl)) (notFace_of_selects (args := #[]) (mvT hZ (own_w hw 26 rfl))) (mvT hZ (own_w hw 26 rfl)) (mvT hZ (own_w hw 25 rfl)) (by decide) (backOf (W := 0) (rm_next1N l Z a0 hw [] b30 b1 f28 (u + 8) 3 (u + 1) 5 _ _ _ _ T51.heap n0 Zs51 U51 (Ne.symm ne_b1_b30) sz30 f52 (by omega) (by omega) (by omega) (by omega) (by omega) (g_u_8.trans rfl)) hZ (own_w hw 27 rfl) (own_w hw 3 rfl) (by decide) (by decide)) q54a q54c (g := (mkF m 394 #[.val (.int i0), .val (.int i1), .val (.int i2), .val (.int (Int32.ofNat nl)), .val (.int (0 : Int32)), .val (.int (0 : Int32)), .val (.int (Int32.ofNat (u))), .val (.ref b1), .val (.int (Int32.ofNat (u + 11))), .val (.ref b30), .unset, .unset, .unset, .unset] [(.ref b30)])) rfl (by rw [hml]; rfl) (Steps.refl _) (argsL := []) (rest := []) (lenOf pd_2 rfl) rfl (by show 2 * 0 + _ ≤ _; exact Nat.le_of_eq rfl) (hb hby at_394) (fun _ _ => ⟨rfl, rfl, (by decide : 2 + 0 ≤ _), (by decide : 30 + 0 ≤ _)⟩)
      dsimp only [Pt.U, Pt.locs, Pt.cells, Pt.slots] at X54 l54 y54 z54 st54 hQ54
      have l54y := l54.symm
      clear l54
      subst l54y
      obtain rfl : k54 = 2 := y54
      obtain rfl : n54 = 30 := z54
      obtain ⟨rfl, N54q, K54q, o54, l54, U54⟩ := hQ54
      have N54 := Fr.app N51 N54q
      have f55 := f52.keep K54q (ninS ne_b1_b30 nin0)
      have f56 := f53.keep K54q
      have Zs54 : n0 ≤ T54.heap.size := Nat.le_trans Zs51 K54q.1
      refine own_to T54 (mkF m 400 #[.val (.int i0), .val (.int i1), .val (.int i2), .val (.int (Int32.ofNat nl)), .val (.int (0 : Int32)), .val (.int (0 : Int32)), .val (.int (Int32.ofNat (u))), .val (.ref b1), .val (.int (Int32.ofNat (u + 11))), .val (.ref b30), .unset, .unset, .unset, .unset] [(.ref b30)]) (fun tq kq => st54.trans (XS.pop X54.here hx rfl (hb hby at_397) rfl rfl (XS.aload X54.here hx rfl (hb hby at_398) rfl rfl kq))) ?_
      obtain ⟨cq57, kq57, q57a, q57b, q57c⟩ := isOf hZ rfl f56
      obtain ⟨_, _, ⟨T57, L57, k57, n57⟩, -, X57, ⟨Lc57, hQ57, l57, y57, z57⟩, st57⟩ := X54.virtualBack hx (y := (⟨"com/example/warmjoin/warmjoin/PackedFields$Cursor", "next", "()Z"⟩ : MethodName)) (z := (⟨"com/example/warmjoin/warmjoin/PackedFields$Cursor", "next", "()Z"⟩ : MethodName)) hown (mvT hZ (own_w hw 23 rfl)) (mvT hZ (own_w hw 24 rfl)) (notFace_of_selects (args := #[]) (mvT hZ (own_w hw 26 rfl))) (mvT hZ (own_w hw 26 rfl)) (mvT hZ (own_w hw 25 rfl)) (by decide) (backOf (W := 0) (rm_next1N l Z a0 hw [] b30 b1 f28 (u + 9) 2 (u + 1) 6 _ _ _ _ T54.heap n0 Zs54 U54 (Ne.symm ne_b1_b30) sz30 f55 (by omega) (by omega) (by omega) (by omega) (by omega) (g_u_9.trans rfl)) hZ (own_w hw 27 rfl) (own_w hw 3 rfl) (by decide) (by decide)) q57a q57c (g := (mkF m 400 #[.val (.int i0), .val (.int i1), .val (.int i2), .val (.int (Int32.ofNat nl)), .val (.int (0 : Int32)), .val (.int (0 : Int32)), .val (.int (Int32.ofNat (u))), .val (.ref b1), .val (.int (Int32.ofNat (u + 11))), .val (.ref b30), .unset, .unset, .unset, .unset] [(.ref b30)])) rfl (by rw [hml]; rfl) (Steps.refl _) (argsL := []) (rest := []) (lenOf pd_2 rfl) rfl (by show 2 * 0 + _ ≤ _; exact Nat.le_of_eq rfl) (hb hby at_400) (fun _ _ => ⟨rfl, rfl, (by decide : 2 + 0 ≤ _), (by decide : 30 + 0 ≤ _)⟩)
      dsimp only [Pt.U, Pt.locs, Pt.cells, Pt.slots] at X57 l57 y57 z57 st57 hQ57
      have l57y := l57.symm
      clear l57
      subst l57y
      obtain rfl : k57 = 2 := y57
      obtain rfl : n57 = 30 := z57
      obtain ⟨rfl, N57q, K57q, o57, l57, U57⟩ := hQ57
      have N57 := Fr.app N54 N57q
      have f58 := f55.keep K57q (ninS ne_b1_b30 nin0)
      have f59 := f56.keep K57q
      have Zs57 : n0 ≤ T57.heap.size := Nat.le_trans Zs54 K57q.1
      refine own_to T57 (mkF m 406 #[.val (.int i0), .val (.int i1), .val (.int i2), .val (.int (Int32.ofNat nl)), .val (.int (0 : Int32)), .val (.int (0 : Int32)), .val (.int (Int32.ofNat (u))), .val (.ref b1), .val (.int (Int32.ofNat (u + 11))), .val (.ref b30), .unset, .unset, .unset, .unset] [(.ref b30)]) (fun tq kq => st57.trans (XS.pop X57.here hx rfl (hb hby at_403) rfl rfl (XS.aload X57.here hx rfl (hb hby at_404) rfl rfl kq))) ?_
      obtain ⟨cq60, kq60, q60a, q60b, q60c⟩ := isOf hZ rfl f59
      obtain ⟨_, _, ⟨T60, L60, k60, n60⟩, -, X60, ⟨Lc60, hQ60, l60, y60, z60⟩, st60⟩ := X57.virtualBack hx (y := (⟨"com/example/warmjoin/warmjoin/PackedFields$Cursor", "literal", "()Z"⟩ : MethodName)) (z := (⟨"com/example/warmjoin/warmjoin/PackedFields$Cursor", "literal", "()Z"⟩ : MethodName)) hown (mvT hZ (own_w hw 70 rfl)) (mvT hZ (own_w hw 71 rfl)) (notFace_of_selects (args := #[]) (mvT hZ (own_w hw 73 rfl))) (mvT hZ (own_w hw 73 rfl)) (mvT hZ (own_w hw 72 rfl)) (by decide) (backOf (W := 0) (rm_litN l Z a0 hw [] b30 b1 _ _ _ _ _ _ _ _ T57.heap n0 Zs57 U57) hZ (own_w hw 74 rfl) (own_w hw 3 rfl) (by decide) (by decide)) q60a q60c (g := (mkF m 406 #[.val (.int i0), .val (.int i1), .val (.int i2), .val (.int (Int32.ofNat nl)), .val (.int (0 : Int32)), .val (.int (0 : Int32)), .val (.int (Int32.ofNat (u))), .val (.ref b1), .val (.int (Int32.ofNat (u + 11))), .val (.ref b30), .unset, .unset, .unset, .unset] [(.ref b30)])) rfl (by rw [hml]; rfl) (Steps.refl _) (argsL := []) (rest := []) (lenOf pd_2 rfl) rfl (by show 2 * 0 + _ ≤ _; exact Nat.le_of_eq rfl) (hb hby at_406) (fun _ _ => ⟨rfl, rfl, (by decide : 2 + 0 ≤ _), (by decide : 30 + 0 ≤ _)⟩)
      dsimp only [Pt.U, Pt.locs, Pt.cells, Pt.slots] at X60 l60 y60 z60 st60 hQ60
      have l60y := l60.symm
      clear l60
      subst l60y
      obtain rfl : k60 = 2 := y60
      obtain rfl : n60 = 30 := z60
      obtain ⟨rfl, N60q, e60⟩ := hQ60
      have N60 := Fr.app N57 N60q
      refine own_to T60 (mkF m 413 #[.val (.int i0), .val (.int i1), .val (.int i2), .val (.int (Int32.ofNat nl)), .val (.int (0 : Int32)), .val (.int (0 : Int32)), .val (.int (Int32.ofNat (u))), .val (.ref b1), .val (.int (Int32.ofNat (u + 11))), .val (.ref b30), .val (.int (0 : Int32)), .unset, .unset, .unset] [(.ref b30)]) (fun tq kq => st60.trans (XS.istore X60.here hx rfl (hb hby at_409) rfl (l' := #[.val (.int i0), .val (.int i1), .val (.int i2), .val (.int (Int32.ofNat nl)), .val (.int (0 : Int32)), .val (.int (0 : Int32)), .val (.int (Int32.ofNat (u))), .val (.ref b1), .val (.int (Int32.ofNat (u + 11))), .val (.ref b30), .val (.int (0 : Int32)), .unset, .unset, .unset]) rfl (XS.aload X60.here hx rfl (hb hby at_411) rfl rfl kq))) ?_
      obtain ⟨cq61, kq61, q61a, q61b, q61c⟩ := isOf hZ e60 f59
      obtain ⟨_, _, ⟨T61, L61, k61, n61⟩, -, X61, ⟨Lc61, hQ61, l61, y61, z61⟩, st61⟩ := X60.virtualBack hx (y := (⟨"com/example/warmjoin/warmjoin/PackedFields$Cursor", "next", "()Z"⟩ : MethodName)) (z := (⟨"com/example/warmjoin/warmjoin/PackedFields$Cursor", "next", "()Z"⟩ : MethodName)) hown (mvT hZ (own_w hw 23 rfl)) (mvT hZ (own_w hw 24 rfl)) (notFace_of_selects (args := #[]) (mvT hZ (own_w hw 26 rfl))) (mvT hZ (own_w hw 26 rfl)) (mvT hZ (own_w hw 25 rfl)) (by decide) (backOf (W := 0) (rm_next1N l Z a0 hw [] b30 b1 f28 (u + 10) 1 (u + 1) 7 _ _ _ _ T57.heap n0 Zs57 U57 (Ne.symm ne_b1_b30) sz30 f58 (by omega) (by omega) (by omega) (by omega) (by omega) (g_u_10.trans rfl)) hZ (own_w hw 27 rfl) (own_w hw 3 rfl) (by decide) (by decide)) q61a q61c (g := (mkF m 413 #[.val (.int i0), .val (.int i1), .val (.int i2), .val (.int (Int32.ofNat nl)), .val (.int (0 : Int32)), .val (.int (0 : Int32)), .val (.int (Int32.ofNat (u))), .val (.ref b1), .val (.int (Int32.ofNat (u + 11))), .val (.ref b30), .val (.int (0 : Int32)), .unset, .unset, .unset] [(.ref b30)])) rfl (by rw [hml]; rfl) (Steps.refl _) (argsL := []) (rest := []) (lenOf pd_2 rfl) rfl (by show 2 * 0 + _ ≤ _; exact Nat.le_of_eq rfl) (hb hby at_413) (fun _ _ => ⟨rfl, e60, (by decide : 2 + 0 ≤ _), (by decide : 30 + 0 ≤ _)⟩)
      dsimp only [Pt.U, Pt.locs, Pt.cells, Pt.slots] at X61 l61 y61 z61 st61 hQ61
      have l61y := l61.symm
      clear l61
      subst l61y
      obtain rfl : k61 = 2 := y61
      obtain rfl : n61 = 30 := z61
      obtain ⟨rfl, N61q, K61q, o61, l61, U61⟩ := hQ61
      have N61 := Fr.app N60 N61q
      have f62 := f58.keep K61q (ninS ne_b1_b30 nin0)
      have f63 := f59.keep K61q
      have Zs61 : n0 ≤ T61.heap.size := Nat.le_trans Zs57 K61q.1
      refine own_to T61 (mkF m 419 #[.val (.int i0), .val (.int i1), .val (.int i2), .val (.int (Int32.ofNat nl)), .val (.int (0 : Int32)), .val (.int (0 : Int32)), .val (.int (Int32.ofNat (u))), .val (.ref b1), .val (.int (Int32.ofNat (u + 11))), .val (.ref b30), .val (.int (0 : Int32)), .unset, .unset, .unset] [(.ref b30)]) (fun tq kq => st61.trans (XS.pop X61.here hx rfl (hb hby at_416) rfl rfl (XS.aload X61.here hx rfl (hb hby at_417) rfl rfl kq))) ?_
      obtain ⟨cq64, kq64, q64a, q64b, q64c⟩ := isOf hZ rfl f63
      obtain ⟨_, _, ⟨T64, L64, k64, n64⟩, -, X64, ⟨Lc64, hQ64, l64, y64, z64⟩, st64⟩ := X61.virtualBack hx (y := (⟨"com/example/warmjoin/warmjoin/PackedFields$Cursor", "literal", "()Z"⟩ : MethodName)) (z := (⟨"com/example/warmjoin/warmjoin/PackedFields$Cursor", "literal", "()Z"⟩ : MethodName)) hown (mvT hZ (own_w hw 70 rfl)) (mvT hZ (own_w hw 71 rfl)) (notFace_of_selects (args := #[]) (mvT hZ (own_w hw 73 rfl))) (mvT hZ (own_w hw 73 rfl)) (mvT hZ (own_w hw 72 rfl)) (by decide) (backOf (W := 0) (rm_litN l Z a0 hw [] b30 b1 _ _ _ _ _ _ _ _ T61.heap n0 Zs61 U61) hZ (own_w hw 74 rfl) (own_w hw 3 rfl) (by decide) (by decide)) q64a q64c (g := (mkF m 419 #[.val (.int i0), .val (.int i1), .val (.int i2), .val (.int (Int32.ofNat nl)), .val (.int (0 : Int32)), .val (.int (0 : Int32)), .val (.int (Int32.ofNat (u))), .val (.ref b1), .val (.int (Int32.ofNat (u + 11))), .val (.ref b30), .val (.int (0 : Int32)), .unset, .unset, .unset] [(.ref b30)])) rfl (by rw [hml]; rfl) (Steps.refl _) (argsL := []) (rest := []) (lenOf pd_2 rfl) rfl (by show 2 * 0 + _ ≤ _; exact Nat.le_of_eq rfl) (hb hby at_419) (fun _ _ => ⟨rfl, rfl, (by decide : 2 + 0 ≤ _), (by decide : 30 + 0 ≤ _)⟩)
      dsimp only [Pt.U, Pt.locs, Pt.cells, Pt.slots] at X64 l64 y64 z64 st64 hQ64
      have l64y := l64.symm
      clear l64
      subst l64y
      obtain rfl : k64 = 2 := y64
      obtain rfl : n64 = 30 := z64
      obtain ⟨rfl, N64q, e64⟩ := hQ64
      have N64 := Fr.app N61 N64q
      refine own_to T64 (mkF m 466 #[.val (.int i0), .val (.int i1), .val (.int i2), .val (.int (Int32.ofNat nl)), .val (.int (0 : Int32)), .val (.int (0 : Int32)), .val (.int (Int32.ofNat (u))), .val (.ref b1), .val (.int (Int32.ofNat (u + 11))), .val (.ref b30), .val (.int (0 : Int32)), .val (.int (0 : Int32)), .val (.int (0 : Int32)), .val (.int (0 : Int32))] []) (fun tq kq => st64.trans (XS.istore X64.here hx rfl (hb hby at_422) rfl (l' := #[.val (.int i0), .val (.int i1), .val (.int i2), .val (.int (Int32.ofNat nl)), .val (.int (0 : Int32)), .val (.int (0 : Int32)), .val (.int (Int32.ofNat (u))), .val (.ref b1), .val (.int (Int32.ofNat (u + 11))), .val (.ref b30), .val (.int (0 : Int32)), .val (.int (0 : Int32)), .unset, .unset]) rfl (XS.iload X64.here hx rfl (hb hby at_424) rfl (XS.ifYes X64.here hx rfl (pc0 := 426) (pc' := 442) rfl (hb hby at_426) rfl ((if0 _ _).trans (teq (by decide : (0 : Int32) = (0 : Int32))).1) (by decide) (by decide) (XS.iconst X64.here hx rfl (hb hby at_442) (XS.istore X64.here hx rfl (hb hby at_443) rfl (l' := #[.val (.int i0), .val (.int i1), .val (.int i2), .val (.int (Int32.ofNat nl)), .val (.int (0 : Int32)), .val (.int (0 : Int32)), .val (.int (Int32.ofNat (u))), .val (.ref b1), .val (.int (Int32.ofNat (u + 11))), .val (.ref b30), .val (.int (0 : Int32)), .val (.int (0 : Int32)), .val (.int (0 : Int32)), .unset]) rfl (XS.iload X64.here hx rfl (hb hby at_445) rfl (XS.ifYes X64.here hx rfl (pc0 := 447) (pc' := 463) rfl (hb hby at_447) rfl ((if0 _ _).trans (teq (by decide : (0 : Int32) = (0 : Int32))).1) (by decide) (by decide) (XS.iconst X64.here hx rfl (hb hby at_463) (XS.istore X64.here hx rfl (hb hby at_464) rfl (l' := #[.val (.int i0), .val (.int i1), .val (.int i2), .val (.int (Int32.ofNat nl)), .val (.int (0 : Int32)), .val (.int (0 : Int32)), .val (.int (Int32.ofNat (u))), .val (.ref b1), .val (.int (Int32.ofNat (u + 11))), .val (.ref b30), .val (.int (0 : Int32)), .val (.int (0 : Int32)), .val (.int (0 : Int32)), .val (.int (0 : Int32))]) rfl kq)))))))))) ?_
      refine own_to T64 (mkF m 485 #[.val (.int i0), .val (.int i1), .val (.int i2), .val (.int (Int32.ofNat nl)), .val (.int (0 : Int32)), .val (.int (0 : Int32)), .val (.int (Int32.ofNat (u))), .val (.ref b1), .val (.int (Int32.ofNat (u + 11))), .val (.ref b30), .val (.int (0 : Int32)), .val (.int (0 : Int32)), .val (.int (0 : Int32)), .val (.int (0 : Int32))] [(.int (1 : Int32))]) (fun tq kq => XS.iload X64.here hx rfl (hb hby at_466) rfl (XS.iload X64.here hx rfl (hb hby at_468) rfl (XS.icmpNo X64.here hx rfl (hb hby at_470) rfl (teq (by decide : (0 : Int32) = (0 : Int32))).2 (XS.iload X64.here hx rfl (hb hby at_473) rfl (XS.iload X64.here hx rfl (hb hby at_475) rfl (XS.icmpNo X64.here hx rfl (hb hby at_477) rfl (teq (by decide : (0 : Int32) = (0 : Int32))).2 (XS.iconst X64.here hx rfl (hb hby at_480) (XS.goto X64.here hx rfl (pc0 := 481) (pc' := 485) rfl (hb hby at_481) (by decide) (by decide) kq)))))))) ?_
      exact own_retZ X64 hx hret hlk (hb hby at_485) (by decide) (by decide) (Or.inr rfl) ⟨rfl, N64⟩
    · skip
      refine own_to s₁ (mkF m 41 #[.val (.int i0), .val (.int i1), .val (.int i2), .val (.int (Int32.ofNat nl)), .val (.int (0 : Int32)), .val (.int (1 : Int32)), .unset, .unset, .unset, .unset, .unset, .unset, .unset, .unset] [(.int (((i1.toUInt32 >>> ((2 : Int32) &&& 31).toUInt32).toInt32) &&& (3 : Int32)))]) (fun tq kq => XS.iloadN X0.here hx rfl (hb hby at_36) rfl (XS.iconst X0.here hx rfl (hb hby at_37) (XS.iushr X0.here hx rfl (hb hby at_38) rfl (XS.iconst X0.here hx rfl (hb hby at_39) (XS.iand X0.here hx rfl (hb hby at_40) rfl kq))))) ?_
      obtain ⟨u, hu, hs6⟩ := own_small ((i1.toUInt32 >>> ((2 : Int32) &&& 31).toUInt32).toInt32) (3 : Int32) 3 rfl (by decide)
      rw [hs6]
      have hu4 : u < 4 := by omega
      refine own_to s₁ (mkF m 45 #[.val (.int i0), .val (.int i1), .val (.int i2), .val (.int (Int32.ofNat nl)), .val (.int (0 : Int32)), .val (.int (1 : Int32)), .val (.int (Int32.ofNat (u))), .unset, .unset, .unset, .unset, .unset, .unset, .unset] [(.int (20 : Int32))]) (fun tq kq => XS.istore X0.here hx rfl (hb hby at_41) rfl (l' := #[.val (.int i0), .val (.int i1), .val (.int i2), .val (.int (Int32.ofNat nl)), .val (.int (0 : Int32)), .val (.int (1 : Int32)), .val (.int (Int32.ofNat (u))), .unset, .unset, .unset, .unset, .unset, .unset, .unset]) rfl (XS.bipush X0.here hx rfl (hb hby at_43) kq)) ?_
      obtain ⟨T65, h65, k65, X65, e65, E65, A65, st65⟩ := newP X0 hx hZ (own_w hw 0 rfl) e0 (g := (mkF m 45 #[.val (.int i0), .val (.int i1), .val (.int i2), .val (.int (Int32.ofNat nl)), .val (.int (0 : Int32)), .val (.int (1 : Int32)), .val (.int (Int32.ofNat (u))), .unset, .unset, .unset, .unset, .unset, .unset, .unset] [(.int (20 : Int32))])) rfl (hb hby at_45) rfl (by decide) (cap := 20) (by decide) (by decide) (by decide) (by decide)
      obtain ⟨b65, g65⟩ : ∃ z, z = h0.size := ⟨_, rfl⟩
      rw [← g65] at A65 st65
      have sz65 : n0 ≤ b65 := Nat.le_trans Z0 (Nat.le_of_eq g65.symm)
      have Zs65 : n0 ≤ h65.size := Nat.le_trans Z0 E65.1
      have V65 : BArr Z h65 b65 20 (fun _ => 0) := BArr.new A65 (by decide)
      refine own_to T65 (mkF m 54 #[.val (.int i0), .val (.int i1), .val (.int i2), .val (.int (Int32.ofNat nl)), .val (.int (0 : Int32)), .val (.int (1 : Int32)), .val (.int (Int32.ofNat (u))), .val (.ref b65), .unset, .unset, .unset, .unset, .unset, .unset] [(.int (i2.toInt8.toInt32)), (.int (0 : Int32)), (.ref b65)]) (fun tq kq => st65 _ (XS.astore X65.here hx rfl (hb hby at_47) rfl rfl (l' := #[.val (.int i0), .val (.int i1), .val (.int i2), .val (.int (Int32.ofNat nl)), .val (.int (0 : Int32)), .val (.int (1 : Int32)), .val (.int (Int32.ofNat (u))), .val (.ref b65), .unset, .unset, .unset, .unset, .unset, .unset]) rfl (XS.aload X65.here hx rfl (hb hby at_49) rfl rfl (XS.iconst X65.here hx rfl (hb hby at_51) (XS.iloadN X65.here hx rfl (hb hby at_52) rfl (XS.i2b X65.here hx rfl (hb hby at_53) rfl kq)))))) ?_
      obtain ⟨co67, Aro67, hszo67, hato67⟩ := id V65
      obtain ⟨T66, h66, X66, e66, W66, st66⟩ := stB X65 hx hZ e65 Aro67 (j := (0 : Int32)) (by rw [hszo67]; decide) (g := (mkF m 54 #[.val (.int i0), .val (.int i1), .val (.int i2), .val (.int (Int32.ofNat nl)), .val (.int (0 : Int32)), .val (.int (1 : Int32)), .val (.int (Int32.ofNat (u))), .val (.ref b65), .unset, .unset, .unset, .unset, .unset, .unset] [(.int (i2.toInt8.toInt32)), (.int (0 : Int32)), (.ref b65)])) rfl rfl (hb hby at_54)
      have N66 := Fr.snoc X66 (Fr.nil n0) sz65
      have Zs66 : n0 ≤ h66.size := by rw [W66.size]; exact Zs65
      have V66 := BArr.set Aro67 hszo67 hato67 W66 (by decide : ((0 : Int32)).toNatClampNeg = 0)
      obtain ⟨f66, hf66⟩ : ∃ f', f' = own_upd (fun _ => 0) (0) ((i2.toInt8.toInt32).toInt8.toInt32) := ⟨_, rfl⟩
      rw [← hf66] at V66
      refine own_to T66 (mkF m 63 #[.val (.int i0), .val (.int i1), .val (.int i2), .val (.int (Int32.ofNat nl)), .val (.int (0 : Int32)), .val (.int (1 : Int32)), .val (.int (Int32.ofNat (u))), .val (.ref b65), .unset, .unset, .unset, .unset, .unset, .unset] [(.int (((i2.toUInt32 >>> ((8 : Int32) &&& 31).toUInt32).toInt32).toInt8.toInt32)), (.int (1 : Int32)), (.ref b65)]) (fun tq kq => st66 _ (XS.aload X66.here hx rfl (hb hby at_55) rfl rfl (XS.iconst X66.here hx rfl (hb hby at_57) (XS.iloadN X66.here hx rfl (hb hby at_58) rfl (XS.bipush X66.here hx rfl (hb hby at_59) (XS.iushr X66.here hx rfl (hb hby at_61) rfl (XS.i2b X66.here hx rfl (hb hby at_62) rfl kq))))))) ?_
      obtain ⟨co69, Aro69, hszo69, hato69⟩ := id V66
      obtain ⟨T68, h68, X68, e68, W68, st68⟩ := stB X66 hx hZ e66 Aro69 (j := (1 : Int32)) (by rw [hszo69]; decide) (g := (mkF m 63 #[.val (.int i0), .val (.int i1), .val (.int i2), .val (.int (Int32.ofNat nl)), .val (.int (0 : Int32)), .val (.int (1 : Int32)), .val (.int (Int32.ofNat (u))), .val (.ref b65), .unset, .unset, .unset, .unset, .unset, .unset] [(.int (((i2.toUInt32 >>> ((8 : Int32) &&& 31).toUInt32).toInt32).toInt8.toInt32)), (.int (1 : Int32)), (.ref b65)])) rfl rfl (hb hby at_63)
      have N68 := Fr.snoc X68 N66 sz65
      have Zs68 : n0 ≤ h68.size := by rw [W68.size]; exact Zs66
      have V68 := BArr.set Aro69 hszo69 hato69 W68 (by decide : ((1 : Int32)).toNatClampNeg = 1)
      obtain ⟨f68, hf68⟩ : ∃ f', f' = own_upd f66 (1) ((((i2.toUInt32 >>> ((8 : Int32) &&& 31).toUInt32).toInt32).toInt8.toInt32).toInt8.toInt32) := ⟨_, rfl⟩
      rw [← hf68] at V68
      refine own_to T68 (mkF m 72 #[.val (.int i0), .val (.int i1), .val (.int i2), .val (.int (Int32.ofNat nl)), .val (.int (0 : Int32)), .val (.int (1 : Int32)), .val (.int (Int32.ofNat (u))), .val (.ref b65), .unset, .unset, .unset, .unset, .unset, .unset] [(.int (((i2.toUInt32 >>> ((16 : Int32) &&& 31).toUInt32).toInt32).toInt8.toInt32)), (.int (2 : Int32)), (.ref b65)]) (fun tq kq => st68 _ (XS.aload X68.here hx rfl (hb hby at_64) rfl rfl (XS.iconst X68.here hx rfl (hb hby at_66) (XS.iloadN X68.here hx rfl (hb hby at_67) rfl (XS.bipush X68.here hx rfl (hb hby at_68) (XS.iushr X68.here hx rfl (hb hby at_70) rfl (XS.i2b X68.here hx rfl (hb hby at_71) rfl kq))))))) ?_
      obtain ⟨co71, Aro71, hszo71, hato71⟩ := id V68
      obtain ⟨T70, h70, X70, e70, W70, st70⟩ := stB X68 hx hZ e68 Aro71 (j := (2 : Int32)) (by rw [hszo71]; decide) (g := (mkF m 72 #[.val (.int i0), .val (.int i1), .val (.int i2), .val (.int (Int32.ofNat nl)), .val (.int (0 : Int32)), .val (.int (1 : Int32)), .val (.int (Int32.ofNat (u))), .val (.ref b65), .unset, .unset, .unset, .unset, .unset, .unset] [(.int (((i2.toUInt32 >>> ((16 : Int32) &&& 31).toUInt32).toInt32).toInt8.toInt32)), (.int (2 : Int32)), (.ref b65)])) rfl rfl (hb hby at_72)
      have N70 := Fr.snoc X70 N68 sz65
      have Zs70 : n0 ≤ h70.size := by rw [W70.size]; exact Zs68
      have V70 := BArr.set Aro71 hszo71 hato71 W70 (by decide : ((2 : Int32)).toNatClampNeg = 2)
      obtain ⟨f70, hf70⟩ : ∃ f', f' = own_upd f68 (2) ((((i2.toUInt32 >>> ((16 : Int32) &&& 31).toUInt32).toInt32).toInt8.toInt32).toInt8.toInt32) := ⟨_, rfl⟩
      rw [← hf70] at V70
      refine own_to T70 (mkF m 94 #[.val (.int i0), .val (.int i1), .val (.int i2), .val (.int (Int32.ofNat nl)), .val (.int (0 : Int32)), .val (.int (1 : Int32)), .val (.int (Int32.ofNat (u))), .val (.ref b65), .val (.int (Int32.ofNat (u))), .unset, .unset, .unset, .unset, .unset] [(.int ((36 : Int32) ||| (0 : Int32))), (.int (Int32.ofNat (u))), (.ref b65)]) (fun tq kq => st70 _ (XS.iload X70.here hx rfl (hb hby at_73) rfl (XS.istore X70.here hx rfl (hb hby at_75) rfl (l' := #[.val (.int i0), .val (.int i1), .val (.int i2), .val (.int (Int32.ofNat nl)), .val (.int (0 : Int32)), .val (.int (1 : Int32)), .val (.int (Int32.ofNat (u))), .val (.ref b65), .val (.int (Int32.ofNat (u))), .unset, .unset, .unset, .unset, .unset]) rfl (XS.aload X70.here hx rfl (hb hby at_77) rfl rfl (XS.iload X70.here hx rfl (hb hby at_79) rfl (XS.bipush X70.here hx rfl (hb hby at_81) (XS.iload X70.here hx rfl (hb hby at_83) rfl (XS.ifYes X70.here hx rfl (pc0 := 85) (pc' := 92) rfl (hb hby at_85) rfl ((if0 _ _).trans (teq (by decide : (0 : Int32) = (0 : Int32))).1) (by decide) (by decide) (XS.iconst X70.here hx rfl (hb hby at_92) (XS.ior X70.here hx rfl (hb hby at_93) rfl kq)))))))))) ?_
      refine own_to T70 (mkF m 106 #[.val (.int i0), .val (.int i1), .val (.int i2), .val (.int (Int32.ofNat nl)), .val (.int (0 : Int32)), .val (.int (1 : Int32)), .val (.int (Int32.ofNat (u))), .val (.ref b65), .val (.int (Int32.ofNat (u))), .unset, .unset, .unset, .unset, .unset] [(.int ((((36 : Int32) ||| (0 : Int32)) ||| (2 : Int32)).toInt8.toInt32)), (.int (Int32.ofNat (u))), (.ref b65)]) (fun tq kq => XS.iload X70.here hx rfl (hb hby at_94) rfl (XS.ifNo X70.here hx rfl (hb hby at_96) rfl ((if0 _ _).trans (feq (by decide : ¬ ((1 : Int32) = (0 : Int32)))).1) (XS.iconst X70.here hx rfl (hb hby at_99) (XS.goto X70.here hx rfl (pc0 := 100) (pc' := 104) rfl (hb hby at_100) (by decide) (by decide) (XS.ior X70.here hx rfl (hb hby at_104) rfl (XS.i2b X70.here hx rfl (hb hby at_105) rfl kq)))))) ?_
      rw [show ((((36 : Int32) ||| (0 : Int32)) ||| (2 : Int32)).toInt8.toInt32) = (38 : Int32) from by decide]
      obtain ⟨co73, Aro73, hszo73, hato73⟩ := id V70
      obtain ⟨T72, h72, X72, e72, W72, st72⟩ := stB X70 hx hZ e70 Aro73 (j := (Int32.ofNat (u))) (by rw [hszo73]; exact within rfl (show u < 20 by omega) (by decide)) (g := (mkF m 106 #[.val (.int i0), .val (.int i1), .val (.int i2), .val (.int (Int32.ofNat nl)), .val (.int (0 : Int32)), .val (.int (1 : Int32)), .val (.int (Int32.ofNat (u))), .val (.ref b65), .val (.int (Int32.ofNat (u))), .unset, .unset, .unset, .unset, .unset] [(.int (38 : Int32)), (.int (Int32.ofNat (u))), (.ref b65)])) rfl rfl (hb hby at_106)
      have N72 := Fr.snoc X72 N70 sz65
      have Zs72 : n0 ≤ h72.size := by rw [W72.size]; exact Zs70
      have V72 := BArr.set Aro73 hszo73 hato73 W72 (clamp_of rfl (by omega) : ((Int32.ofNat (u))).toNatClampNeg = u)
      obtain ⟨f72, hf72⟩ : ∃ f', f' = own_upd f70 (u) ((38 : Int32).toInt8.toInt32) := ⟨_, rfl⟩
      rw [← hf72] at V72
      refine own_to T72 (mkF m 111 #[.val (.int i0), .val (.int i1), .val (.int i2), .val (.int (Int32.ofNat nl)), .val (.int (0 : Int32)), .val (.int (1 : Int32)), .val (.int (Int32.ofNat (u))), .val (.ref b65), .val (.int (Int32.ofNat (u))), .unset, .unset, .unset, .unset, .unset] [(.int ((Int32.ofNat (u)) + (1 : Int32)))]) (fun tq kq => st72 _ (XS.iload X72.here hx rfl (hb hby at_107) rfl (XS.iconst X72.here hx rfl (hb hby at_109) (XS.iadd X72.here hx rfl (hb hby at_110) rfl kq)))) ?_
      rw [show ((Int32.ofNat (u)) + (1 : Int32)) = (Int32.ofNat (u + 1)) from own_addn (u) 1 (by omega) (by decide)]
      refine own_to T72 (mkF m 142 #[.val (.int i0), .val (.int i1), .val (.int i2), .val (.int (Int32.ofNat nl)), .val (.int (0 : Int32)), .val (.int (1 : Int32)), .val (.int (Int32.ofNat (u))), .val (.ref b65), .val (.int (Int32.ofNat (u + 1))), .unset, .unset, .unset, .unset, .unset] [(.int ((Int32.ofNat nl).toInt8.toInt32)), (.int (Int32.ofNat (u + 1))), (.ref b65)]) (fun tq kq => XS.istore X72.here hx rfl (hb hby at_111) rfl (l' := #[.val (.int i0), .val (.int i1), .val (.int i2), .val (.int (Int32.ofNat nl)), .val (.int (0 : Int32)), .val (.int (1 : Int32)), .val (.int (Int32.ofNat (u))), .val (.ref b65), .val (.int (Int32.ofNat (u + 1))), .unset, .unset, .unset, .unset, .unset]) rfl (XS.iload X72.here hx rfl (hb hby at_113) rfl (XS.ifYes X72.here hx rfl (pc0 := 115) (pc' := 131) rfl (hb hby at_115) rfl ((if0 _ _).trans (teq (by decide : (0 : Int32) = (0 : Int32))).1) (by decide) (by decide) (XS.iload X72.here hx rfl (hb hby at_131) rfl (XS.ifNo X72.here hx rfl (hb hby at_133) rfl ((if0 _ _).trans (feq (by decide : ¬ ((1 : Int32) = (0 : Int32)))).1) (XS.aload X72.here hx rfl (hb hby at_136) rfl rfl (XS.iload X72.here hx rfl (hb hby at_138) rfl (XS.iloadN X72.here hx rfl (hb hby at_140) rfl (XS.i2b X72.here hx rfl (hb hby at_141) rfl kq))))))))) ?_
      obtain ⟨co75, Aro75, hszo75, hato75⟩ := id V72
      obtain ⟨T74, h74, X74, e74, W74, st74⟩ := stB X72 hx hZ e72 Aro75 (j := (Int32.ofNat (u + 1))) (by rw [hszo75]; exact within rfl (show u + 1 < 20 by omega) (by decide)) (g := (mkF m 142 #[.val (.int i0), .val (.int i1), .val (.int i2), .val (.int (Int32.ofNat nl)), .val (.int (0 : Int32)), .val (.int (1 : Int32)), .val (.int (Int32.ofNat (u))), .val (.ref b65), .val (.int (Int32.ofNat (u + 1))), .unset, .unset, .unset, .unset, .unset] [(.int ((Int32.ofNat nl).toInt8.toInt32)), (.int (Int32.ofNat (u + 1))), (.ref b65)])) rfl rfl (hb hby at_142)
      have N74 := Fr.snoc X74 N72 sz65
      have Zs74 : n0 ≤ h74.size := by rw [W74.size]; exact Zs72
      have V74 := BArr.set Aro75 hszo75 hato75 W74 (clamp_of rfl (by omega) : ((Int32.ofNat (u + 1))).toNatClampNeg = u + 1)
      obtain ⟨f74, hf74⟩ : ∃ f', f' = own_upd f72 (u + 1) (((Int32.ofNat nl).toInt8.toInt32).toInt8.toInt32) := ⟨_, rfl⟩
      rw [← hf74] at V74
      refine own_to T74 (mkF m 149 #[.val (.int i0), .val (.int i1), .val (.int i2), .val (.int (Int32.ofNat nl)), .val (.int (0 : Int32)), .val (.int (1 : Int32)), .val (.int (Int32.ofNat (u))), .val (.ref b65), .val (.int (Int32.ofNat (u + 1))), .unset, .unset, .unset, .unset, .unset] [(.int ((Int32.ofNat (u + 1)) + (1 : Int32))), (.ref b65)]) (fun tq kq => st74 _ (XS.aload X74.here hx rfl (hb hby at_143) rfl rfl (XS.iload X74.here hx rfl (hb hby at_145) rfl (XS.iconst X74.here hx rfl (hb hby at_147) (XS.iadd X74.here hx rfl (hb hby at_148) rfl kq))))) ?_
      rw [show ((Int32.ofNat (u + 1)) + (1 : Int32)) = (Int32.ofNat (u + 2)) from own_addn (u + 1) 1 (by omega) (by decide)]
      refine own_to T74 (mkF m 154 #[.val (.int i0), .val (.int i1), .val (.int i2), .val (.int (Int32.ofNat nl)), .val (.int (0 : Int32)), .val (.int (1 : Int32)), .val (.int (Int32.ofNat (u))), .val (.ref b65), .val (.int (Int32.ofNat (u + 1))), .unset, .unset, .unset, .unset, .unset] [(.int ((((Int32.ofNat nl).toUInt32 >>> ((8 : Int32) &&& 31).toUInt32).toInt32).toInt8.toInt32)), (.int (Int32.ofNat (u + 2))), (.ref b65)]) (fun tq kq => XS.iloadN X74.here hx rfl (hb hby at_149) rfl (XS.bipush X74.here hx rfl (hb hby at_150) (XS.iushr X74.here hx rfl (hb hby at_152) rfl (XS.i2b X74.here hx rfl (hb hby at_153) rfl kq)))) ?_
      obtain ⟨co77, Aro77, hszo77, hato77⟩ := id V74
      obtain ⟨T76, h76, X76, e76, W76, st76⟩ := stB X74 hx hZ e74 Aro77 (j := (Int32.ofNat (u + 2))) (by rw [hszo77]; exact within rfl (show u + 2 < 20 by omega) (by decide)) (g := (mkF m 154 #[.val (.int i0), .val (.int i1), .val (.int i2), .val (.int (Int32.ofNat nl)), .val (.int (0 : Int32)), .val (.int (1 : Int32)), .val (.int (Int32.ofNat (u))), .val (.ref b65), .val (.int (Int32.ofNat (u + 1))), .unset, .unset, .unset, .unset, .unset] [(.int ((((Int32.ofNat nl).toUInt32 >>> ((8 : Int32) &&& 31).toUInt32).toInt32).toInt8.toInt32)), (.int (Int32.ofNat (u + 2))), (.ref b65)])) rfl rfl (hb hby at_154)
      have N76 := Fr.snoc X76 N74 sz65
      have Zs76 : n0 ≤ h76.size := by rw [W76.size]; exact Zs74
      have V76 := BArr.set Aro77 hszo77 hato77 W76 (clamp_of rfl (by omega) : ((Int32.ofNat (u + 2))).toNatClampNeg = u + 2)
      obtain ⟨f76, hf76⟩ : ∃ f', f' = own_upd f74 (u + 2) (((((Int32.ofNat nl).toUInt32 >>> ((8 : Int32) &&& 31).toUInt32).toInt32).toInt8.toInt32).toInt8.toInt32) := ⟨_, rfl⟩
      rw [← hf76] at V76
      refine own_to T76 (mkF m 159 #[.val (.int i0), .val (.int i1), .val (.int i2), .val (.int (Int32.ofNat nl)), .val (.int (0 : Int32)), .val (.int (1 : Int32)), .val (.int (Int32.ofNat (u))), .val (.ref b65), .val (.int (Int32.ofNat (u + 1))), .unset, .unset, .unset, .unset, .unset] [(.int ((Int32.ofNat (u + 1)) + (2 : Int32)))]) (fun tq kq => st76 _ (XS.iload X76.here hx rfl (hb hby at_155) rfl (XS.iconst X76.here hx rfl (hb hby at_157) (XS.iadd X76.here hx rfl (hb hby at_158) rfl kq)))) ?_
      rw [show ((Int32.ofNat (u + 1)) + (2 : Int32)) = (Int32.ofNat (u + 3)) from own_addn (u + 1) 2 (by omega) (by decide)]
      refine own_to T76 (mkF m 253 #[.val (.int i0), .val (.int i1), .val (.int i2), .val (.int (Int32.ofNat nl)), .val (.int (0 : Int32)), .val (.int (1 : Int32)), .val (.int (Int32.ofNat (u))), .val (.ref b65), .val (.int (Int32.ofNat (u + 3))), .unset, .unset, .unset, .unset, .unset] [(.int (1 : Int32)), (.int (Int32.ofNat (u + 3))), (.ref b65)]) (fun tq kq => XS.istore X76.here hx rfl (hb hby at_159) rfl (l' := #[.val (.int i0), .val (.int i1), .val (.int i2), .val (.int (Int32.ofNat nl)), .val (.int (0 : Int32)), .val (.int (1 : Int32)), .val (.int (Int32.ofNat (u))), .val (.ref b65), .val (.int (Int32.ofNat (u + 3))), .unset, .unset, .unset, .unset, .unset]) rfl (XS.iload X76.here hx rfl (hb hby at_161) rfl (XS.ifYes X76.here hx rfl (pc0 := 163) (pc' := 248) rfl (hb hby at_163) rfl ((if0 _ _).trans (teq (by decide : (0 : Int32) = (0 : Int32))).1) (by decide) (by decide) (XS.aload X76.here hx rfl (hb hby at_248) rfl rfl (XS.iload X76.here hx rfl (hb hby at_250) rfl (XS.iconst X76.here hx rfl (hb hby at_252) kq)))))) ?_
      obtain ⟨co79, Aro79, hszo79, hato79⟩ := id V76
      obtain ⟨T78, h78, X78, e78, W78, st78⟩ := stB X76 hx hZ e76 Aro79 (j := (Int32.ofNat (u + 3))) (by rw [hszo79]; exact within rfl (show u + 3 < 20 by omega) (by decide)) (g := (mkF m 253 #[.val (.int i0), .val (.int i1), .val (.int i2), .val (.int (Int32.ofNat nl)), .val (.int (0 : Int32)), .val (.int (1 : Int32)), .val (.int (Int32.ofNat (u))), .val (.ref b65), .val (.int (Int32.ofNat (u + 3))), .unset, .unset, .unset, .unset, .unset] [(.int (1 : Int32)), (.int (Int32.ofNat (u + 3))), (.ref b65)])) rfl rfl (hb hby at_253)
      have N78 := Fr.snoc X78 N76 sz65
      have Zs78 : n0 ≤ h78.size := by rw [W78.size]; exact Zs76
      have V78 := BArr.set Aro79 hszo79 hato79 W78 (clamp_of rfl (by omega) : ((Int32.ofNat (u + 3))).toNatClampNeg = u + 3)
      obtain ⟨f78, hf78⟩ : ∃ f', f' = own_upd f76 (u + 3) ((1 : Int32).toInt8.toInt32) := ⟨_, rfl⟩
      rw [← hf78] at V78
      refine own_to T78 (mkF m 260 #[.val (.int i0), .val (.int i1), .val (.int i2), .val (.int (Int32.ofNat nl)), .val (.int (0 : Int32)), .val (.int (1 : Int32)), .val (.int (Int32.ofNat (u))), .val (.ref b65), .val (.int (Int32.ofNat (u + 3))), .unset, .unset, .unset, .unset, .unset] [(.int ((Int32.ofNat (u + 3)) + (1 : Int32))), (.ref b65)]) (fun tq kq => st78 _ (XS.aload X78.here hx rfl (hb hby at_254) rfl rfl (XS.iload X78.here hx rfl (hb hby at_256) rfl (XS.iconst X78.here hx rfl (hb hby at_258) (XS.iadd X78.here hx rfl (hb hby at_259) rfl kq))))) ?_
      rw [show ((Int32.ofNat (u + 3)) + (1 : Int32)) = (Int32.ofNat (u + 4)) from own_addn (u + 3) 1 (by omega) (by decide)]
      refine own_to T78 (mkF m 262 #[.val (.int i0), .val (.int i1), .val (.int i2), .val (.int (Int32.ofNat nl)), .val (.int (0 : Int32)), .val (.int (1 : Int32)), .val (.int (Int32.ofNat (u))), .val (.ref b65), .val (.int (Int32.ofNat (u + 3))), .unset, .unset, .unset, .unset, .unset] [(.int (44 : Int32)), (.int (Int32.ofNat (u + 4))), (.ref b65)]) (fun tq kq => XS.bipush X78.here hx rfl (hb hby at_260) kq) ?_
      obtain ⟨co81, Aro81, hszo81, hato81⟩ := id V78
      obtain ⟨T80, h80, X80, e80, W80, st80⟩ := stB X78 hx hZ e78 Aro81 (j := (Int32.ofNat (u + 4))) (by rw [hszo81]; exact within rfl (show u + 4 < 20 by omega) (by decide)) (g := (mkF m 262 #[.val (.int i0), .val (.int i1), .val (.int i2), .val (.int (Int32.ofNat nl)), .val (.int (0 : Int32)), .val (.int (1 : Int32)), .val (.int (Int32.ofNat (u))), .val (.ref b65), .val (.int (Int32.ofNat (u + 3))), .unset, .unset, .unset, .unset, .unset] [(.int (44 : Int32)), (.int (Int32.ofNat (u + 4))), (.ref b65)])) rfl rfl (hb hby at_262)
      have N80 := Fr.snoc X80 N78 sz65
      have Zs80 : n0 ≤ h80.size := by rw [W80.size]; exact Zs78
      have V80 := BArr.set Aro81 hszo81 hato81 W80 (clamp_of rfl (by omega) : ((Int32.ofNat (u + 4))).toNatClampNeg = u + 4)
      obtain ⟨f80, hf80⟩ : ∃ f', f' = own_upd f78 (u + 4) ((44 : Int32).toInt8.toInt32) := ⟨_, rfl⟩
      rw [← hf80] at V80
      refine own_to T80 (mkF m 269 #[.val (.int i0), .val (.int i1), .val (.int i2), .val (.int (Int32.ofNat nl)), .val (.int (0 : Int32)), .val (.int (1 : Int32)), .val (.int (Int32.ofNat (u))), .val (.ref b65), .val (.int (Int32.ofNat (u + 3))), .unset, .unset, .unset, .unset, .unset] [(.int ((Int32.ofNat (u + 3)) + (2 : Int32))), (.ref b65)]) (fun tq kq => st80 _ (XS.aload X80.here hx rfl (hb hby at_263) rfl rfl (XS.iload X80.here hx rfl (hb hby at_265) rfl (XS.iconst X80.here hx rfl (hb hby at_267) (XS.iadd X80.here hx rfl (hb hby at_268) rfl kq))))) ?_
      rw [show ((Int32.ofNat (u + 3)) + (2 : Int32)) = (Int32.ofNat (u + 5)) from own_addn (u + 3) 2 (by omega) (by decide)]
      refine own_to T80 (mkF m 270 #[.val (.int i0), .val (.int i1), .val (.int i2), .val (.int (Int32.ofNat nl)), .val (.int (0 : Int32)), .val (.int (1 : Int32)), .val (.int (Int32.ofNat (u))), .val (.ref b65), .val (.int (Int32.ofNat (u + 3))), .unset, .unset, .unset, .unset, .unset] [(.int (0 : Int32)), (.int (Int32.ofNat (u + 5))), (.ref b65)]) (fun tq kq => XS.iconst X80.here hx rfl (hb hby at_269) kq) ?_
      obtain ⟨co83, Aro83, hszo83, hato83⟩ := id V80
      obtain ⟨T82, h82, X82, e82, W82, st82⟩ := stB X80 hx hZ e80 Aro83 (j := (Int32.ofNat (u + 5))) (by rw [hszo83]; exact within rfl (show u + 5 < 20 by omega) (by decide)) (g := (mkF m 270 #[.val (.int i0), .val (.int i1), .val (.int i2), .val (.int (Int32.ofNat nl)), .val (.int (0 : Int32)), .val (.int (1 : Int32)), .val (.int (Int32.ofNat (u))), .val (.ref b65), .val (.int (Int32.ofNat (u + 3))), .unset, .unset, .unset, .unset, .unset] [(.int (0 : Int32)), (.int (Int32.ofNat (u + 5))), (.ref b65)])) rfl rfl (hb hby at_270)
      have N82 := Fr.snoc X82 N80 sz65
      have Zs82 : n0 ≤ h82.size := by rw [W82.size]; exact Zs80
      have V82 := BArr.set Aro83 hszo83 hato83 W82 (clamp_of rfl (by omega) : ((Int32.ofNat (u + 5))).toNatClampNeg = u + 5)
      obtain ⟨f82, hf82⟩ : ∃ f', f' = own_upd f80 (u + 5) ((0 : Int32).toInt8.toInt32) := ⟨_, rfl⟩
      rw [← hf82] at V82
      refine own_to T82 (mkF m 277 #[.val (.int i0), .val (.int i1), .val (.int i2), .val (.int (Int32.ofNat nl)), .val (.int (0 : Int32)), .val (.int (1 : Int32)), .val (.int (Int32.ofNat (u))), .val (.ref b65), .val (.int (Int32.ofNat (u + 3))), .unset, .unset, .unset, .unset, .unset] [(.int ((Int32.ofNat (u + 3)) + (3 : Int32))), (.ref b65)]) (fun tq kq => st82 _ (XS.aload X82.here hx rfl (hb hby at_271) rfl rfl (XS.iload X82.here hx rfl (hb hby at_273) rfl (XS.iconst X82.here hx rfl (hb hby at_275) (XS.iadd X82.here hx rfl (hb hby at_276) rfl kq))))) ?_
      rw [show ((Int32.ofNat (u + 3)) + (3 : Int32)) = (Int32.ofNat (u + 6)) from own_addn (u + 3) 3 (by omega) (by decide)]
      refine own_to T82 (mkF m 278 #[.val (.int i0), .val (.int i1), .val (.int i2), .val (.int (Int32.ofNat nl)), .val (.int (0 : Int32)), .val (.int (1 : Int32)), .val (.int (Int32.ofNat (u))), .val (.ref b65), .val (.int (Int32.ofNat (u + 3))), .unset, .unset, .unset, .unset, .unset] [(.int (0 : Int32)), (.int (Int32.ofNat (u + 6))), (.ref b65)]) (fun tq kq => XS.iconst X82.here hx rfl (hb hby at_277) kq) ?_
      obtain ⟨co85, Aro85, hszo85, hato85⟩ := id V82
      obtain ⟨T84, h84, X84, e84, W84, st84⟩ := stB X82 hx hZ e82 Aro85 (j := (Int32.ofNat (u + 6))) (by rw [hszo85]; exact within rfl (show u + 6 < 20 by omega) (by decide)) (g := (mkF m 278 #[.val (.int i0), .val (.int i1), .val (.int i2), .val (.int (Int32.ofNat nl)), .val (.int (0 : Int32)), .val (.int (1 : Int32)), .val (.int (Int32.ofNat (u))), .val (.ref b65), .val (.int (Int32.ofNat (u + 3))), .unset, .unset, .unset, .unset, .unset] [(.int (0 : Int32)), (.int (Int32.ofNat (u + 6))), (.ref b65)])) rfl rfl (hb hby at_278)
      have N84 := Fr.snoc X84 N82 sz65
      have Zs84 : n0 ≤ h84.size := by rw [W84.size]; exact Zs82
      have V84 := BArr.set Aro85 hszo85 hato85 W84 (clamp_of rfl (by omega) : ((Int32.ofNat (u + 6))).toNatClampNeg = u + 6)
      obtain ⟨f84, hf84⟩ : ∃ f', f' = own_upd f82 (u + 6) ((0 : Int32).toInt8.toInt32) := ⟨_, rfl⟩
      rw [← hf84] at V84
      refine own_to T84 (mkF m 285 #[.val (.int i0), .val (.int i1), .val (.int i2), .val (.int (Int32.ofNat nl)), .val (.int (0 : Int32)), .val (.int (1 : Int32)), .val (.int (Int32.ofNat (u))), .val (.ref b65), .val (.int (Int32.ofNat (u + 3))), .unset, .unset, .unset, .unset, .unset] [(.int ((Int32.ofNat (u + 3)) + (4 : Int32))), (.ref b65)]) (fun tq kq => st84 _ (XS.aload X84.here hx rfl (hb hby at_279) rfl rfl (XS.iload X84.here hx rfl (hb hby at_281) rfl (XS.iconst X84.here hx rfl (hb hby at_283) (XS.iadd X84.here hx rfl (hb hby at_284) rfl kq))))) ?_
      rw [show ((Int32.ofNat (u + 3)) + (4 : Int32)) = (Int32.ofNat (u + 7)) from own_addn (u + 3) 4 (by omega) (by decide)]
      refine own_to T84 (mkF m 286 #[.val (.int i0), .val (.int i1), .val (.int i2), .val (.int (Int32.ofNat nl)), .val (.int (0 : Int32)), .val (.int (1 : Int32)), .val (.int (Int32.ofNat (u))), .val (.ref b65), .val (.int (Int32.ofNat (u + 3))), .unset, .unset, .unset, .unset, .unset] [(.int (0 : Int32)), (.int (Int32.ofNat (u + 7))), (.ref b65)]) (fun tq kq => XS.iconst X84.here hx rfl (hb hby at_285) kq) ?_
      obtain ⟨co87, Aro87, hszo87, hato87⟩ := id V84
      obtain ⟨T86, h86, X86, e86, W86, st86⟩ := stB X84 hx hZ e84 Aro87 (j := (Int32.ofNat (u + 7))) (by rw [hszo87]; exact within rfl (show u + 7 < 20 by omega) (by decide)) (g := (mkF m 286 #[.val (.int i0), .val (.int i1), .val (.int i2), .val (.int (Int32.ofNat nl)), .val (.int (0 : Int32)), .val (.int (1 : Int32)), .val (.int (Int32.ofNat (u))), .val (.ref b65), .val (.int (Int32.ofNat (u + 3))), .unset, .unset, .unset, .unset, .unset] [(.int (0 : Int32)), (.int (Int32.ofNat (u + 7))), (.ref b65)])) rfl rfl (hb hby at_286)
      have N86 := Fr.snoc X86 N84 sz65
      have Zs86 : n0 ≤ h86.size := by rw [W86.size]; exact Zs84
      have V86 := BArr.set Aro87 hszo87 hato87 W86 (clamp_of rfl (by omega) : ((Int32.ofNat (u + 7))).toNatClampNeg = u + 7)
      obtain ⟨f86, hf86⟩ : ∃ f', f' = own_upd f84 (u + 7) ((0 : Int32).toInt8.toInt32) := ⟨_, rfl⟩
      rw [← hf86] at V86
      refine own_to T86 (mkF m 293 #[.val (.int i0), .val (.int i1), .val (.int i2), .val (.int (Int32.ofNat nl)), .val (.int (0 : Int32)), .val (.int (1 : Int32)), .val (.int (Int32.ofNat (u))), .val (.ref b65), .val (.int (Int32.ofNat (u + 3))), .unset, .unset, .unset, .unset, .unset] [(.int ((Int32.ofNat (u + 3)) + (5 : Int32))), (.ref b65)]) (fun tq kq => st86 _ (XS.aload X86.here hx rfl (hb hby at_287) rfl rfl (XS.iload X86.here hx rfl (hb hby at_289) rfl (XS.iconst X86.here hx rfl (hb hby at_291) (XS.iadd X86.here hx rfl (hb hby at_292) rfl kq))))) ?_
      rw [show ((Int32.ofNat (u + 3)) + (5 : Int32)) = (Int32.ofNat (u + 8)) from own_addn (u + 3) 5 (by omega) (by decide)]
      refine own_to T86 (mkF m 294 #[.val (.int i0), .val (.int i1), .val (.int i2), .val (.int (Int32.ofNat nl)), .val (.int (0 : Int32)), .val (.int (1 : Int32)), .val (.int (Int32.ofNat (u))), .val (.ref b65), .val (.int (Int32.ofNat (u + 3))), .unset, .unset, .unset, .unset, .unset] [(.int (0 : Int32)), (.int (Int32.ofNat (u + 8))), (.ref b65)]) (fun tq kq => XS.iconst X86.here hx rfl (hb hby at_293) kq) ?_
      obtain ⟨co89, Aro89, hszo89, hato89⟩ := id V86
      obtain ⟨T88, h88, X88, e88, W88, st88⟩ := stB X86 hx hZ e86 Aro89 (j := (Int32.ofNat (u + 8))) (by rw [hszo89]; exact within rfl (show u + 8 < 20 by omega) (by decide)) (g := (mkF m 294 #[.val (.int i0), .val (.int i1), .val (.int i2), .val (.int (Int32.ofNat nl)), .val (.int (0 : Int32)), .val (.int (1 : Int32)), .val (.int (Int32.ofNat (u))), .val (.ref b65), .val (.int (Int32.ofNat (u + 3))), .unset, .unset, .unset, .unset, .unset] [(.int (0 : Int32)), (.int (Int32.ofNat (u + 8))), (.ref b65)])) rfl rfl (hb hby at_294)
      have N88 := Fr.snoc X88 N86 sz65
      have Zs88 : n0 ≤ h88.size := by rw [W88.size]; exact Zs86
      have V88 := BArr.set Aro89 hszo89 hato89 W88 (clamp_of rfl (by omega) : ((Int32.ofNat (u + 8))).toNatClampNeg = u + 8)
      obtain ⟨f88, hf88⟩ : ∃ f', f' = own_upd f86 (u + 8) ((0 : Int32).toInt8.toInt32) := ⟨_, rfl⟩
      rw [← hf88] at V88
      refine own_to T88 (mkF m 302 #[.val (.int i0), .val (.int i1), .val (.int i2), .val (.int (Int32.ofNat nl)), .val (.int (0 : Int32)), .val (.int (1 : Int32)), .val (.int (Int32.ofNat (u))), .val (.ref b65), .val (.int (Int32.ofNat (u + 3))), .unset, .unset, .unset, .unset, .unset] [(.int ((Int32.ofNat (u + 3)) + (6 : Int32))), (.ref b65)]) (fun tq kq => st88 _ (XS.aload X88.here hx rfl (hb hby at_295) rfl rfl (XS.iload X88.here hx rfl (hb hby at_297) rfl (XS.bipush X88.here hx rfl (hb hby at_299) (XS.iadd X88.here hx rfl (hb hby at_301) rfl kq))))) ?_
      rw [show ((Int32.ofNat (u + 3)) + (6 : Int32)) = (Int32.ofNat (u + 9)) from own_addn (u + 3) 6 (by omega) (by decide)]
      refine own_to T88 (mkF m 303 #[.val (.int i0), .val (.int i1), .val (.int i2), .val (.int (Int32.ofNat nl)), .val (.int (0 : Int32)), .val (.int (1 : Int32)), .val (.int (Int32.ofNat (u))), .val (.ref b65), .val (.int (Int32.ofNat (u + 3))), .unset, .unset, .unset, .unset, .unset] [(.int (0 : Int32)), (.int (Int32.ofNat (u + 9))), (.ref b65)]) (fun tq kq => XS.iconst X88.here hx rfl (hb hby at_302) kq) ?_
      obtain ⟨co91, Aro91, hszo91, hato91⟩ := id V88
      obtain ⟨T90, h90, X90, e90, W90, st90⟩ := stB X88 hx hZ e88 Aro91 (j := (Int32.ofNat (u + 9))) (by rw [hszo91]; exact within rfl (show u + 9 < 20 by omega) (by decide)) (g := (mkF m 303 #[.val (.int i0), .val (.int i1), .val (.int i2), .val (.int (Int32.ofNat nl)), .val (.int (0 : Int32)), .val (.int (1 : Int32)), .val (.int (Int32.ofNat (u))), .val (.ref b65), .val (.int (Int32.ofNat (u + 3))), .unset, .unset, .unset, .unset, .unset] [(.int (0 : Int32)), (.int (Int32.ofNat (u + 9))), (.ref b65)])) rfl rfl (hb hby at_303)
      have N90 := Fr.snoc X90 N88 sz65
      have Zs90 : n0 ≤ h90.size := by rw [W90.size]; exact Zs88
      have V90 := BArr.set Aro91 hszo91 hato91 W90 (clamp_of rfl (by omega) : ((Int32.ofNat (u + 9))).toNatClampNeg = u + 9)
      obtain ⟨f90, hf90⟩ : ∃ f', f' = own_upd f88 (u + 9) ((0 : Int32).toInt8.toInt32) := ⟨_, rfl⟩
      rw [← hf90] at V90
      refine own_to T90 (mkF m 311 #[.val (.int i0), .val (.int i1), .val (.int i2), .val (.int (Int32.ofNat nl)), .val (.int (0 : Int32)), .val (.int (1 : Int32)), .val (.int (Int32.ofNat (u))), .val (.ref b65), .val (.int (Int32.ofNat (u + 3))), .unset, .unset, .unset, .unset, .unset] [(.int ((Int32.ofNat (u + 3)) + (7 : Int32))), (.ref b65)]) (fun tq kq => st90 _ (XS.aload X90.here hx rfl (hb hby at_304) rfl rfl (XS.iload X90.here hx rfl (hb hby at_306) rfl (XS.bipush X90.here hx rfl (hb hby at_308) (XS.iadd X90.here hx rfl (hb hby at_310) rfl kq))))) ?_
      rw [show ((Int32.ofNat (u + 3)) + (7 : Int32)) = (Int32.ofNat (u + 10)) from own_addn (u + 3) 7 (by omega) (by decide)]
      refine own_to T90 (mkF m 312 #[.val (.int i0), .val (.int i1), .val (.int i2), .val (.int (Int32.ofNat nl)), .val (.int (0 : Int32)), .val (.int (1 : Int32)), .val (.int (Int32.ofNat (u))), .val (.ref b65), .val (.int (Int32.ofNat (u + 3))), .unset, .unset, .unset, .unset, .unset] [(.int (0 : Int32)), (.int (Int32.ofNat (u + 10))), (.ref b65)]) (fun tq kq => XS.iconst X90.here hx rfl (hb hby at_311) kq) ?_
      obtain ⟨co93, Aro93, hszo93, hato93⟩ := id V90
      obtain ⟨T92, h92, X92, e92, W92, st92⟩ := stB X90 hx hZ e90 Aro93 (j := (Int32.ofNat (u + 10))) (by rw [hszo93]; exact within rfl (show u + 10 < 20 by omega) (by decide)) (g := (mkF m 312 #[.val (.int i0), .val (.int i1), .val (.int i2), .val (.int (Int32.ofNat nl)), .val (.int (0 : Int32)), .val (.int (1 : Int32)), .val (.int (Int32.ofNat (u))), .val (.ref b65), .val (.int (Int32.ofNat (u + 3))), .unset, .unset, .unset, .unset, .unset] [(.int (0 : Int32)), (.int (Int32.ofNat (u + 10))), (.ref b65)])) rfl rfl (hb hby at_312)
      have N92 := Fr.snoc X92 N90 sz65
      have Zs92 : n0 ≤ h92.size := by rw [W92.size]; exact Zs90
      have V92 := BArr.set Aro93 hszo93 hato93 W92 (clamp_of rfl (by omega) : ((Int32.ofNat (u + 10))).toNatClampNeg = u + 10)
      obtain ⟨f92, hf92⟩ : ∃ f', f' = own_upd f90 (u + 10) ((0 : Int32).toInt8.toInt32) := ⟨_, rfl⟩
      rw [← hf92] at V92
      refine own_to T92 (mkF m 320 #[.val (.int i0), .val (.int i1), .val (.int i2), .val (.int (Int32.ofNat nl)), .val (.int (0 : Int32)), .val (.int (1 : Int32)), .val (.int (Int32.ofNat (u))), .val (.ref b65), .val (.int (Int32.ofNat (u + 3))), .unset, .unset, .unset, .unset, .unset] [(.int ((Int32.ofNat (u + 3)) + (8 : Int32))), (.ref b65)]) (fun tq kq => st92 _ (XS.aload X92.here hx rfl (hb hby at_313) rfl rfl (XS.iload X92.here hx rfl (hb hby at_315) rfl (XS.bipush X92.here hx rfl (hb hby at_317) (XS.iadd X92.here hx rfl (hb hby at_319) rfl kq))))) ?_
      rw [show ((Int32.ofNat (u + 3)) + (8 : Int32)) = (Int32.ofNat (u + 11)) from own_addn (u + 3) 8 (by omega) (by decide)]
      refine own_to T92 (mkF m 321 #[.val (.int i0), .val (.int i1), .val (.int i2), .val (.int (Int32.ofNat nl)), .val (.int (0 : Int32)), .val (.int (1 : Int32)), .val (.int (Int32.ofNat (u))), .val (.ref b65), .val (.int (Int32.ofNat (u + 3))), .unset, .unset, .unset, .unset, .unset] [(.int (0 : Int32)), (.int (Int32.ofNat (u + 11))), (.ref b65)]) (fun tq kq => XS.iconst X92.here hx rfl (hb hby at_320) kq) ?_
      obtain ⟨co95, Aro95, hszo95, hato95⟩ := id V92
      obtain ⟨T94, h94, X94, e94, W94, st94⟩ := stB X92 hx hZ e92 Aro95 (j := (Int32.ofNat (u + 11))) (by rw [hszo95]; exact within rfl (show u + 11 < 20 by omega) (by decide)) (g := (mkF m 321 #[.val (.int i0), .val (.int i1), .val (.int i2), .val (.int (Int32.ofNat nl)), .val (.int (0 : Int32)), .val (.int (1 : Int32)), .val (.int (Int32.ofNat (u))), .val (.ref b65), .val (.int (Int32.ofNat (u + 3))), .unset, .unset, .unset, .unset, .unset] [(.int (0 : Int32)), (.int (Int32.ofNat (u + 11))), (.ref b65)])) rfl rfl (hb hby at_321)
      have N94 := Fr.snoc X94 N92 sz65
      have Zs94 : n0 ≤ h94.size := by rw [W94.size]; exact Zs92
      have V94 := BArr.set Aro95 hszo95 hato95 W94 (clamp_of rfl (by omega) : ((Int32.ofNat (u + 11))).toNatClampNeg = u + 11)
      obtain ⟨f94, hf94⟩ : ∃ f', f' = own_upd f92 (u + 11) ((0 : Int32).toInt8.toInt32) := ⟨_, rfl⟩
      rw [← hf94] at V94
      refine own_to T94 (mkF m 329 #[.val (.int i0), .val (.int i1), .val (.int i2), .val (.int (Int32.ofNat nl)), .val (.int (0 : Int32)), .val (.int (1 : Int32)), .val (.int (Int32.ofNat (u))), .val (.ref b65), .val (.int (Int32.ofNat (u + 3))), .unset, .unset, .unset, .unset, .unset] [(.int ((Int32.ofNat (u + 3)) + (9 : Int32))), (.ref b65)]) (fun tq kq => st94 _ (XS.aload X94.here hx rfl (hb hby at_322) rfl rfl (XS.iload X94.here hx rfl (hb hby at_324) rfl (XS.bipush X94.here hx rfl (hb hby at_326) (XS.iadd X94.here hx rfl (hb hby at_328) rfl kq))))) ?_
      rw [show ((Int32.ofNat (u + 3)) + (9 : Int32)) = (Int32.ofNat (u + 12)) from own_addn (u + 3) 9 (by omega) (by decide)]
      refine own_to T94 (mkF m 330 #[.val (.int i0), .val (.int i1), .val (.int i2), .val (.int (Int32.ofNat nl)), .val (.int (0 : Int32)), .val (.int (1 : Int32)), .val (.int (Int32.ofNat (u))), .val (.ref b65), .val (.int (Int32.ofNat (u + 3))), .unset, .unset, .unset, .unset, .unset] [(.int (0 : Int32)), (.int (Int32.ofNat (u + 12))), (.ref b65)]) (fun tq kq => XS.iconst X94.here hx rfl (hb hby at_329) kq) ?_
      obtain ⟨co97, Aro97, hszo97, hato97⟩ := id V94
      obtain ⟨T96, h96, X96, e96, W96, st96⟩ := stB X94 hx hZ e94 Aro97 (j := (Int32.ofNat (u + 12))) (by rw [hszo97]; exact within rfl (show u + 12 < 20 by omega) (by decide)) (g := (mkF m 330 #[.val (.int i0), .val (.int i1), .val (.int i2), .val (.int (Int32.ofNat nl)), .val (.int (0 : Int32)), .val (.int (1 : Int32)), .val (.int (Int32.ofNat (u))), .val (.ref b65), .val (.int (Int32.ofNat (u + 3))), .unset, .unset, .unset, .unset, .unset] [(.int (0 : Int32)), (.int (Int32.ofNat (u + 12))), (.ref b65)])) rfl rfl (hb hby at_330)
      have N96 := Fr.snoc X96 N94 sz65
      have Zs96 : n0 ≤ h96.size := by rw [W96.size]; exact Zs94
      have V96 := BArr.set Aro97 hszo97 hato97 W96 (clamp_of rfl (by omega) : ((Int32.ofNat (u + 12))).toNatClampNeg = u + 12)
      obtain ⟨f96, hf96⟩ : ∃ f', f' = own_upd f94 (u + 12) ((0 : Int32).toInt8.toInt32) := ⟨_, rfl⟩
      rw [← hf96] at V96
      refine own_to T96 (mkF m 336 #[.val (.int i0), .val (.int i1), .val (.int i2), .val (.int (Int32.ofNat nl)), .val (.int (0 : Int32)), .val (.int (1 : Int32)), .val (.int (Int32.ofNat (u))), .val (.ref b65), .val (.int (Int32.ofNat (u + 3))), .unset, .unset, .unset, .unset, .unset] [(.int ((Int32.ofNat (u + 3)) + (10 : Int32)))]) (fun tq kq => st96 _ (XS.iload X96.here hx rfl (hb hby at_331) rfl (XS.bipush X96.here hx rfl (hb hby at_333) (XS.iadd X96.here hx rfl (hb hby at_335) rfl kq)))) ?_
      rw [show ((Int32.ofNat (u + 3)) + (10 : Int32)) = (Int32.ofNat (u + 13)) from own_addn (u + 3) 10 (by omega) (by decide)]
      refine own_to T96 (mkF m 338 #[.val (.int i0), .val (.int i1), .val (.int i2), .val (.int (Int32.ofNat nl)), .val (.int (0 : Int32)), .val (.int (1 : Int32)), .val (.int (Int32.ofNat (u))), .val (.ref b65), .val (.int (Int32.ofNat (u + 13))), .unset, .unset, .unset, .unset, .unset] []) (fun tq kq => XS.istore X96.here hx rfl (hb hby at_336) rfl (l' := #[.val (.int i0), .val (.int i1), .val (.int i2), .val (.int (Int32.ofNat nl)), .val (.int (0 : Int32)), .val (.int (1 : Int32)), .val (.int (Int32.ofNat (u))), .val (.ref b65), .val (.int (Int32.ofNat (u + 13))), .unset, .unset, .unset, .unset, .unset]) rfl kq) ?_
      obtain ⟨T98, h98, X98, e98, E98, A98, D98, -, st98⟩ := newO X96 hx hZ hown (own_w hw 1 rfl) (own_w hw 2 rfl) (own_w hw 3 rfl) e96 (g := (mkF m 338 #[.val (.int i0), .val (.int i1), .val (.int i2), .val (.int (Int32.ofNat nl)), .val (.int (0 : Int32)), .val (.int (1 : Int32)), .val (.int (Int32.ofNat (u))), .val (.ref b65), .val (.int (Int32.ofNat (u + 13))), .unset, .unset, .unset, .unset, .unset] [])) rfl (hb hby at_338) (by decide) (by decide)
      obtain ⟨b98, g98⟩ : ∃ z, z = h96.size := ⟨_, rfl⟩
      rw [← g98] at A98 D98 st98
      have ne_b65_b98 : own_ne b65 b98 := Nat.ne_of_lt (Nat.lt_of_lt_of_le V96.lt (Nat.le_of_eq g98.symm))
      have f99 := V96.ext E98
      have sz98 : n0 ≤ b98 := Nat.le_trans Zs96 (Nat.le_of_eq g98.symm)
      have Zs98 : n0 ≤ h98.size := Nat.le_trans Zs96 E98.1
      have F98_packed : Fld Z h98 b98 "com/example/warmjoin/warmjoin/PackedFields$Cursor" "packed" "[B" .null := D98 (Or.inl (own_w hw 16 rfl)) (ty := (.array .byte)) (by decide)
      have F98_to : Fld Z h98 b98 "com/example/warmjoin/warmjoin/PackedFields$Cursor" "to" "I" (.int (0 : Int32)) := D98 (Or.inl (own_w hw 18 rfl)) (ty := .int) (by decide)
      have F98_at : Fld Z h98 b98 "com/example/warmjoin/warmjoin/PackedFields$Cursor" "at" "I" (.int (0 : Int32)) := D98 (Or.inl (own_w hw 20 rfl)) (ty := .int) (by decide)
      have F98_left : Fld Z h98 b98 "com/example/warmjoin/warmjoin/PackedFields$Cursor" "left" "I" (.int (0 : Int32)) := D98 (Or.inl (own_w hw 22 rfl)) (ty := .int) (by decide)
      have F98_text : Fld Z h98 b98 "com/example/warmjoin/warmjoin/PackedFields$Cursor" "text" "Z" (.int (0 : Int32)) := D98 (Or.inl (own_w hw 52 rfl)) (ty := .boolean) (by decide)
      have F98_textEnd : Fld Z h98 b98 "com/example/warmjoin/warmjoin/PackedFields$Cursor" "textEnd" "I" (.int (0 : Int32)) := D98 (Or.inl (own_w hw 57 rfl)) (ty := .int) (by decide)
      have F98_literals : Fld Z h98 b98 "com/example/warmjoin/warmjoin/PackedFields$Cursor" "literals" "I" (.int (0 : Int32)) := D98 (Or.inl (own_w hw 60 rfl)) (ty := .int) (by decide)
      have F98_index : Fld Z h98 b98 "com/example/warmjoin/warmjoin/PackedFields$Cursor" "index" "I" (.int (0 : Int32)) := D98 (Or.inl (own_w hw 62 rfl)) (ty := .int) (by decide)
      have F98_offset : Fld Z h98 b98 "com/example/warmjoin/warmjoin/PackedFields$Cursor" "offset" "I" (.int (0 : Int32)) := D98 (Or.inl (own_w hw 67 rfl)) (ty := .int) (by decide)
      have F98_length : Fld Z h98 b98 "com/example/warmjoin/warmjoin/PackedFields$Cursor" "length" "I" (.int (0 : Int32)) := D98 (Or.inl (own_w hw 69 rfl)) (ty := .int) (by decide)
      refine own_to T98 (mkF m 342 #[.val (.int i0), .val (.int i1), .val (.int i2), .val (.int (Int32.ofNat nl)), .val (.int (0 : Int32)), .val (.int (1 : Int32)), .val (.int (Int32.ofNat (u))), .val (.ref b65), .val (.int (Int32.ofNat (u + 13))), .unset, .unset, .unset, .unset, .unset] [(.ref b98), (.ref b98)]) (fun tq kq => st98 _ (XS.dup X98.here hx rfl (hb hby at_341) rfl rfl kq)) ?_
      obtain ⟨_, _, ⟨T100, L100, k100, n100⟩, -, X100, ⟨Lc100, hQ100, l100, y100, z100⟩, st100⟩ := X98.specialBack hx (y := (⟨"com/example/warmjoin/warmjoin/PackedFields$Cursor", "<init>", "()V"⟩ : MethodName)) rfl hown (mvT hZ (own_w hw 4 rfl)) (mvT hZ (own_w hw 5 rfl)) (mvT hZ (own_w hw 6 rfl)) (by decide) (backOf (W := 1) (rm_init l Z a0 hw [] b98 h98 n0 Zs98) hZ (own_w hw 6 rfl) (own_w hw 3 rfl) (by decide) (by decide)) (g := (mkF m 342 #[.val (.int i0), .val (.int i1), .val (.int i2), .val (.int (Int32.ofNat nl)), .val (.int (0 : Int32)), .val (.int (1 : Int32)), .val (.int (Int32.ofNat (u))), .val (.ref b65), .val (.int (Int32.ofNat (u + 13))), .unset, .unset, .unset, .unset, .unset] [(.ref b98), (.ref b98)])) rfl (by rw [hml]; rfl) (Steps.refl _) (a := b98) (argsL := []) (rest := [(.ref b98)]) (lenOf pd_0 rfl) rfl (by show 2 * 0 + _ ≤ _; exact Nat.le_of_eq rfl) (hb hby at_342) (fun _ _ => ⟨rfl, e98, (by decide : 2 + 0 ≤ _), (by decide : 30 + 0 ≤ _)⟩)
      dsimp only [Pt.U, Pt.locs, Pt.cells, Pt.slots] at X100 l100 y100 z100 st100 hQ100
      have l100y := l100.symm
      clear l100
      subst l100y
      obtain rfl : k100 = 2 := y100
      obtain rfl : n100 = 30 := z100
      obtain ⟨rfl, N100q, e100⟩ := hQ100
      have N100 := Fr.app N96 N100q
      refine own_to T100 (mkF m 351 #[.val (.int i0), .val (.int i1), .val (.int i2), .val (.int (Int32.ofNat nl)), .val (.int (0 : Int32)), .val (.int (1 : Int32)), .val (.int (Int32.ofNat (u))), .val (.ref b65), .val (.int (Int32.ofNat (u + 13))), .unset, .unset, .unset, .unset, .unset] [(.int (Int32.ofNat (u + 13))), (.int (Int32.ofNat (u))), (.ref b65), (.ref b98)]) (fun tq kq => st100.trans (XS.aload X100.here hx rfl (hb hby at_345) rfl rfl (XS.iload X100.here hx rfl (hb hby at_347) rfl (XS.iload X100.here hx rfl (hb hby at_349) rfl kq)))) ?_
      -- what the buffer holds
      have g_u : f96 (u) = (38 : Int32) := by simp [hf66, hf68, hf70, hf72, hf74, hf76, hf78, hf80, hf82, hf84, hf86, hf88, hf90, hf92, hf94, hf96, own_upd]; try decide
      have g_u_1 : f96 (u + 1) = ((Int32.ofNat nl).toInt8.toInt32).toInt8.toInt32 := by simp [hf66, hf68, hf70, hf72, hf74, hf76, hf78, hf80, hf82, hf84, hf86, hf88, hf90, hf92, hf94, hf96, own_upd]
      have g_u_2 : f96 (u + 2) = ((((Int32.ofNat nl).toUInt32 >>> ((8 : Int32) &&& 31).toUInt32).toInt32).toInt8.toInt32).toInt8.toInt32 := by simp [hf66, hf68, hf70, hf72, hf74, hf76, hf78, hf80, hf82, hf84, hf86, hf88, hf90, hf92, hf94, hf96, own_upd]
      have g_u_3 : f96 (u + 3) = (1 : Int32) := by simp [hf66, hf68, hf70, hf72, hf74, hf76, hf78, hf80, hf82, hf84, hf86, hf88, hf90, hf92, hf94, hf96, own_upd]; try decide
      have g_u_4 : f96 (u + 4) = (44 : Int32) := by simp [hf66, hf68, hf70, hf72, hf74, hf76, hf78, hf80, hf82, hf84, hf86, hf88, hf90, hf92, hf94, hf96, own_upd]; try decide
      have g_u_5 : f96 (u + 5) = (0 : Int32) := by simp [hf66, hf68, hf70, hf72, hf74, hf76, hf78, hf80, hf82, hf84, hf86, hf88, hf90, hf92, hf94, hf96, own_upd]; try decide
      have g_u_6 : f96 (u + 6) = (0 : Int32) := by simp [hf66, hf68, hf70, hf72, hf74, hf76, hf78, hf80, hf82, hf84, hf86, hf88, hf90, hf92, hf94, hf96, own_upd]; try decide
      have g_u_7 : f96 (u + 7) = (0 : Int32) := by simp [hf66, hf68, hf70, hf72, hf74, hf76, hf78, hf80, hf82, hf84, hf86, hf88, hf90, hf92, hf94, hf96, own_upd]; try decide
      have g_u_8 : f96 (u + 8) = (0 : Int32) := by simp [hf66, hf68, hf70, hf72, hf74, hf76, hf78, hf80, hf82, hf84, hf86, hf88, hf90, hf92, hf94, hf96, own_upd]; try decide
      have g_u_9 : f96 (u + 9) = (0 : Int32) := by simp [hf66, hf68, hf70, hf72, hf74, hf76, hf78, hf80, hf82, hf84, hf86, hf88, hf90, hf92, hf94, hf96, own_upd]; try decide
      have g_u_10 : f96 (u + 10) = (0 : Int32) := by simp [hf66, hf68, hf70, hf72, hf74, hf76, hf78, hf80, hf82, hf84, hf86, hf88, hf90, hf92, hf94, hf96, own_upd]; try decide
      have g_u_11 : f96 (u + 11) = (0 : Int32) := by simp [hf66, hf68, hf70, hf72, hf74, hf76, hf78, hf80, hf82, hf84, hf86, hf88, hf90, hf92, hf94, hf96, own_upd]; try decide
      have g_u_12 : f96 (u + 12) = (0 : Int32) := by simp [hf66, hf68, hf70, hf72, hf74, hf76, hf78, hf80, hf82, hf84, hf86, hf88, hf90, hf92, hf94, hf96, own_upd]; try decide
      obtain ⟨cq101, kq101, q101a, q101b, q101c⟩ := isOf hZ e100 A98
      obtain ⟨_, _, ⟨T101, L101, k101, n101⟩, -, X101, ⟨Lc101, hQ101, l101, y101, z101⟩, st101⟩ := X100.virtualBack hx (y := (⟨"com/example/warmjoin/warmjoin/PackedFields$Cursor", "over", "([BII)Lcom/example/warmjoin/warmjoin/PackedFields$Cursor;"⟩ : MethodName)) (z := (⟨"com/example/warmjoin/warmjoin/PackedFields$Cursor", "over", "([BII)Lcom/example/warmjoin/warmjoin/PackedFields$Cursor;"⟩ : MethodName)) hown (mvT hZ (own_w hw 10 rfl)) (mvT hZ (own_w hw 11 rfl)) (notFace_of_selects (args := #[]) (mvT hZ (own_w hw 13 rfl))) (mvT hZ (own_w hw 13 rfl)) (mvT hZ (own_w hw 12 rfl)) (by decide) (backOf (W := 0) (rm_over l Z a0 hw [] b98 b65 (Int32.ofNat (u)) (Int32.ofNat (u + 13)) h98 n0 Zs98 (show Cur Z h98 b98 .null (0 : Int32) (0 : Int32) (0 : Int32) (0 : Int32) (0 : Int32) (0 : Int32) (0 : Int32) (0 : Int32) (0 : Int32) from ⟨A98, F98_packed, F98_to, F98_at, F98_left, F98_text, F98_textEnd, F98_literals, F98_index, F98_offset, F98_length⟩) sz98) hZ (own_w hw 14 rfl) (own_w hw 3 rfl) (by decide) (by decide)) q101a q101c (g := (mkF m 351 #[.val (.int i0), .val (.int i1), .val (.int i2), .val (.int (Int32.ofNat nl)), .val (.int (0 : Int32)), .val (.int (1 : Int32)), .val (.int (Int32.ofNat (u))), .val (.ref b65), .val (.int (Int32.ofNat (u + 13))), .unset, .unset, .unset, .unset, .unset] [(.int (Int32.ofNat (u + 13))), (.int (Int32.ofNat (u))), (.ref b65), (.ref b98)])) rfl (by rw [hml]; rfl) (Steps.refl _) (argsL := [(.ref b65), (.int (Int32.ofNat (u))), (.int (Int32.ofNat (u + 13)))]) (rest := []) (lenOf pd_1 rfl) rfl (by show 2 * 0 + _ ≤ _; exact Nat.le_of_eq rfl) (hb hby at_351) (fun _ _ => ⟨rfl, e100, (by decide : 2 + 0 ≤ _), (by decide : 30 + 0 ≤ _)⟩)
      dsimp only [Pt.U, Pt.locs, Pt.cells, Pt.slots] at X101 l101 y101 z101 st101 hQ101
      have l101y := l101.symm
      clear l101
      subst l101y
      obtain rfl : k101 = 2 := y101
      obtain rfl : n101 = 30 := z101
      obtain ⟨rfl, N101q, K101q, U101⟩ := hQ101
      have N101 := Fr.app N100 N101q
      have f102 := f99.keep K101q (ninS ne_b65_b98 nin0)
      have f103 := A98.keep K101q
      have Zs101 : n0 ≤ T101.heap.size := Nat.le_trans Zs98 K101q.1
      refine own_to T101 (mkF m 358 #[.val (.int i0), .val (.int i1), .val (.int i2), .val (.int (Int32.ofNat nl)), .val (.int (0 : Int32)), .val (.int (1 : Int32)), .val (.int (Int32.ofNat (u))), .val (.ref b65), .val (.int (Int32.ofNat (u + 13))), .val (.ref b98), .unset, .unset, .unset, .unset] [(.ref b98)]) (fun tq kq => st101.trans (XS.astore X101.here hx rfl (hb hby at_354) rfl rfl (l' := #[.val (.int i0), .val (.int i1), .val (.int i2), .val (.int (Int32.ofNat nl)), .val (.int (0 : Int32)), .val (.int (1 : Int32)), .val (.int (Int32.ofNat (u))), .val (.ref b65), .val (.int (Int32.ofNat (u + 13))), .val (.ref b98), .unset, .unset, .unset, .unset]) rfl (XS.aload X101.here hx rfl (hb hby at_356) rfl rfl kq))) ?_
      obtain ⟨cq104, kq104, q104a, q104b, q104c⟩ := isOf hZ rfl f103
      obtain ⟨_, _, ⟨T104, L104, k104, n104⟩, -, X104, ⟨Lc104, hQ104, l104, y104, z104⟩, st104⟩ := X101.virtualBack hx (y := (⟨"com/example/warmjoin/warmjoin/PackedFields$Cursor", "next", "()Z"⟩ : MethodName)) (z := (⟨"com/example/warmjoin/warmjoin/PackedFields$Cursor", "next", "()Z"⟩ : MethodName)) hown (mvT hZ (own_w hw 23 rfl)) (mvT hZ (own_w hw 24 rfl)) (notFace_of_selects (args := #[]) (mvT hZ (own_w hw 26 rfl))) (mvT hZ (own_w hw 26 rfl)) (mvT hZ (own_w hw 25 rfl)) (by decide) (backOf (W := 0) (rm_next001 l Z a0 hw [] b98 b65 f96 u (u + 13) _ _ _ _ _ _ T101.heap n0 Zs101 U101 (Ne.symm ne_b65_b98) sz98 f102 hu4 (by omega) (by omega) (g_u.trans rfl) (g_u_3.trans rfl)) hZ (own_w hw 27 rfl) (own_w hw 3 rfl) (by decide) (by decide)) q104a q104c (g := (mkF m 358 #[.val (.int i0), .val (.int i1), .val (.int i2), .val (.int (Int32.ofNat nl)), .val (.int (0 : Int32)), .val (.int (1 : Int32)), .val (.int (Int32.ofNat (u))), .val (.ref b65), .val (.int (Int32.ofNat (u + 13))), .val (.ref b98), .unset, .unset, .unset, .unset] [(.ref b98)])) rfl (by rw [hml]; rfl) (Steps.refl _) (argsL := []) (rest := []) (lenOf pd_2 rfl) rfl (by show 2 * 0 + _ ≤ _; exact Nat.le_of_eq rfl) (hb hby at_358) (fun _ _ => ⟨rfl, rfl, (by decide : 2 + 0 ≤ _), (by decide : 30 + 0 ≤ _)⟩)
      dsimp only [Pt.U, Pt.locs, Pt.cells, Pt.slots] at X104 l104 y104 z104 st104 hQ104
      have l104y := l104.symm
      clear l104
      subst l104y
      obtain rfl : k104 = 2 := y104
      obtain rfl : n104 = 30 := z104
      obtain ⟨rfl, N104q, K104q, o104, l104, U104⟩ := hQ104
      have N104 := Fr.app N101 N104q
      have f105 := f102.keep K104q (ninS ne_b65_b98 nin0)
      have f106 := f103.keep K104q
      have Zs104 : n0 ≤ T104.heap.size := Nat.le_trans Zs101 K104q.1
      refine own_to T104 (mkF m 364 #[.val (.int i0), .val (.int i1), .val (.int i2), .val (.int (Int32.ofNat nl)), .val (.int (0 : Int32)), .val (.int (1 : Int32)), .val (.int (Int32.ofNat (u))), .val (.ref b65), .val (.int (Int32.ofNat (u + 13))), .val (.ref b98), .unset, .unset, .unset, .unset] [(.ref b98)]) (fun tq kq => st104.trans (XS.pop X104.here hx rfl (hb hby at_361) rfl rfl (XS.aload X104.here hx rfl (hb hby at_362) rfl rfl kq))) ?_
      obtain ⟨cq107, kq107, q107a, q107b, q107c⟩ := isOf hZ rfl f106
      obtain ⟨_, _, ⟨T107, L107, k107, n107⟩, -, X107, ⟨Lc107, hQ107, l107, y107, z107⟩, st107⟩ := X104.virtualBack hx (y := (⟨"com/example/warmjoin/warmjoin/PackedFields$Cursor", "next", "()Z"⟩ : MethodName)) (z := (⟨"com/example/warmjoin/warmjoin/PackedFields$Cursor", "next", "()Z"⟩ : MethodName)) hown (mvT hZ (own_w hw 23 rfl)) (mvT hZ (own_w hw 24 rfl)) (notFace_of_selects (args := #[]) (mvT hZ (own_w hw 26 rfl))) (mvT hZ (own_w hw 26 rfl)) (mvT hZ (own_w hw 25 rfl)) (by decide) (backOf (W := 0) (rm_next1N l Z a0 hw [] b98 b65 f96 (u + 5) 8 (u + 3) 0 _ _ _ _ T104.heap n0 Zs104 U104 (Ne.symm ne_b65_b98) sz98 f105 (by omega) (by omega) (by omega) (by omega) (by omega) (g_u_5.trans rfl)) hZ (own_w hw 27 rfl) (own_w hw 3 rfl) (by decide) (by decide)) q107a q107c (g := (mkF m 364 #[.val (.int i0), .val (.int i1), .val (.int i2), .val (.int (Int32.ofNat nl)), .val (.int (0 : Int32)), .val (.int (1 : Int32)), .val (.int (Int32.ofNat (u))), .val (.ref b65), .val (.int (Int32.ofNat (u + 13))), .val (.ref b98), .unset, .unset, .unset, .unset] [(.ref b98)])) rfl (by rw [hml]; rfl) (Steps.refl _) (argsL := []) (rest := []) (lenOf pd_2 rfl) rfl (by show 2 * 0 + _ ≤ _; exact Nat.le_of_eq rfl) (hb hby at_364) (fun _ _ => ⟨rfl, rfl, (by decide : 2 + 0 ≤ _), (by decide : 30 + 0 ≤ _)⟩)
      dsimp only [Pt.U, Pt.locs, Pt.cells, Pt.slots] at X107 l107 y107 z107 st107 hQ107
      have l107y := l107.symm
      clear l107
      subst l107y
      obtain rfl : k107 = 2 := y107
      obtain rfl : n107 = 30 := z107
      obtain ⟨rfl, N107q, K107q, o107, l107, U107⟩ := hQ107
      have N107 := Fr.app N104 N107q
      have f108 := f105.keep K107q (ninS ne_b65_b98 nin0)
      have f109 := f106.keep K107q
      have Zs107 : n0 ≤ T107.heap.size := Nat.le_trans Zs104 K107q.1
      refine own_to T107 (mkF m 370 #[.val (.int i0), .val (.int i1), .val (.int i2), .val (.int (Int32.ofNat nl)), .val (.int (0 : Int32)), .val (.int (1 : Int32)), .val (.int (Int32.ofNat (u))), .val (.ref b65), .val (.int (Int32.ofNat (u + 13))), .val (.ref b98), .unset, .unset, .unset, .unset] [(.ref b98)]) (fun tq kq => st107.trans (XS.pop X107.here hx rfl (hb hby at_367) rfl rfl (XS.aload X107.here hx rfl (hb hby at_368) rfl rfl kq))) ?_
      obtain ⟨cq110, kq110, q110a, q110b, q110c⟩ := isOf hZ rfl f109
      obtain ⟨_, _, ⟨T110, L110, k110, n110⟩, -, X110, ⟨Lc110, hQ110, l110, y110, z110⟩, st110⟩ := X107.virtualBack hx (y := (⟨"com/example/warmjoin/warmjoin/PackedFields$Cursor", "next", "()Z"⟩ : MethodName)) (z := (⟨"com/example/warmjoin/warmjoin/PackedFields$Cursor", "next", "()Z"⟩ : MethodName)) hown (mvT hZ (own_w hw 23 rfl)) (mvT hZ (own_w hw 24 rfl)) (notFace_of_selects (args := #[]) (mvT hZ (own_w hw 26 rfl))) (mvT hZ (own_w hw 26 rfl)) (mvT hZ (own_w hw 25 rfl)) (by decide) (backOf (W := 0) (rm_next1N l Z a0 hw [] b98 b65 f96 (u + 6) 7 (u + 3) 1 _ _ _ _ T107.heap n0 Zs107 U107 (Ne.symm ne_b65_b98) sz98 f108 (by omega) (by omega) (by omega) (by omega) (by omega) (g_u_6.trans rfl)) hZ (own_w hw 27 rfl) (own_w hw 3 rfl) (by decide) (by decide)) q110a q110c (g := (mkF m 370 #[.val (.int i0), .val (.int i1), .val (.int i2), .val (.int (Int32.ofNat nl)), .val (.int (0 : Int32)), .val (.int (1 : Int32)), .val (.int (Int32.ofNat (u))), .val (.ref b65), .val (.int (Int32.ofNat (u + 13))), .val (.ref b98), .unset, .unset, .unset, .unset] [(.ref b98)])) rfl (by rw [hml]; rfl) (Steps.refl _) (argsL := []) (rest := []) (lenOf pd_2 rfl) rfl (by show 2 * 0 + _ ≤ _; exact Nat.le_of_eq rfl) (hb hby at_370) (fun _ _ => ⟨rfl, rfl, (by decide : 2 + 0 ≤ _), (by decide : 30 + 0 ≤ _)⟩)
      dsimp only [Pt.U, Pt.locs, Pt.cells, Pt.slots] at X110 l110 y110 z110 st110 hQ110
      have l110y := l110.symm
      clear l110
      subst l110y
      obtain rfl : k110 = 2 := y110
      obtain rfl : n110 = 30 := z110
      obtain ⟨rfl, N110q, K110q, o110, l110, U110⟩ := hQ110
      have N110 := Fr.app N107 N110q
      have f111 := f108.keep K110q (ninS ne_b65_b98 nin0)
      have f112 := f109.keep K110q
      have Zs110 : n0 ≤ T110.heap.size := Nat.le_trans Zs107 K110q.1
      refine own_to T110 (mkF m 376 #[.val (.int i0), .val (.int i1), .val (.int i2), .val (.int (Int32.ofNat nl)), .val (.int (0 : Int32)), .val (.int (1 : Int32)), .val (.int (Int32.ofNat (u))), .val (.ref b65), .val (.int (Int32.ofNat (u + 13))), .val (.ref b98), .unset, .unset, .unset, .unset] [(.ref b98)]) (fun tq kq => st110.trans (XS.pop X110.here hx rfl (hb hby at_373) rfl rfl (XS.aload X110.here hx rfl (hb hby at_374) rfl rfl kq))) ?_
      obtain ⟨cq113, kq113, q113a, q113b, q113c⟩ := isOf hZ rfl f112
      obtain ⟨_, _, ⟨T113, L113, k113, n113⟩, -, X113, ⟨Lc113, hQ113, l113, y113, z113⟩, st113⟩ := X110.virtualBack hx (y := (⟨"com/example/warmjoin/warmjoin/PackedFields$Cursor", "next", "()Z"⟩ : MethodName)) (z := (⟨"com/example/warmjoin/warmjoin/PackedFields$Cursor", "next", "()Z"⟩ : MethodName)) hown (mvT hZ (own_w hw 23 rfl)) (mvT hZ (own_w hw 24 rfl)) (notFace_of_selects (args := #[]) (mvT hZ (own_w hw 26 rfl))) (mvT hZ (own_w hw 26 rfl)) (mvT hZ (own_w hw 25 rfl)) (by decide) (backOf (W := 0) (rm_next1N l Z a0 hw [] b98 b65 f96 (u + 7) 6 (u + 3) 2 _ _ _ _ T110.heap n0 Zs110 U110 (Ne.symm ne_b65_b98) sz98 f111 (by omega) (by omega) (by omega) (by omega) (by omega) (g_u_7.trans rfl)) hZ (own_w hw 27 rfl) (own_w hw 3 rfl) (by decide) (by decide)) q113a q113c (g := (mkF m 376 #[.val (.int i0), .val (.int i1), .val (.int i2), .val (.int (Int32.ofNat nl)), .val (.int (0 : Int32)), .val (.int (1 : Int32)), .val (.int (Int32.ofNat (u))), .val (.ref b65), .val (.int (Int32.ofNat (u + 13))), .val (.ref b98), .unset, .unset, .unset, .unset] [(.ref b98)])) rfl (by rw [hml]; rfl) (Steps.refl _) (argsL := []) (rest := []) (lenOf pd_2 rfl) rfl (by show 2 * 0 + _ ≤ _; exact Nat.le_of_eq rfl) (hb hby at_376) (fun _ _ => ⟨rfl, rfl, (by decide : 2 + 0 ≤ _), (by decide : 30 + 0 ≤ _)⟩)
      dsimp only [Pt.U, Pt.locs, Pt.cells, Pt.slots] at X113 l113 y113 z113 st113 hQ113
      have l113y := l113.symm
      clear l113
      subst l113y
      obtain rfl : k113 = 2 := y113
      obtain rfl : n113 = 30 := z113
      obtain ⟨rfl, N113q, K113q, o113, l113, U113⟩ := hQ113
      have N113 := Fr.app N110 N113q
      have f114 := f111.keep K113q (ninS ne_b65_b98 nin0)
      have f115 := f112.keep K113q
      have Zs113 : n0 ≤ T113.heap.size := Nat.le_trans Zs110 K113q.1
      refine own_to T113 (mkF m 382 #[.val (.int i0), .val (.int i1), .val (.int i2), .val (.int (Int32.ofNat nl)), .val (.int (0 : Int32)), .val (.int (1 : Int32)), .val (.int (Int32.ofNat (u))), .val (.ref b65), .val (.int (Int32.ofNat (u + 13))), .val (.ref b98), .unset, .unset, .unset, .unset] [(.ref b98)]) (fun tq kq => st113.trans (XS.pop X113.here hx rfl (hb hby at_379) rfl rfl (XS.aload X113.here hx rfl (hb hby at_380) rfl rfl kq))) ?_
      obtain ⟨cq116, kq116, q116a, q116b, q116c⟩ := isOf hZ rfl f115
      obtain ⟨_, _, ⟨T116, L116, k116, n116⟩, -, X116, ⟨Lc116, hQ116, l116, y116, z116⟩, st116⟩ := X113.virtualBack hx (y := (⟨"com/example/warmjoin/warmjoin/PackedFields$Cursor", "next", "()Z"⟩ : MethodName)) (z := (⟨"com/example/warmjoin/warmjoin/PackedFields$Cursor", "next", "()Z"⟩ : MethodName)) hown (mvT hZ (own_w hw 23 rfl)) (mvT hZ (own_w hw 24 rfl)) (notFace_of_selects (args := #[]) (mvT hZ (own_w hw 26 rfl))) (mvT hZ (own_w hw 26 rfl)) (mvT hZ (own_w hw 25 rfl)) (by decide) (backOf (W := 0) (rm_next1N l Z a0 hw [] b98 b65 f96 (u + 8) 5 (u + 3) 3 _ _ _ _ T113.heap n0 Zs113 U113 (Ne.symm ne_b65_b98) sz98 f114 (by omega) (by omega) (by omega) (by omega) (by omega) (g_u_8.trans rfl)) hZ (own_w hw 27 rfl) (own_w hw 3 rfl) (by decide) (by decide)) q116a q116c (g := (mkF m 382 #[.val (.int i0), .val (.int i1), .val (.int i2), .val (.int (Int32.ofNat nl)), .val (.int (0 : Int32)), .val (.int (1 : Int32)), .val (.int (Int32.ofNat (u))), .val (.ref b65), .val (.int (Int32.ofNat (u + 13))), .val (.ref b98), .unset, .unset, .unset, .unset] [(.ref b98)])) rfl (by rw [hml]; rfl) (Steps.refl _) (argsL := []) (rest := []) (lenOf pd_2 rfl) rfl (by show 2 * 0 + _ ≤ _; exact Nat.le_of_eq rfl) (hb hby at_382) (fun _ _ => ⟨rfl, rfl, (by decide : 2 + 0 ≤ _), (by decide : 30 + 0 ≤ _)⟩)
      dsimp only [Pt.U, Pt.locs, Pt.cells, Pt.slots] at X116 l116 y116 z116 st116 hQ116
      have l116y := l116.symm
      clear l116
      subst l116y
      obtain rfl : k116 = 2 := y116
      obtain rfl : n116 = 30 := z116
      obtain ⟨rfl, N116q, K116q, o116, l116, U116⟩ := hQ116
      have N116 := Fr.app N113 N116q
      have f117 := f114.keep K116q (ninS ne_b65_b98 nin0)
      have f118 := f115.keep K116q
      have Zs116 : n0 ≤ T116.heap.size := Nat.le_trans Zs113 K116q.1
      refine own_to T116 (mkF m 388 #[.val (.int i0), .val (.int i1), .val (.int i2), .val (.int (Int32.ofNat nl)), .val (.int (0 : Int32)), .val (.int (1 : Int32)), .val (.int (Int32.ofNat (u))), .val (.ref b65), .val (.int (Int32.ofNat (u + 13))), .val (.ref b98), .unset, .unset, .unset, .unset] [(.ref b98)]) (fun tq kq => st116.trans (XS.pop X116.here hx rfl (hb hby at_385) rfl rfl (XS.aload X116.here hx rfl (hb hby at_386) rfl rfl kq))) ?_
      obtain ⟨cq119, kq119, q119a, q119b, q119c⟩ := isOf hZ rfl f118
      obtain ⟨_, _, ⟨T119, L119, k119, n119⟩, -, X119, ⟨Lc119, hQ119, l119, y119, z119⟩, st119⟩ := X116.virtualBack hx (y := (⟨"com/example/warmjoin/warmjoin/PackedFields$Cursor", "next", "()Z"⟩ : MethodName)) (z := (⟨"com/example/warmjoin/warmjoin/PackedFields$Cursor", "next", "()Z"⟩ : MethodName)) hown (mvT hZ (own_w hw 23 rfl)) (mvT hZ (own_w hw 24 rfl)) (notFace_of_selects (args := #[]) (mvT hZ (own_w hw 26 rfl))) (mvT hZ (own_w hw 26 rfl)) (mvT hZ (own_w hw 25 rfl)) (by decide) (backOf (W := 0) (rm_next1N l Z a0 hw [] b98 b65 f96 (u + 9) 4 (u + 3) 4 _ _ _ _ T116.heap n0 Zs116 U116 (Ne.symm ne_b65_b98) sz98 f117 (by omega) (by omega) (by omega) (by omega) (by omega) (g_u_9.trans rfl)) hZ (own_w hw 27 rfl) (own_w hw 3 rfl) (by decide) (by decide)) q119a q119c (g := (mkF m 388 #[.val (.int i0), .val (.int i1), .val (.int i2), .val (.int (Int32.ofNat nl)), .val (.int (0 : Int32)), .val (.int (1 : Int32)), .val (.int (Int32.ofNat (u))), .val (.ref b65), .val (.int (Int32.ofNat (u + 13))), .val (.ref b98), .unset, .unset, .unset, .unset] [(.ref b98)])) rfl (by rw [hml]; rfl) (Steps.refl _) (argsL := []) (rest := []) (lenOf pd_2 rfl) rfl (by show 2 * 0 + _ ≤ _; exact Nat.le_of_eq rfl) (hb hby at_388) (fun _ _ => ⟨rfl, rfl, (by decide : 2 + 0 ≤ _), (by decide : 30 + 0 ≤ _)⟩)
      dsimp only [Pt.U, Pt.locs, Pt.cells, Pt.slots] at X119 l119 y119 z119 st119 hQ119
      have l119y := l119.symm
      clear l119
      subst l119y
      obtain rfl : k119 = 2 := y119
      obtain rfl : n119 = 30 := z119
      obtain ⟨rfl, N119q, K119q, o119, l119, U119⟩ := hQ119
      have N119 := Fr.app N116 N119q
      have f120 := f117.keep K119q (ninS ne_b65_b98 nin0)
      have f121 := f118.keep K119q
      have Zs119 : n0 ≤ T119.heap.size := Nat.le_trans Zs116 K119q.1
      refine own_to T119 (mkF m 394 #[.val (.int i0), .val (.int i1), .val (.int i2), .val (.int (Int32.ofNat nl)), .val (.int (0 : Int32)), .val (.int (1 : Int32)), .val (.int (Int32.ofNat (u))), .val (.ref b65), .val (.int (Int32.ofNat (u + 13))), .val (.ref b98), .unset, .unset, .unset, .unset] [(.ref b98)]) (fun tq kq => st119.trans (XS.pop X119.here hx rfl (hb hby at_391) rfl rfl (XS.aload X119.here hx rfl (hb hby at_392) rfl rfl kq))) ?_
      obtain ⟨cq122, kq122, q122a, q122b, q122c⟩ := isOf hZ rfl f121
      obtain ⟨_, _, ⟨T122, L122, k122, n122⟩, -, X122, ⟨Lc122, hQ122, l122, y122, z122⟩, st122⟩ := X119.virtualBack hx (y := (⟨"com/example/warmjoin/warmjoin/PackedFields$Cursor", "next", "()Z"⟩ : MethodName)) (z := (⟨"com/example/warmjoin/warmjoin/PackedFields$Cursor", "next", "()Z"⟩ : MethodName)) hown (mvT hZ (own_w hw 23 rfl)) (mvT hZ (own_w hw 24 rfl)) (notFace_of_selects (args := #[]) (mvT hZ (own_w hw 26 rfl))) (mvT hZ (own_w hw 26 rfl)) (mvT hZ (own_w hw 25 rfl)) (by decide) (backOf (W := 0) (rm_next1N l Z a0 hw [] b98 b65 f96 (u + 10) 3 (u + 3) 5 _ _ _ _ T119.heap n0 Zs119 U119 (Ne.symm ne_b65_b98) sz98 f120 (by omega) (by omega) (by omega) (by omega) (by omega) (g_u_10.trans rfl)) hZ (own_w hw 27 rfl) (own_w hw 3 rfl) (by decide) (by decide)) q122a q122c (g := (mkF m 394 #[.val (.int i0), .val (.int i1), .val (.int i2), .val (.int (Int32.ofNat nl)), .val (.int (0 : Int32)), .val (.int (1 : Int32)), .val (.int (Int32.ofNat (u))), .val (.ref b65), .val (.int (Int32.ofNat (u + 13))), .val (.ref b98), .unset, .unset, .unset, .unset] [(.ref b98)])) rfl (by rw [hml]; rfl) (Steps.refl _) (argsL := []) (rest := []) (lenOf pd_2 rfl) rfl (by show 2 * 0 + _ ≤ _; exact Nat.le_of_eq rfl) (hb hby at_394) (fun _ _ => ⟨rfl, rfl, (by decide : 2 + 0 ≤ _), (by decide : 30 + 0 ≤ _)⟩)
      dsimp only [Pt.U, Pt.locs, Pt.cells, Pt.slots] at X122 l122 y122 z122 st122 hQ122
      have l122y := l122.symm
      clear l122
      subst l122y
      obtain rfl : k122 = 2 := y122
      obtain rfl : n122 = 30 := z122
      obtain ⟨rfl, N122q, K122q, o122, l122, U122⟩ := hQ122
      have N122 := Fr.app N119 N122q
      have f123 := f120.keep K122q (ninS ne_b65_b98 nin0)
      have f124 := f121.keep K122q
      have Zs122 : n0 ≤ T122.heap.size := Nat.le_trans Zs119 K122q.1
      refine own_to T122 (mkF m 400 #[.val (.int i0), .val (.int i1), .val (.int i2), .val (.int (Int32.ofNat nl)), .val (.int (0 : Int32)), .val (.int (1 : Int32)), .val (.int (Int32.ofNat (u))), .val (.ref b65), .val (.int (Int32.ofNat (u + 13))), .val (.ref b98), .unset, .unset, .unset, .unset] [(.ref b98)]) (fun tq kq => st122.trans (XS.pop X122.here hx rfl (hb hby at_397) rfl rfl (XS.aload X122.here hx rfl (hb hby at_398) rfl rfl kq))) ?_
      obtain ⟨cq125, kq125, q125a, q125b, q125c⟩ := isOf hZ rfl f124
      obtain ⟨_, _, ⟨T125, L125, k125, n125⟩, -, X125, ⟨Lc125, hQ125, l125, y125, z125⟩, st125⟩ := X122.virtualBack hx (y := (⟨"com/example/warmjoin/warmjoin/PackedFields$Cursor", "next", "()Z"⟩ : MethodName)) (z := (⟨"com/example/warmjoin/warmjoin/PackedFields$Cursor", "next", "()Z"⟩ : MethodName)) hown (mvT hZ (own_w hw 23 rfl)) (mvT hZ (own_w hw 24 rfl)) (notFace_of_selects (args := #[]) (mvT hZ (own_w hw 26 rfl))) (mvT hZ (own_w hw 26 rfl)) (mvT hZ (own_w hw 25 rfl)) (by decide) (backOf (W := 0) (rm_next1N l Z a0 hw [] b98 b65 f96 (u + 11) 2 (u + 3) 6 _ _ _ _ T122.heap n0 Zs122 U122 (Ne.symm ne_b65_b98) sz98 f123 (by omega) (by omega) (by omega) (by omega) (by omega) (g_u_11.trans rfl)) hZ (own_w hw 27 rfl) (own_w hw 3 rfl) (by decide) (by decide)) q125a q125c (g := (mkF m 400 #[.val (.int i0), .val (.int i1), .val (.int i2), .val (.int (Int32.ofNat nl)), .val (.int (0 : Int32)), .val (.int (1 : Int32)), .val (.int (Int32.ofNat (u))), .val (.ref b65), .val (.int (Int32.ofNat (u + 13))), .val (.ref b98), .unset, .unset, .unset, .unset] [(.ref b98)])) rfl (by rw [hml]; rfl) (Steps.refl _) (argsL := []) (rest := []) (lenOf pd_2 rfl) rfl (by show 2 * 0 + _ ≤ _; exact Nat.le_of_eq rfl) (hb hby at_400) (fun _ _ => ⟨rfl, rfl, (by decide : 2 + 0 ≤ _), (by decide : 30 + 0 ≤ _)⟩)
      dsimp only [Pt.U, Pt.locs, Pt.cells, Pt.slots] at X125 l125 y125 z125 st125 hQ125
      have l125y := l125.symm
      clear l125
      subst l125y
      obtain rfl : k125 = 2 := y125
      obtain rfl : n125 = 30 := z125
      obtain ⟨rfl, N125q, K125q, o125, l125, U125⟩ := hQ125
      have N125 := Fr.app N122 N125q
      have f126 := f123.keep K125q (ninS ne_b65_b98 nin0)
      have f127 := f124.keep K125q
      have Zs125 : n0 ≤ T125.heap.size := Nat.le_trans Zs122 K125q.1
      refine own_to T125 (mkF m 406 #[.val (.int i0), .val (.int i1), .val (.int i2), .val (.int (Int32.ofNat nl)), .val (.int (0 : Int32)), .val (.int (1 : Int32)), .val (.int (Int32.ofNat (u))), .val (.ref b65), .val (.int (Int32.ofNat (u + 13))), .val (.ref b98), .unset, .unset, .unset, .unset] [(.ref b98)]) (fun tq kq => st125.trans (XS.pop X125.here hx rfl (hb hby at_403) rfl rfl (XS.aload X125.here hx rfl (hb hby at_404) rfl rfl kq))) ?_
      obtain ⟨cq128, kq128, q128a, q128b, q128c⟩ := isOf hZ rfl f127
      obtain ⟨_, _, ⟨T128, L128, k128, n128⟩, -, X128, ⟨Lc128, hQ128, l128, y128, z128⟩, st128⟩ := X125.virtualBack hx (y := (⟨"com/example/warmjoin/warmjoin/PackedFields$Cursor", "literal", "()Z"⟩ : MethodName)) (z := (⟨"com/example/warmjoin/warmjoin/PackedFields$Cursor", "literal", "()Z"⟩ : MethodName)) hown (mvT hZ (own_w hw 70 rfl)) (mvT hZ (own_w hw 71 rfl)) (notFace_of_selects (args := #[]) (mvT hZ (own_w hw 73 rfl))) (mvT hZ (own_w hw 73 rfl)) (mvT hZ (own_w hw 72 rfl)) (by decide) (backOf (W := 0) (rm_lit7 l Z a0 hw [] b98 b65 f96 (u + 1) _ _ _ _ _ _ _ T125.heap n0 Zs125 U125 f126 (by omega)) hZ (own_w hw 74 rfl) (own_w hw 3 rfl) (by decide) (by decide)) q128a q128c (g := (mkF m 406 #[.val (.int i0), .val (.int i1), .val (.int i2), .val (.int (Int32.ofNat nl)), .val (.int (0 : Int32)), .val (.int (1 : Int32)), .val (.int (Int32.ofNat (u))), .val (.ref b65), .val (.int (Int32.ofNat (u + 13))), .val (.ref b98), .unset, .unset, .unset, .unset] [(.ref b98)])) rfl (by rw [hml]; rfl) (Steps.refl _) (argsL := []) (rest := []) (lenOf pd_2 rfl) rfl (by show 2 * 0 + _ ≤ _; exact Nat.le_of_eq rfl) (hb hby at_406) (fun _ _ => ⟨rfl, rfl, (by decide : 2 + 0 ≤ _), (by decide : 30 + 0 ≤ _)⟩)
      dsimp only [Pt.U, Pt.locs, Pt.cells, Pt.slots] at X128 l128 y128 z128 st128 hQ128
      have l128y := l128.symm
      clear l128
      subst l128y
      obtain rfl : k128 = 2 := y128
      obtain rfl : n128 = 30 := z128
      obtain ⟨rfl, N128q, e128⟩ := hQ128
      have N128 := Fr.app N125 N128q
      refine own_to T128 (mkF m 413 #[.val (.int i0), .val (.int i1), .val (.int i2), .val (.int (Int32.ofNat nl)), .val (.int (0 : Int32)), .val (.int (1 : Int32)), .val (.int (Int32.ofNat (u))), .val (.ref b65), .val (.int (Int32.ofNat (u + 13))), .val (.ref b98), .val (.int (own_bit ((f96 (u + 1 + 0)) &&& ((1 : Int32) <<< ((Int32.ofNat (7) &&& (7 : Int32)) &&& 31))))), .unset, .unset, .unset] [(.ref b98)]) (fun tq kq => st128.trans (XS.istore X128.here hx rfl (hb hby at_409) rfl (l' := #[.val (.int i0), .val (.int i1), .val (.int i2), .val (.int (Int32.ofNat nl)), .val (.int (0 : Int32)), .val (.int (1 : Int32)), .val (.int (Int32.ofNat (u))), .val (.ref b65), .val (.int (Int32.ofNat (u + 13))), .val (.ref b98), .val (.int (own_bit ((f96 (u + 1 + 0)) &&& ((1 : Int32) <<< ((Int32.ofNat (7) &&& (7 : Int32)) &&& 31))))), .unset, .unset, .unset]) rfl (XS.aload X128.here hx rfl (hb hby at_411) rfl rfl kq))) ?_
      obtain ⟨cq129, kq129, q129a, q129b, q129c⟩ := isOf hZ e128 f127
      obtain ⟨_, _, ⟨T129, L129, k129, n129⟩, -, X129, ⟨Lc129, hQ129, l129, y129, z129⟩, st129⟩ := X128.virtualBack hx (y := (⟨"com/example/warmjoin/warmjoin/PackedFields$Cursor", "next", "()Z"⟩ : MethodName)) (z := (⟨"com/example/warmjoin/warmjoin/PackedFields$Cursor", "next", "()Z"⟩ : MethodName)) hown (mvT hZ (own_w hw 23 rfl)) (mvT hZ (own_w hw 24 rfl)) (notFace_of_selects (args := #[]) (mvT hZ (own_w hw 26 rfl))) (mvT hZ (own_w hw 26 rfl)) (mvT hZ (own_w hw 25 rfl)) (by decide) (backOf (W := 0) (rm_next1N l Z a0 hw [] b98 b65 f96 (u + 12) 1 (u + 3) 7 _ _ _ _ T125.heap n0 Zs125 U125 (Ne.symm ne_b65_b98) sz98 f126 (by omega) (by omega) (by omega) (by omega) (by omega) (g_u_12.trans rfl)) hZ (own_w hw 27 rfl) (own_w hw 3 rfl) (by decide) (by decide)) q129a q129c (g := (mkF m 413 #[.val (.int i0), .val (.int i1), .val (.int i2), .val (.int (Int32.ofNat nl)), .val (.int (0 : Int32)), .val (.int (1 : Int32)), .val (.int (Int32.ofNat (u))), .val (.ref b65), .val (.int (Int32.ofNat (u + 13))), .val (.ref b98), .val (.int (own_bit ((f96 (u + 1 + 0)) &&& ((1 : Int32) <<< ((Int32.ofNat (7) &&& (7 : Int32)) &&& 31))))), .unset, .unset, .unset] [(.ref b98)])) rfl (by rw [hml]; rfl) (Steps.refl _) (argsL := []) (rest := []) (lenOf pd_2 rfl) rfl (by show 2 * 0 + _ ≤ _; exact Nat.le_of_eq rfl) (hb hby at_413) (fun _ _ => ⟨rfl, e128, (by decide : 2 + 0 ≤ _), (by decide : 30 + 0 ≤ _)⟩)
      dsimp only [Pt.U, Pt.locs, Pt.cells, Pt.slots] at X129 l129 y129 z129 st129 hQ129
      have l129y := l129.symm
      clear l129
      subst l129y
      obtain rfl : k129 = 2 := y129
      obtain rfl : n129 = 30 := z129
      obtain ⟨rfl, N129q, K129q, o129, l129, U129⟩ := hQ129
      have N129 := Fr.app N128 N129q
      have f130 := f126.keep K129q (ninS ne_b65_b98 nin0)
      have f131 := f127.keep K129q
      have Zs129 : n0 ≤ T129.heap.size := Nat.le_trans Zs125 K129q.1
      refine own_to T129 (mkF m 419 #[.val (.int i0), .val (.int i1), .val (.int i2), .val (.int (Int32.ofNat nl)), .val (.int (0 : Int32)), .val (.int (1 : Int32)), .val (.int (Int32.ofNat (u))), .val (.ref b65), .val (.int (Int32.ofNat (u + 13))), .val (.ref b98), .val (.int (own_bit ((f96 (u + 1 + 0)) &&& ((1 : Int32) <<< ((Int32.ofNat (7) &&& (7 : Int32)) &&& 31))))), .unset, .unset, .unset] [(.ref b98)]) (fun tq kq => st129.trans (XS.pop X129.here hx rfl (hb hby at_416) rfl rfl (XS.aload X129.here hx rfl (hb hby at_417) rfl rfl kq))) ?_
      obtain ⟨cq132, kq132, q132a, q132b, q132c⟩ := isOf hZ rfl f131
      obtain ⟨_, _, ⟨T132, L132, k132, n132⟩, -, X132, ⟨Lc132, hQ132, l132, y132, z132⟩, st132⟩ := X129.virtualBack hx (y := (⟨"com/example/warmjoin/warmjoin/PackedFields$Cursor", "literal", "()Z"⟩ : MethodName)) (z := (⟨"com/example/warmjoin/warmjoin/PackedFields$Cursor", "literal", "()Z"⟩ : MethodName)) hown (mvT hZ (own_w hw 70 rfl)) (mvT hZ (own_w hw 71 rfl)) (notFace_of_selects (args := #[]) (mvT hZ (own_w hw 73 rfl))) (mvT hZ (own_w hw 73 rfl)) (mvT hZ (own_w hw 72 rfl)) (by decide) (backOf (W := 0) (rm_lit8 l Z a0 hw [] b98 b65 f96 (u + 1) _ _ _ _ _ _ _ T129.heap n0 Zs129 U129 f130 (by omega)) hZ (own_w hw 74 rfl) (own_w hw 3 rfl) (by decide) (by decide)) q132a q132c (g := (mkF m 419 #[.val (.int i0), .val (.int i1), .val (.int i2), .val (.int (Int32.ofNat nl)), .val (.int (0 : Int32)), .val (.int (1 : Int32)), .val (.int (Int32.ofNat (u))), .val (.ref b65), .val (.int (Int32.ofNat (u + 13))), .val (.ref b98), .val (.int (own_bit ((f96 (u + 1 + 0)) &&& ((1 : Int32) <<< ((Int32.ofNat (7) &&& (7 : Int32)) &&& 31))))), .unset, .unset, .unset] [(.ref b98)])) rfl (by rw [hml]; rfl) (Steps.refl _) (argsL := []) (rest := []) (lenOf pd_2 rfl) rfl (by show 2 * 0 + _ ≤ _; exact Nat.le_of_eq rfl) (hb hby at_419) (fun _ _ => ⟨rfl, rfl, (by decide : 2 + 0 ≤ _), (by decide : 30 + 0 ≤ _)⟩)
      dsimp only [Pt.U, Pt.locs, Pt.cells, Pt.slots] at X132 l132 y132 z132 st132 hQ132
      have l132y := l132.symm
      clear l132
      subst l132y
      obtain rfl : k132 = 2 := y132
      obtain rfl : n132 = 30 := z132
      obtain ⟨rfl, N132q, e132⟩ := hQ132
      have N132 := Fr.app N129 N132q
      refine own_to T132 (mkF m 435 #[.val (.int i0), .val (.int i1), .val (.int i2), .val (.int (Int32.ofNat nl)), .val (.int (0 : Int32)), .val (.int (1 : Int32)), .val (.int (Int32.ofNat (u))), .val (.ref b65), .val (.int (Int32.ofNat (u + 13))), .val (.ref b98), .val (.int (own_bit ((f96 (u + 1 + 0)) &&& ((1 : Int32) <<< ((Int32.ofNat (7) &&& (7 : Int32)) &&& 31))))), .val (.int (own_bit ((f96 (u + 1 + 1)) &&& ((1 : Int32) <<< ((Int32.ofNat (8) &&& (7 : Int32)) &&& 31))))), .unset, .unset] [(.int ((((Int32.ofNat nl).toUInt32 >>> ((7 : Int32) &&& 31).toUInt32).toInt32) &&& (1 : Int32)))]) (fun tq kq => st132.trans (XS.istore X132.here hx rfl (hb hby at_422) rfl (l' := #[.val (.int i0), .val (.int i1), .val (.int i2), .val (.int (Int32.ofNat nl)), .val (.int (0 : Int32)), .val (.int (1 : Int32)), .val (.int (Int32.ofNat (u))), .val (.ref b65), .val (.int (Int32.ofNat (u + 13))), .val (.ref b98), .val (.int (own_bit ((f96 (u + 1 + 0)) &&& ((1 : Int32) <<< ((Int32.ofNat (7) &&& (7 : Int32)) &&& 31))))), .val (.int (own_bit ((f96 (u + 1 + 1)) &&& ((1 : Int32) <<< ((Int32.ofNat (8) &&& (7 : Int32)) &&& 31))))), .unset, .unset]) rfl (XS.iload X132.here hx rfl (hb hby at_424) rfl (XS.ifNo X132.here hx rfl (hb hby at_426) rfl ((if0 _ _).trans (feq (by decide : ¬ ((1 : Int32) = (0 : Int32)))).1) (XS.iloadN X132.here hx rfl (hb hby at_429) rfl (XS.bipush X132.here hx rfl (hb hby at_430) (XS.iushr X132.here hx rfl (hb hby at_432) rfl (XS.iconst X132.here hx rfl (hb hby at_433) (XS.iand X132.here hx rfl (hb hby at_434) rfl kq))))))))) ?_
      by_cases c435 : ((((Int32.ofNat nl).toUInt32 >>> ((7 : Int32) &&& 31).toUInt32).toInt32) &&& (1 : Int32)) = (0 : Int32)
      · skip
        refine own_to T132 (mkF m 456 #[.val (.int i0), .val (.int i1), .val (.int i2), .val (.int (Int32.ofNat nl)), .val (.int (0 : Int32)), .val (.int (1 : Int32)), .val (.int (Int32.ofNat (u))), .val (.ref b65), .val (.int (Int32.ofNat (u + 13))), .val (.ref b98), .val (.int (own_bit ((f96 (u + 1 + 0)) &&& ((1 : Int32) <<< ((Int32.ofNat (7) &&& (7 : Int32)) &&& 31))))), .val (.int (own_bit ((f96 (u + 1 + 1)) &&& ((1 : Int32) <<< ((Int32.ofNat (8) &&& (7 : Int32)) &&& 31))))), .val (.int (0 : Int32)), .unset] [(.int ((((Int32.ofNat nl).toUInt32 >>> ((8 : Int32) &&& 31).toUInt32).toInt32) &&& (1 : Int32)))]) (fun tq kq => XS.ifYes X132.here hx rfl (pc0 := 435) (pc' := 442) rfl (hb hby at_435) rfl ((if0 _ _).trans (teq c435).1) (by decide) (by decide) (XS.iconst X132.here hx rfl (hb hby at_442) (XS.istore X132.here hx rfl (hb hby at_443) rfl (l' := #[.val (.int i0), .val (.int i1), .val (.int i2), .val (.int (Int32.ofNat nl)), .val (.int (0 : Int32)), .val (.int (1 : Int32)), .val (.int (Int32.ofNat (u))), .val (.ref b65), .val (.int (Int32.ofNat (u + 13))), .val (.ref b98), .val (.int (own_bit ((f96 (u + 1 + 0)) &&& ((1 : Int32) <<< ((Int32.ofNat (7) &&& (7 : Int32)) &&& 31))))), .val (.int (own_bit ((f96 (u + 1 + 1)) &&& ((1 : Int32) <<< ((Int32.ofNat (8) &&& (7 : Int32)) &&& 31))))), .val (.int (0 : Int32)), .unset]) rfl (XS.iload X132.here hx rfl (hb hby at_445) rfl (XS.ifNo X132.here hx rfl (hb hby at_447) rfl ((if0 _ _).trans (feq (by decide : ¬ ((1 : Int32) = (0 : Int32)))).1) (XS.iloadN X132.here hx rfl (hb hby at_450) rfl (XS.bipush X132.here hx rfl (hb hby at_451) (XS.iushr X132.here hx rfl (hb hby at_453) rfl (XS.iconst X132.here hx rfl (hb hby at_454) (XS.iand X132.here hx rfl (hb hby at_455) rfl kq)))))))))) ?_
        by_cases c456 : ((((Int32.ofNat nl).toUInt32 >>> ((8 : Int32) &&& 31).toUInt32).toInt32) &&& (1 : Int32)) = (0 : Int32)
        · skip
          refine own_to T132 (mkF m 481 #[.val (.int i0), .val (.int i1), .val (.int i2), .val (.int (Int32.ofNat nl)), .val (.int (0 : Int32)), .val (.int (1 : Int32)), .val (.int (Int32.ofNat (u))), .val (.ref b65), .val (.int (Int32.ofNat (u + 13))), .val (.ref b98), .val (.int (own_bit ((f96 (u + 1 + 0)) &&& ((1 : Int32) <<< ((Int32.ofNat (7) &&& (7 : Int32)) &&& 31))))), .val (.int (own_bit ((f96 (u + 1 + 1)) &&& ((1 : Int32) <<< ((Int32.ofNat (8) &&& (7 : Int32)) &&& 31))))), .val (.int (0 : Int32)), .val (.int (0 : Int32))] [(.int (1 : Int32))]) (fun tq kq => XS.ifYes X132.here hx rfl (pc0 := 456) (pc' := 463) rfl (hb hby at_456) rfl ((if0 _ _).trans (teq c456).1) (by decide) (by decide) (XS.iconst X132.here hx rfl (hb hby at_463) (XS.istore X132.here hx rfl (hb hby at_464) rfl (l' := #[.val (.int i0), .val (.int i1), .val (.int i2), .val (.int (Int32.ofNat nl)), .val (.int (0 : Int32)), .val (.int (1 : Int32)), .val (.int (Int32.ofNat (u))), .val (.ref b65), .val (.int (Int32.ofNat (u + 13))), .val (.ref b98), .val (.int (own_bit ((f96 (u + 1 + 0)) &&& ((1 : Int32) <<< ((Int32.ofNat (7) &&& (7 : Int32)) &&& 31))))), .val (.int (own_bit ((f96 (u + 1 + 1)) &&& ((1 : Int32) <<< ((Int32.ofNat (8) &&& (7 : Int32)) &&& 31))))), .val (.int (0 : Int32)), .val (.int (0 : Int32))]) rfl (XS.iload X132.here hx rfl (hb hby at_466) rfl (XS.iload X132.here hx rfl (hb hby at_468) rfl (XS.icmpNo X132.here hx rfl (hb hby at_470) rfl (teq (by show own_bit _ = _; rw [g_u_1]; exact if_pos ((own_bits ⟨nl, hnl⟩).1.mpr c435))).2 (XS.iload X132.here hx rfl (hb hby at_473) rfl (XS.iload X132.here hx rfl (hb hby at_475) rfl (XS.icmpNo X132.here hx rfl (hb hby at_477) rfl (teq (by show own_bit _ = _; rw [g_u_2]; exact if_pos ((own_bits ⟨nl, hnl⟩).2.mpr c456))).2 (XS.iconst X132.here hx rfl (hb hby at_480) kq)))))))))) ?_
          refine own_to T132 (mkF m 485 #[.val (.int i0), .val (.int i1), .val (.int i2), .val (.int (Int32.ofNat nl)), .val (.int (0 : Int32)), .val (.int (1 : Int32)), .val (.int (Int32.ofNat (u))), .val (.ref b65), .val (.int (Int32.ofNat (u + 13))), .val (.ref b98), .val (.int (own_bit ((f96 (u + 1 + 0)) &&& ((1 : Int32) <<< ((Int32.ofNat (7) &&& (7 : Int32)) &&& 31))))), .val (.int (own_bit ((f96 (u + 1 + 1)) &&& ((1 : Int32) <<< ((Int32.ofNat (8) &&& (7 : Int32)) &&& 31))))), .val (.int (0 : Int32)), .val (.int (0 : Int32))] [(.int (1 : Int32))]) (fun tq kq => XS.goto X132.here hx rfl (pc0 := 481) (pc' := 485) rfl (hb hby at_481) (by decide) (by decide) kq) ?_
          exact own_retZ X132 hx hret hlk (hb hby at_485) (by decide) (by decide) (Or.inr rfl) ⟨rfl, N132⟩
        · skip
          refine own_to T132 (mkF m 480 #[.val (.int i0), .val (.int i1), .val (.int i2), .val (.int (Int32.ofNat nl)), .val (.int (0 : Int32)), .val (.int (1 : Int32)), .val (.int (Int32.ofNat (u))), .val (.ref b65), .val (.int (Int32.ofNat (u + 13))), .val (.ref b98), .val (.int (own_bit ((f96 (u + 1 + 0)) &&& ((1 : Int32) <<< ((Int32.ofNat (7) &&& (7 : Int32)) &&& 31))))), .val (.int (own_bit ((f96 (u + 1 + 1)) &&& ((1 : Int32) <<< ((Int32.ofNat (8) &&& (7 : Int32)) &&& 31))))), .val (.int (0 : Int32)), .val (.int (1 : Int32))] []) (fun tq kq => XS.ifNo X132.here hx rfl (hb hby at_456) rfl ((if0 _ _).trans (feq c456).1) (XS.iconst X132.here hx rfl (hb hby at_459) (XS.goto X132.here hx rfl (pc0 := 460) (pc' := 464) rfl (hb hby at_460) (by decide) (by decide) (XS.istore X132.here hx rfl (hb hby at_464) rfl (l' := #[.val (.int i0), .val (.int i1), .val (.int i2), .val (.int (Int32.ofNat nl)), .val (.int (0 : Int32)), .val (.int (1 : Int32)), .val (.int (Int32.ofNat (u))), .val (.ref b65), .val (.int (Int32.ofNat (u + 13))), .val (.ref b98), .val (.int (own_bit ((f96 (u + 1 + 0)) &&& ((1 : Int32) <<< ((Int32.ofNat (7) &&& (7 : Int32)) &&& 31))))), .val (.int (own_bit ((f96 (u + 1 + 1)) &&& ((1 : Int32) <<< ((Int32.ofNat (8) &&& (7 : Int32)) &&& 31))))), .val (.int (0 : Int32)), .val (.int (1 : Int32))]) rfl (XS.iload X132.here hx rfl (hb hby at_466) rfl (XS.iload X132.here hx rfl (hb hby at_468) rfl (XS.icmpNo X132.here hx rfl (hb hby at_470) rfl (teq (by show own_bit _ = _; rw [g_u_1]; exact if_pos ((own_bits ⟨nl, hnl⟩).1.mpr c435))).2 (XS.iload X132.here hx rfl (hb hby at_473) rfl (XS.iload X132.here hx rfl (hb hby at_475) rfl (XS.icmpNo X132.here hx rfl (hb hby at_477) rfl (teq (by show own_bit _ = _; rw [g_u_2]; exact if_neg (mt (own_bits ⟨nl, hnl⟩).2.mp c456))).2 kq)))))))))) ?_
          refine own_to T132 (mkF m 485 #[.val (.int i0), .val (.int i1), .val (.int i2), .val (.int (Int32.ofNat nl)), .val (.int (0 : Int32)), .val (.int (1 : Int32)), .val (.int (Int32.ofNat (u))), .val (.ref b65), .val (.int (Int32.ofNat (u + 13))), .val (.ref b98), .val (.int (own_bit ((f96 (u + 1 + 0)) &&& ((1 : Int32) <<< ((Int32.ofNat (7) &&& (7 : Int32)) &&& 31))))), .val (.int (own_bit ((f96 (u + 1 + 1)) &&& ((1 : Int32) <<< ((Int32.ofNat (8) &&& (7 : Int32)) &&& 31))))), .val (.int (0 : Int32)), .val (.int (1 : Int32))] [(.int (1 : Int32))]) (fun tq kq => XS.iconst X132.here hx rfl (hb hby at_480) (XS.goto X132.here hx rfl (pc0 := 481) (pc' := 485) rfl (hb hby at_481) (by decide) (by decide) kq)) ?_
          exact own_retZ X132 hx hret hlk (hb hby at_485) (by decide) (by decide) (Or.inr rfl) ⟨rfl, N132⟩
      · skip
        refine own_to T132 (mkF m 455 #[.val (.int i0), .val (.int i1), .val (.int i2), .val (.int (Int32.ofNat nl)), .val (.int (0 : Int32)), .val (.int (1 : Int32)), .val (.int (Int32.ofNat (u))), .val (.ref b65), .val (.int (Int32.ofNat (u + 13))), .val (.ref b98), .val (.int (own_bit ((f96 (u + 1 + 0)) &&& ((1 : Int32) <<< ((Int32.ofNat (7) &&& (7 : Int32)) &&& 31))))), .val (.int (own_bit ((f96 (u + 1 + 1)) &&& ((1 : Int32) <<< ((Int32.ofNat (8) &&& (7 : Int32)) &&& 31))))), .val (.int (1 : Int32)), .unset] [(.int (1 : Int32)), (.int (((Int32.ofNat nl).toUInt32 >>> ((8 : Int32) &&& 31).toUInt32).toInt32))]) (fun tq kq => XS.ifNo X132.here hx rfl (hb hby at_435) rfl ((if0 _ _).trans (feq c435).1) (XS.iconst X132.here hx rfl (hb hby at_438) (XS.goto X132.here hx rfl (pc0 := 439) (pc' := 443) rfl (hb hby at_439) (by decide) (by decide) (XS.istore X132.here hx rfl (hb hby at_443) rfl (l' := #[.val (.int i0), .val (.int i1), .val (.int i2), .val (.int (Int32.ofNat nl)), .val (.int (0 : Int32)), .val (.int (1 : Int32)), .val (.int (Int32.ofNat (u))), .val (.ref b65), .val (.int (Int32.ofNat (u + 13))), .val (.ref b98), .val (.int (own_bit ((f96 (u + 1 + 0)) &&& ((1 : Int32) <<< ((Int32.ofNat (7) &&& (7 : Int32)) &&& 31))))), .val (.int (own_bit ((f96 (u + 1 + 1)) &&& ((1 : Int32) <<< ((Int32.ofNat (8) &&& (7 : Int32)) &&& 31))))), .val (.int (1 : Int32)), .unset]) rfl (XS.iload X132.here hx rfl (hb hby at_445) rfl (XS.ifNo X132.here hx rfl (hb hby at_447) rfl ((if0 _ _).trans (feq (by decide : ¬ ((1 : Int32) = (0 : Int32)))).1) (XS.iloadN X132.here hx rfl (hb hby at_450) rfl (XS.bipush X132.here hx rfl (hb hby at_451) (XS.iushr X132.here hx rfl (hb hby at_453) rfl (XS.iconst X132.here hx rfl (hb hby at_454) kq)))))))))) ?_
        refine own_to T132 (mkF m 456 #[.val (.int i0), .val (.int i1), .val (.int i2), .val (.int (Int32.ofNat nl)), .val (.int (0 : Int32)), .val (.int (1 : Int32)), .val (.int (Int32.ofNat (u))), .val (.ref b65), .val (.int (Int32.ofNat (u + 13))), .val (.ref b98), .val (.int (own_bit ((f96 (u + 1 + 0)) &&& ((1 : Int32) <<< ((Int32.ofNat (7) &&& (7 : Int32)) &&& 31))))), .val (.int (own_bit ((f96 (u + 1 + 1)) &&& ((1 : Int32) <<< ((Int32.ofNat (8) &&& (7 : Int32)) &&& 31))))), .val (.int (1 : Int32)), .unset] [(.int ((((Int32.ofNat nl).toUInt32 >>> ((8 : Int32) &&& 31).toUInt32).toInt32) &&& (1 : Int32)))]) (fun tq kq => XS.iand X132.here hx rfl (hb hby at_455) rfl kq) ?_
        by_cases c456 : ((((Int32.ofNat nl).toUInt32 >>> ((8 : Int32) &&& 31).toUInt32).toInt32) &&& (1 : Int32)) = (0 : Int32)
        · skip
          refine own_to T132 (mkF m 481 #[.val (.int i0), .val (.int i1), .val (.int i2), .val (.int (Int32.ofNat nl)), .val (.int (0 : Int32)), .val (.int (1 : Int32)), .val (.int (Int32.ofNat (u))), .val (.ref b65), .val (.int (Int32.ofNat (u + 13))), .val (.ref b98), .val (.int (own_bit ((f96 (u + 1 + 0)) &&& ((1 : Int32) <<< ((Int32.ofNat (7) &&& (7 : Int32)) &&& 31))))), .val (.int (own_bit ((f96 (u + 1 + 1)) &&& ((1 : Int32) <<< ((Int32.ofNat (8) &&& (7 : Int32)) &&& 31))))), .val (.int (1 : Int32)), .val (.int (0 : Int32))] [(.int (1 : Int32))]) (fun tq kq => XS.ifYes X132.here hx rfl (pc0 := 456) (pc' := 463) rfl (hb hby at_456) rfl ((if0 _ _).trans (teq c456).1) (by decide) (by decide) (XS.iconst X132.here hx rfl (hb hby at_463) (XS.istore X132.here hx rfl (hb hby at_464) rfl (l' := #[.val (.int i0), .val (.int i1), .val (.int i2), .val (.int (Int32.ofNat nl)), .val (.int (0 : Int32)), .val (.int (1 : Int32)), .val (.int (Int32.ofNat (u))), .val (.ref b65), .val (.int (Int32.ofNat (u + 13))), .val (.ref b98), .val (.int (own_bit ((f96 (u + 1 + 0)) &&& ((1 : Int32) <<< ((Int32.ofNat (7) &&& (7 : Int32)) &&& 31))))), .val (.int (own_bit ((f96 (u + 1 + 1)) &&& ((1 : Int32) <<< ((Int32.ofNat (8) &&& (7 : Int32)) &&& 31))))), .val (.int (1 : Int32)), .val (.int (0 : Int32))]) rfl (XS.iload X132.here hx rfl (hb hby at_466) rfl (XS.iload X132.here hx rfl (hb hby at_468) rfl (XS.icmpNo X132.here hx rfl (hb hby at_470) rfl (teq (by show own_bit _ = _; rw [g_u_1]; exact if_neg (mt (own_bits ⟨nl, hnl⟩).1.mp c435))).2 (XS.iload X132.here hx rfl (hb hby at_473) rfl (XS.iload X132.here hx rfl (hb hby at_475) rfl (XS.icmpNo X132.here hx rfl (hb hby at_477) rfl (teq (by show own_bit _ = _; rw [g_u_2]; exact if_pos ((own_bits ⟨nl, hnl⟩).2.mpr c456))).2 (XS.iconst X132.here hx rfl (hb hby at_480) kq)))))))))) ?_
          refine own_to T132 (mkF m 485 #[.val (.int i0), .val (.int i1), .val (.int i2), .val (.int (Int32.ofNat nl)), .val (.int (0 : Int32)), .val (.int (1 : Int32)), .val (.int (Int32.ofNat (u))), .val (.ref b65), .val (.int (Int32.ofNat (u + 13))), .val (.ref b98), .val (.int (own_bit ((f96 (u + 1 + 0)) &&& ((1 : Int32) <<< ((Int32.ofNat (7) &&& (7 : Int32)) &&& 31))))), .val (.int (own_bit ((f96 (u + 1 + 1)) &&& ((1 : Int32) <<< ((Int32.ofNat (8) &&& (7 : Int32)) &&& 31))))), .val (.int (1 : Int32)), .val (.int (0 : Int32))] [(.int (1 : Int32))]) (fun tq kq => XS.goto X132.here hx rfl (pc0 := 481) (pc' := 485) rfl (hb hby at_481) (by decide) (by decide) kq) ?_
          exact own_retZ X132 hx hret hlk (hb hby at_485) (by decide) (by decide) (Or.inr rfl) ⟨rfl, N132⟩
        · skip
          refine own_to T132 (mkF m 480 #[.val (.int i0), .val (.int i1), .val (.int i2), .val (.int (Int32.ofNat nl)), .val (.int (0 : Int32)), .val (.int (1 : Int32)), .val (.int (Int32.ofNat (u))), .val (.ref b65), .val (.int (Int32.ofNat (u + 13))), .val (.ref b98), .val (.int (own_bit ((f96 (u + 1 + 0)) &&& ((1 : Int32) <<< ((Int32.ofNat (7) &&& (7 : Int32)) &&& 31))))), .val (.int (own_bit ((f96 (u + 1 + 1)) &&& ((1 : Int32) <<< ((Int32.ofNat (8) &&& (7 : Int32)) &&& 31))))), .val (.int (1 : Int32)), .val (.int (1 : Int32))] []) (fun tq kq => XS.ifNo X132.here hx rfl (hb hby at_456) rfl ((if0 _ _).trans (feq c456).1) (XS.iconst X132.here hx rfl (hb hby at_459) (XS.goto X132.here hx rfl (pc0 := 460) (pc' := 464) rfl (hb hby at_460) (by decide) (by decide) (XS.istore X132.here hx rfl (hb hby at_464) rfl (l' := #[.val (.int i0), .val (.int i1), .val (.int i2), .val (.int (Int32.ofNat nl)), .val (.int (0 : Int32)), .val (.int (1 : Int32)), .val (.int (Int32.ofNat (u))), .val (.ref b65), .val (.int (Int32.ofNat (u + 13))), .val (.ref b98), .val (.int (own_bit ((f96 (u + 1 + 0)) &&& ((1 : Int32) <<< ((Int32.ofNat (7) &&& (7 : Int32)) &&& 31))))), .val (.int (own_bit ((f96 (u + 1 + 1)) &&& ((1 : Int32) <<< ((Int32.ofNat (8) &&& (7 : Int32)) &&& 31))))), .val (.int (1 : Int32)), .val (.int (1 : Int32))]) rfl (XS.iload X132.here hx rfl (hb hby at_466) rfl (XS.iload X132.here hx rfl (hb hby at_468) rfl (XS.icmpNo X132.here hx rfl (hb hby at_470) rfl (teq (by show own_bit _ = _; rw [g_u_1]; exact if_neg (mt (own_bits ⟨nl, hnl⟩).1.mp c435))).2 (XS.iload X132.here hx rfl (hb hby at_473) rfl (XS.iload X132.here hx rfl (hb hby at_475) rfl (XS.icmpNo X132.here hx rfl (hb hby at_477) rfl (teq (by show own_bit _ = _; rw [g_u_2]; exact if_neg (mt (own_bits ⟨nl, hnl⟩).2.mp c456))).2 kq)))))))))) ?_
          refine own_to T132 (mkF m 485 #[.val (.int i0), .val (.int i1), .val (.int i2), .val (.int (Int32.ofNat nl)), .val (.int (0 : Int32)), .val (.int (1 : Int32)), .val (.int (Int32.ofNat (u))), .val (.ref b65), .val (.int (Int32.ofNat (u + 13))), .val (.ref b98), .val (.int (own_bit ((f96 (u + 1 + 0)) &&& ((1 : Int32) <<< ((Int32.ofNat (7) &&& (7 : Int32)) &&& 31))))), .val (.int (own_bit ((f96 (u + 1 + 1)) &&& ((1 : Int32) <<< ((Int32.ofNat (8) &&& (7 : Int32)) &&& 31))))), .val (.int (1 : Int32)), .val (.int (1 : Int32))] [(.int (1 : Int32))]) (fun tq kq => XS.iconst X132.here hx rfl (hb hby at_480) (XS.goto X132.here hx rfl (pc0 := 481) (pc' := 485) rfl (hb hby at_481) (by decide) (by decide) kq)) ?_
          exact own_retZ X132 hx hret hlk (hb hby at_485) (by decide) (by decide) (Or.inr rfl) ⟨rfl, N132⟩
    · skip
      refine own_to s₁ (mkF m 41 #[.val (.int i0), .val (.int i1), .val (.int i2), .val (.int (Int32.ofNat nl)), .val (.int (1 : Int32)), .val (.int (0 : Int32)), .unset, .unset, .unset, .unset, .unset, .unset, .unset, .unset] [(.int (((i1.toUInt32 >>> ((2 : Int32) &&& 31).toUInt32).toInt32) &&& (3 : Int32)))]) (fun tq kq => XS.iloadN X0.here hx rfl (hb hby at_36) rfl (XS.iconst X0.here hx rfl (hb hby at_37) (XS.iushr X0.here hx rfl (hb hby at_38) rfl (XS.iconst X0.here hx rfl (hb hby at_39) (XS.iand X0.here hx rfl (hb hby at_40) rfl kq))))) ?_
      obtain ⟨u, hu, hs6⟩ := own_small ((i1.toUInt32 >>> ((2 : Int32) &&& 31).toUInt32).toInt32) (3 : Int32) 3 rfl (by decide)
      rw [hs6]
      have hu4 : u < 4 := by omega
      refine own_to s₁ (mkF m 45 #[.val (.int i0), .val (.int i1), .val (.int i2), .val (.int (Int32.ofNat nl)), .val (.int (1 : Int32)), .val (.int (0 : Int32)), .val (.int (Int32.ofNat (u))), .unset, .unset, .unset, .unset, .unset, .unset, .unset] [(.int (20 : Int32))]) (fun tq kq => XS.istore X0.here hx rfl (hb hby at_41) rfl (l' := #[.val (.int i0), .val (.int i1), .val (.int i2), .val (.int (Int32.ofNat nl)), .val (.int (1 : Int32)), .val (.int (0 : Int32)), .val (.int (Int32.ofNat (u))), .unset, .unset, .unset, .unset, .unset, .unset, .unset]) rfl (XS.bipush X0.here hx rfl (hb hby at_43) kq)) ?_
      obtain ⟨T133, h133, k133, X133, e133, E133, A133, st133⟩ := newP X0 hx hZ (own_w hw 0 rfl) e0 (g := (mkF m 45 #[.val (.int i0), .val (.int i1), .val (.int i2), .val (.int (Int32.ofNat nl)), .val (.int (1 : Int32)), .val (.int (0 : Int32)), .val (.int (Int32.ofNat (u))), .unset, .unset, .unset, .unset, .unset, .unset, .unset] [(.int (20 : Int32))])) rfl (hb hby at_45) rfl (by decide) (cap := 20) (by decide) (by decide) (by decide) (by decide)
      obtain ⟨b133, g133⟩ : ∃ z, z = h0.size := ⟨_, rfl⟩
      rw [← g133] at A133 st133
      have sz133 : n0 ≤ b133 := Nat.le_trans Z0 (Nat.le_of_eq g133.symm)
      have Zs133 : n0 ≤ h133.size := Nat.le_trans Z0 E133.1
      have V133 : BArr Z h133 b133 20 (fun _ => 0) := BArr.new A133 (by decide)
      refine own_to T133 (mkF m 54 #[.val (.int i0), .val (.int i1), .val (.int i2), .val (.int (Int32.ofNat nl)), .val (.int (1 : Int32)), .val (.int (0 : Int32)), .val (.int (Int32.ofNat (u))), .val (.ref b133), .unset, .unset, .unset, .unset, .unset, .unset] [(.int (i2.toInt8.toInt32)), (.int (0 : Int32)), (.ref b133)]) (fun tq kq => st133 _ (XS.astore X133.here hx rfl (hb hby at_47) rfl rfl (l' := #[.val (.int i0), .val (.int i1), .val (.int i2), .val (.int (Int32.ofNat nl)), .val (.int (1 : Int32)), .val (.int (0 : Int32)), .val (.int (Int32.ofNat (u))), .val (.ref b133), .unset, .unset, .unset, .unset, .unset, .unset]) rfl (XS.aload X133.here hx rfl (hb hby at_49) rfl rfl (XS.iconst X133.here hx rfl (hb hby at_51) (XS.iloadN X133.here hx rfl (hb hby at_52) rfl (XS.i2b X133.here hx rfl (hb hby at_53) rfl kq)))))) ?_
      obtain ⟨co135, Aro135, hszo135, hato135⟩ := id V133
      obtain ⟨T134, h134, X134, e134, W134, st134⟩ := stB X133 hx hZ e133 Aro135 (j := (0 : Int32)) (by rw [hszo135]; decide) (g := (mkF m 54 #[.val (.int i0), .val (.int i1), .val (.int i2), .val (.int (Int32.ofNat nl)), .val (.int (1 : Int32)), .val (.int (0 : Int32)), .val (.int (Int32.ofNat (u))), .val (.ref b133), .unset, .unset, .unset, .unset, .unset, .unset] [(.int (i2.toInt8.toInt32)), (.int (0 : Int32)), (.ref b133)])) rfl rfl (hb hby at_54)
      have N134 := Fr.snoc X134 (Fr.nil n0) sz133
      have Zs134 : n0 ≤ h134.size := by rw [W134.size]; exact Zs133
      have V134 := BArr.set Aro135 hszo135 hato135 W134 (by decide : ((0 : Int32)).toNatClampNeg = 0)
      obtain ⟨f134, hf134⟩ : ∃ f', f' = own_upd (fun _ => 0) (0) ((i2.toInt8.toInt32).toInt8.toInt32) := ⟨_, rfl⟩
      rw [← hf134] at V134
      refine own_to T134 (mkF m 63 #[.val (.int i0), .val (.int i1), .val (.int i2), .val (.int (Int32.ofNat nl)), .val (.int (1 : Int32)), .val (.int (0 : Int32)), .val (.int (Int32.ofNat (u))), .val (.ref b133), .unset, .unset, .unset, .unset, .unset, .unset] [(.int (((i2.toUInt32 >>> ((8 : Int32) &&& 31).toUInt32).toInt32).toInt8.toInt32)), (.int (1 : Int32)), (.ref b133)]) (fun tq kq => st134 _ (XS.aload X134.here hx rfl (hb hby at_55) rfl rfl (XS.iconst X134.here hx rfl (hb hby at_57) (XS.iloadN X134.here hx rfl (hb hby at_58) rfl (XS.bipush X134.here hx rfl (hb hby at_59) (XS.iushr X134.here hx rfl (hb hby at_61) rfl (XS.i2b X134.here hx rfl (hb hby at_62) rfl kq))))))) ?_
      obtain ⟨co137, Aro137, hszo137, hato137⟩ := id V134
      obtain ⟨T136, h136, X136, e136, W136, st136⟩ := stB X134 hx hZ e134 Aro137 (j := (1 : Int32)) (by rw [hszo137]; decide) (g := (mkF m 63 #[.val (.int i0), .val (.int i1), .val (.int i2), .val (.int (Int32.ofNat nl)), .val (.int (1 : Int32)), .val (.int (0 : Int32)), .val (.int (Int32.ofNat (u))), .val (.ref b133), .unset, .unset, .unset, .unset, .unset, .unset] [(.int (((i2.toUInt32 >>> ((8 : Int32) &&& 31).toUInt32).toInt32).toInt8.toInt32)), (.int (1 : Int32)), (.ref b133)])) rfl rfl (hb hby at_63)
      have N136 := Fr.snoc X136 N134 sz133
      have Zs136 : n0 ≤ h136.size := by rw [W136.size]; exact Zs134
      have V136 := BArr.set Aro137 hszo137 hato137 W136 (by decide : ((1 : Int32)).toNatClampNeg = 1)
      obtain ⟨f136, hf136⟩ : ∃ f', f' = own_upd f134 (1) ((((i2.toUInt32 >>> ((8 : Int32) &&& 31).toUInt32).toInt32).toInt8.toInt32).toInt8.toInt32) := ⟨_, rfl⟩
      rw [← hf136] at V136
      refine own_to T136 (mkF m 72 #[.val (.int i0), .val (.int i1), .val (.int i2), .val (.int (Int32.ofNat nl)), .val (.int (1 : Int32)), .val (.int (0 : Int32)), .val (.int (Int32.ofNat (u))), .val (.ref b133), .unset, .unset, .unset, .unset, .unset, .unset] [(.int (((i2.toUInt32 >>> ((16 : Int32) &&& 31).toUInt32).toInt32).toInt8.toInt32)), (.int (2 : Int32)), (.ref b133)]) (fun tq kq => st136 _ (XS.aload X136.here hx rfl (hb hby at_64) rfl rfl (XS.iconst X136.here hx rfl (hb hby at_66) (XS.iloadN X136.here hx rfl (hb hby at_67) rfl (XS.bipush X136.here hx rfl (hb hby at_68) (XS.iushr X136.here hx rfl (hb hby at_70) rfl (XS.i2b X136.here hx rfl (hb hby at_71) rfl kq))))))) ?_
      obtain ⟨co139, Aro139, hszo139, hato139⟩ := id V136
      obtain ⟨T138, h138, X138, e138, W138, st138⟩ := stB X136 hx hZ e136 Aro139 (j := (2 : Int32)) (by rw [hszo139]; decide) (g := (mkF m 72 #[.val (.int i0), .val (.int i1), .val (.int i2), .val (.int (Int32.ofNat nl)), .val (.int (1 : Int32)), .val (.int (0 : Int32)), .val (.int (Int32.ofNat (u))), .val (.ref b133), .unset, .unset, .unset, .unset, .unset, .unset] [(.int (((i2.toUInt32 >>> ((16 : Int32) &&& 31).toUInt32).toInt32).toInt8.toInt32)), (.int (2 : Int32)), (.ref b133)])) rfl rfl (hb hby at_72)
      have N138 := Fr.snoc X138 N136 sz133
      have Zs138 : n0 ≤ h138.size := by rw [W138.size]; exact Zs136
      have V138 := BArr.set Aro139 hszo139 hato139 W138 (by decide : ((2 : Int32)).toNatClampNeg = 2)
      obtain ⟨f138, hf138⟩ : ∃ f', f' = own_upd f136 (2) ((((i2.toUInt32 >>> ((16 : Int32) &&& 31).toUInt32).toInt32).toInt8.toInt32).toInt8.toInt32) := ⟨_, rfl⟩
      rw [← hf138] at V138
      refine own_to T138 (mkF m 93 #[.val (.int i0), .val (.int i1), .val (.int i2), .val (.int (Int32.ofNat nl)), .val (.int (1 : Int32)), .val (.int (0 : Int32)), .val (.int (Int32.ofNat (u))), .val (.ref b133), .val (.int (Int32.ofNat (u))), .unset, .unset, .unset, .unset, .unset] [(.int (1 : Int32)), (.int (36 : Int32)), (.int (Int32.ofNat (u))), (.ref b133)]) (fun tq kq => st138 _ (XS.iload X138.here hx rfl (hb hby at_73) rfl (XS.istore X138.here hx rfl (hb hby at_75) rfl (l' := #[.val (.int i0), .val (.int i1), .val (.int i2), .val (.int (Int32.ofNat nl)), .val (.int (1 : Int32)), .val (.int (0 : Int32)), .val (.int (Int32.ofNat (u))), .val (.ref b133), .val (.int (Int32.ofNat (u))), .unset, .unset, .unset, .unset, .unset]) rfl (XS.aload X138.here hx rfl (hb hby at_77) rfl rfl (XS.iload X138.here hx rfl (hb hby at_79) rfl (XS.bipush X138.here hx rfl (hb hby at_81) (XS.iload X138.here hx rfl (hb hby at_83) rfl (XS.ifNo X138.here hx rfl (hb hby at_85) rfl ((if0 _ _).trans (feq (by decide : ¬ ((1 : Int32) = (0 : Int32)))).1) (XS.iconst X138.here hx rfl (hb hby at_88) (XS.goto X138.here hx rfl (pc0 := 89) (pc' := 93) rfl (hb hby at_89) (by decide) (by decide) kq)))))))))) ?_
      refine own_to T138 (mkF m 106 #[.val (.int i0), .val (.int i1), .val (.int i2), .val (.int (Int32.ofNat nl)), .val (.int (1 : Int32)), .val (.int (0 : Int32)), .val (.int (Int32.ofNat (u))), .val (.ref b133), .val (.int (Int32.ofNat (u))), .unset, .unset, .unset, .unset, .unset] [(.int ((((36 : Int32) ||| (1 : Int32)) ||| (0 : Int32)).toInt8.toInt32)), (.int (Int32.ofNat (u))), (.ref b133)]) (fun tq kq => XS.ior X138.here hx rfl (hb hby at_93) rfl (XS.iload X138.here hx rfl (hb hby at_94) rfl (XS.ifYes X138.here hx rfl (pc0 := 96) (pc' := 103) rfl (hb hby at_96) rfl ((if0 _ _).trans (teq (by decide : (0 : Int32) = (0 : Int32))).1) (by decide) (by decide) (XS.iconst X138.here hx rfl (hb hby at_103) (XS.ior X138.here hx rfl (hb hby at_104) rfl (XS.i2b X138.here hx rfl (hb hby at_105) rfl kq)))))) ?_
      rw [show ((((36 : Int32) ||| (1 : Int32)) ||| (0 : Int32)).toInt8.toInt32) = (37 : Int32) from by decide]
      obtain ⟨co141, Aro141, hszo141, hato141⟩ := id V138
      obtain ⟨T140, h140, X140, e140, W140, st140⟩ := stB X138 hx hZ e138 Aro141 (j := (Int32.ofNat (u))) (by rw [hszo141]; exact within rfl (show u < 20 by omega) (by decide)) (g := (mkF m 106 #[.val (.int i0), .val (.int i1), .val (.int i2), .val (.int (Int32.ofNat nl)), .val (.int (1 : Int32)), .val (.int (0 : Int32)), .val (.int (Int32.ofNat (u))), .val (.ref b133), .val (.int (Int32.ofNat (u))), .unset, .unset, .unset, .unset, .unset] [(.int (37 : Int32)), (.int (Int32.ofNat (u))), (.ref b133)])) rfl rfl (hb hby at_106)
      have N140 := Fr.snoc X140 N138 sz133
      have Zs140 : n0 ≤ h140.size := by rw [W140.size]; exact Zs138
      have V140 := BArr.set Aro141 hszo141 hato141 W140 (clamp_of rfl (by omega) : ((Int32.ofNat (u))).toNatClampNeg = u)
      obtain ⟨f140, hf140⟩ : ∃ f', f' = own_upd f138 (u) ((37 : Int32).toInt8.toInt32) := ⟨_, rfl⟩
      rw [← hf140] at V140
      refine own_to T140 (mkF m 111 #[.val (.int i0), .val (.int i1), .val (.int i2), .val (.int (Int32.ofNat nl)), .val (.int (1 : Int32)), .val (.int (0 : Int32)), .val (.int (Int32.ofNat (u))), .val (.ref b133), .val (.int (Int32.ofNat (u))), .unset, .unset, .unset, .unset, .unset] [(.int ((Int32.ofNat (u)) + (1 : Int32)))]) (fun tq kq => st140 _ (XS.iload X140.here hx rfl (hb hby at_107) rfl (XS.iconst X140.here hx rfl (hb hby at_109) (XS.iadd X140.here hx rfl (hb hby at_110) rfl kq)))) ?_
      rw [show ((Int32.ofNat (u)) + (1 : Int32)) = (Int32.ofNat (u + 1)) from own_addn (u) 1 (by omega) (by decide)]
      refine own_to T140 (mkF m 124 #[.val (.int i0), .val (.int i1), .val (.int i2), .val (.int (Int32.ofNat nl)), .val (.int (1 : Int32)), .val (.int (0 : Int32)), .val (.int (Int32.ofNat (u))), .val (.ref b133), .val (.int (Int32.ofNat (u + 1))), .unset, .unset, .unset, .unset, .unset] [(.int (8 : Int32)), (.int (Int32.ofNat (u + 1))), (.ref b133)]) (fun tq kq => XS.istore X140.here hx rfl (hb hby at_111) rfl (l' := #[.val (.int i0), .val (.int i1), .val (.int i2), .val (.int (Int32.ofNat nl)), .val (.int (1 : Int32)), .val (.int (0 : Int32)), .val (.int (Int32.ofNat (u))), .val (.ref b133), .val (.int (Int32.ofNat (u + 1))), .unset, .unset, .unset, .unset, .unset]) rfl (XS.iload X140.here hx rfl (hb hby at_113) rfl (XS.ifNo X140.here hx rfl (hb hby at_115) rfl ((if0 _ _).trans (feq (by decide : ¬ ((1 : Int32) = (0 : Int32)))).1) (XS.aload X140.here hx rfl (hb hby at_118) rfl rfl (XS.iload X140.here hx rfl (hb hby at_120) rfl (XS.bipush X140.here hx rfl (hb hby at_122) kq)))))) ?_
      obtain ⟨co143, Aro143, hszo143, hato143⟩ := id V140
      obtain ⟨T142, h142, X142, e142, W142, st142⟩ := stB X140 hx hZ e140 Aro143 (j := (Int32.ofNat (u + 1))) (by rw [hszo143]; exact within rfl (show u + 1 < 20 by omega) (by decide)) (g := (mkF m 124 #[.val (.int i0), .val (.int i1), .val (.int i2), .val (.int (Int32.ofNat nl)), .val (.int (1 : Int32)), .val (.int (0 : Int32)), .val (.int (Int32.ofNat (u))), .val (.ref b133), .val (.int (Int32.ofNat (u + 1))), .unset, .unset, .unset, .unset, .unset] [(.int (8 : Int32)), (.int (Int32.ofNat (u + 1))), (.ref b133)])) rfl rfl (hb hby at_124)
      have N142 := Fr.snoc X142 N140 sz133
      have Zs142 : n0 ≤ h142.size := by rw [W142.size]; exact Zs140
      have V142 := BArr.set Aro143 hszo143 hato143 W142 (clamp_of rfl (by omega) : ((Int32.ofNat (u + 1))).toNatClampNeg = u + 1)
      obtain ⟨f142, hf142⟩ : ∃ f', f' = own_upd f140 (u + 1) ((8 : Int32).toInt8.toInt32) := ⟨_, rfl⟩
      rw [← hf142] at V142
      refine own_to T142 (mkF m 129 #[.val (.int i0), .val (.int i1), .val (.int i2), .val (.int (Int32.ofNat nl)), .val (.int (1 : Int32)), .val (.int (0 : Int32)), .val (.int (Int32.ofNat (u))), .val (.ref b133), .val (.int (Int32.ofNat (u + 1))), .unset, .unset, .unset, .unset, .unset] [(.int ((Int32.ofNat (u + 1)) + (1 : Int32)))]) (fun tq kq => st142 _ (XS.iload X142.here hx rfl (hb hby at_125) rfl (XS.iconst X142.here hx rfl (hb hby at_127) (XS.iadd X142.here hx rfl (hb hby at_128) rfl kq)))) ?_
      rw [show ((Int32.ofNat (u + 1)) + (1 : Int32)) = (Int32.ofNat (u + 2)) from own_addn (u + 1) 1 (by omega) (by decide)]
      refine own_to T142 (mkF m 172 #[.val (.int i0), .val (.int i1), .val (.int i2), .val (.int (Int32.ofNat nl)), .val (.int (1 : Int32)), .val (.int (0 : Int32)), .val (.int (Int32.ofNat (u))), .val (.ref b133), .val (.int (Int32.ofNat (u + 2))), .unset, .unset, .unset, .unset, .unset] [(.int (44 : Int32)), (.int (Int32.ofNat (u + 2))), (.ref b133)]) (fun tq kq => XS.istore X142.here hx rfl (hb hby at_129) rfl (l' := #[.val (.int i0), .val (.int i1), .val (.int i2), .val (.int (Int32.ofNat nl)), .val (.int (1 : Int32)), .val (.int (0 : Int32)), .val (.int (Int32.ofNat (u))), .val (.ref b133), .val (.int (Int32.ofNat (u + 2))), .unset, .unset, .unset, .unset, .unset]) rfl (XS.iload X142.here hx rfl (hb hby at_131) rfl (XS.ifYes X142.here hx rfl (pc0 := 133) (pc' := 161) rfl (hb hby at_133) rfl ((if0 _ _).trans (teq (by decide : (0 : Int32) = (0 : Int32))).1) (by decide) (by decide) (XS.iload X142.here hx rfl (hb hby at_161) rfl (XS.ifNo X142.here hx rfl (hb hby at_163) rfl ((if0 _ _).trans (feq (by decide : ¬ ((1 : Int32) = (0 : Int32)))).1) (XS.aload X142.here hx rfl (hb hby at_166) rfl rfl (XS.iload X142.here hx rfl (hb hby at_168) rfl (XS.bipush X142.here hx rfl (hb hby at_170) kq)))))))) ?_
      obtain ⟨co145, Aro145, hszo145, hato145⟩ := id V142
      obtain ⟨T144, h144, X144, e144, W144, st144⟩ := stB X142 hx hZ e142 Aro145 (j := (Int32.ofNat (u + 2))) (by rw [hszo145]; exact within rfl (show u + 2 < 20 by omega) (by decide)) (g := (mkF m 172 #[.val (.int i0), .val (.int i1), .val (.int i2), .val (.int (Int32.ofNat nl)), .val (.int (1 : Int32)), .val (.int (0 : Int32)), .val (.int (Int32.ofNat (u))), .val (.ref b133), .val (.int (Int32.ofNat (u + 2))), .unset, .unset, .unset, .unset, .unset] [(.int (44 : Int32)), (.int (Int32.ofNat (u + 2))), (.ref b133)])) rfl rfl (hb hby at_172)
      have N144 := Fr.snoc X144 N142 sz133
      have Zs144 : n0 ≤ h144.size := by rw [W144.size]; exact Zs142
      have V144 := BArr.set Aro145 hszo145 hato145 W144 (clamp_of rfl (by omega) : ((Int32.ofNat (u + 2))).toNatClampNeg = u + 2)
      obtain ⟨f144, hf144⟩ : ∃ f', f' = own_upd f142 (u + 2) ((44 : Int32).toInt8.toInt32) := ⟨_, rfl⟩
      rw [← hf144] at V144
      refine own_to T144 (mkF m 179 #[.val (.int i0), .val (.int i1), .val (.int i2), .val (.int (Int32.ofNat nl)), .val (.int (1 : Int32)), .val (.int (0 : Int32)), .val (.int (Int32.ofNat (u))), .val (.ref b133), .val (.int (Int32.ofNat (u + 2))), .unset, .unset, .unset, .unset, .unset] [(.int ((Int32.ofNat (u + 2)) + (1 : Int32))), (.ref b133)]) (fun tq kq => st144 _ (XS.aload X144.here hx rfl (hb hby at_173) rfl rfl (XS.iload X144.here hx rfl (hb hby at_175) rfl (XS.iconst X144.here hx rfl (hb hby at_177) (XS.iadd X144.here hx rfl (hb hby at_178) rfl kq))))) ?_
      rw [show ((Int32.ofNat (u + 2)) + (1 : Int32)) = (Int32.ofNat (u + 3)) from own_addn (u + 2) 1 (by omega) (by decide)]
      refine own_to T144 (mkF m 181 #[.val (.int i0), .val (.int i1), .val (.int i2), .val (.int (Int32.ofNat nl)), .val (.int (1 : Int32)), .val (.int (0 : Int32)), .val (.int (Int32.ofNat (u))), .val (.ref b133), .val (.int (Int32.ofNat (u + 2))), .unset, .unset, .unset, .unset, .unset] [(.int (44 : Int32)), (.int (Int32.ofNat (u + 3))), (.ref b133)]) (fun tq kq => XS.bipush X144.here hx rfl (hb hby at_179) kq) ?_
      obtain ⟨co147, Aro147, hszo147, hato147⟩ := id V144
      obtain ⟨T146, h146, X146, e146, W146, st146⟩ := stB X144 hx hZ e144 Aro147 (j := (Int32.ofNat (u + 3))) (by rw [hszo147]; exact within rfl (show u + 3 < 20 by omega) (by decide)) (g := (mkF m 181 #[.val (.int i0), .val (.int i1), .val (.int i2), .val (.int (Int32.ofNat nl)), .val (.int (1 : Int32)), .val (.int (0 : Int32)), .val (.int (Int32.ofNat (u))), .val (.ref b133), .val (.int (Int32.ofNat (u + 2))), .unset, .unset, .unset, .unset, .unset] [(.int (44 : Int32)), (.int (Int32.ofNat (u + 3))), (.ref b133)])) rfl rfl (hb hby at_181)
      have N146 := Fr.snoc X146 N144 sz133
      have Zs146 : n0 ≤ h146.size := by rw [W146.size]; exact Zs144
      have V146 := BArr.set Aro147 hszo147 hato147 W146 (clamp_of rfl (by omega) : ((Int32.ofNat (u + 3))).toNatClampNeg = u + 3)
      obtain ⟨f146, hf146⟩ : ∃ f', f' = own_upd f144 (u + 3) ((44 : Int32).toInt8.toInt32) := ⟨_, rfl⟩
      rw [← hf146] at V146
      refine own_to T146 (mkF m 188 #[.val (.int i0), .val (.int i1), .val (.int i2), .val (.int (Int32.ofNat nl)), .val (.int (1 : Int32)), .val (.int (0 : Int32)), .val (.int (Int32.ofNat (u))), .val (.ref b133), .val (.int (Int32.ofNat (u + 2))), .unset, .unset, .unset, .unset, .unset] [(.int ((Int32.ofNat (u + 2)) + (2 : Int32))), (.ref b133)]) (fun tq kq => st146 _ (XS.aload X146.here hx rfl (hb hby at_182) rfl rfl (XS.iload X146.here hx rfl (hb hby at_184) rfl (XS.iconst X146.here hx rfl (hb hby at_186) (XS.iadd X146.here hx rfl (hb hby at_187) rfl kq))))) ?_
      rw [show ((Int32.ofNat (u + 2)) + (2 : Int32)) = (Int32.ofNat (u + 4)) from own_addn (u + 2) 2 (by omega) (by decide)]
      refine own_to T146 (mkF m 190 #[.val (.int i0), .val (.int i1), .val (.int i2), .val (.int (Int32.ofNat nl)), .val (.int (1 : Int32)), .val (.int (0 : Int32)), .val (.int (Int32.ofNat (u))), .val (.ref b133), .val (.int (Int32.ofNat (u + 2))), .unset, .unset, .unset, .unset, .unset] [(.int (44 : Int32)), (.int (Int32.ofNat (u + 4))), (.ref b133)]) (fun tq kq => XS.bipush X146.here hx rfl (hb hby at_188) kq) ?_
      obtain ⟨co149, Aro149, hszo149, hato149⟩ := id V146
      obtain ⟨T148, h148, X148, e148, W148, st148⟩ := stB X146 hx hZ e146 Aro149 (j := (Int32.ofNat (u + 4))) (by rw [hszo149]; exact within rfl (show u + 4 < 20 by omega) (by decide)) (g := (mkF m 190 #[.val (.int i0), .val (.int i1), .val (.int i2), .val (.int (Int32.ofNat nl)), .val (.int (1 : Int32)), .val (.int (0 : Int32)), .val (.int (Int32.ofNat (u))), .val (.ref b133), .val (.int (Int32.ofNat (u + 2))), .unset, .unset, .unset, .unset, .unset] [(.int (44 : Int32)), (.int (Int32.ofNat (u + 4))), (.ref b133)])) rfl rfl (hb hby at_190)
      have N148 := Fr.snoc X148 N146 sz133
      have Zs148 : n0 ≤ h148.size := by rw [W148.size]; exact Zs146
      have V148 := BArr.set Aro149 hszo149 hato149 W148 (clamp_of rfl (by omega) : ((Int32.ofNat (u + 4))).toNatClampNeg = u + 4)
      obtain ⟨f148, hf148⟩ : ∃ f', f' = own_upd f146 (u + 4) ((44 : Int32).toInt8.toInt32) := ⟨_, rfl⟩
      rw [← hf148] at V148
      refine own_to T148 (mkF m 197 #[.val (.int i0), .val (.int i1), .val (.int i2), .val (.int (Int32.ofNat nl)), .val (.int (1 : Int32)), .val (.int (0 : Int32)), .val (.int (Int32.ofNat (u))), .val (.ref b133), .val (.int (Int32.ofNat (u + 2))), .unset, .unset, .unset, .unset, .unset] [(.int ((Int32.ofNat (u + 2)) + (3 : Int32))), (.ref b133)]) (fun tq kq => st148 _ (XS.aload X148.here hx rfl (hb hby at_191) rfl rfl (XS.iload X148.here hx rfl (hb hby at_193) rfl (XS.iconst X148.here hx rfl (hb hby at_195) (XS.iadd X148.here hx rfl (hb hby at_196) rfl kq))))) ?_
      rw [show ((Int32.ofNat (u + 2)) + (3 : Int32)) = (Int32.ofNat (u + 5)) from own_addn (u + 2) 3 (by omega) (by decide)]
      refine own_to T148 (mkF m 199 #[.val (.int i0), .val (.int i1), .val (.int i2), .val (.int (Int32.ofNat nl)), .val (.int (1 : Int32)), .val (.int (0 : Int32)), .val (.int (Int32.ofNat (u))), .val (.ref b133), .val (.int (Int32.ofNat (u + 2))), .unset, .unset, .unset, .unset, .unset] [(.int (44 : Int32)), (.int (Int32.ofNat (u + 5))), (.ref b133)]) (fun tq kq => XS.bipush X148.here hx rfl (hb hby at_197) kq) ?_
      obtain ⟨co151, Aro151, hszo151, hato151⟩ := id V148
      obtain ⟨T150, h150, X150, e150, W150, st150⟩ := stB X148 hx hZ e148 Aro151 (j := (Int32.ofNat (u + 5))) (by rw [hszo151]; exact within rfl (show u + 5 < 20 by omega) (by decide)) (g := (mkF m 199 #[.val (.int i0), .val (.int i1), .val (.int i2), .val (.int (Int32.ofNat nl)), .val (.int (1 : Int32)), .val (.int (0 : Int32)), .val (.int (Int32.ofNat (u))), .val (.ref b133), .val (.int (Int32.ofNat (u + 2))), .unset, .unset, .unset, .unset, .unset] [(.int (44 : Int32)), (.int (Int32.ofNat (u + 5))), (.ref b133)])) rfl rfl (hb hby at_199)
      have N150 := Fr.snoc X150 N148 sz133
      have Zs150 : n0 ≤ h150.size := by rw [W150.size]; exact Zs148
      have V150 := BArr.set Aro151 hszo151 hato151 W150 (clamp_of rfl (by omega) : ((Int32.ofNat (u + 5))).toNatClampNeg = u + 5)
      obtain ⟨f150, hf150⟩ : ∃ f', f' = own_upd f148 (u + 5) ((44 : Int32).toInt8.toInt32) := ⟨_, rfl⟩
      rw [← hf150] at V150
      refine own_to T150 (mkF m 206 #[.val (.int i0), .val (.int i1), .val (.int i2), .val (.int (Int32.ofNat nl)), .val (.int (1 : Int32)), .val (.int (0 : Int32)), .val (.int (Int32.ofNat (u))), .val (.ref b133), .val (.int (Int32.ofNat (u + 2))), .unset, .unset, .unset, .unset, .unset] [(.int ((Int32.ofNat (u + 2)) + (4 : Int32))), (.ref b133)]) (fun tq kq => st150 _ (XS.aload X150.here hx rfl (hb hby at_200) rfl rfl (XS.iload X150.here hx rfl (hb hby at_202) rfl (XS.iconst X150.here hx rfl (hb hby at_204) (XS.iadd X150.here hx rfl (hb hby at_205) rfl kq))))) ?_
      rw [show ((Int32.ofNat (u + 2)) + (4 : Int32)) = (Int32.ofNat (u + 6)) from own_addn (u + 2) 4 (by omega) (by decide)]
      refine own_to T150 (mkF m 208 #[.val (.int i0), .val (.int i1), .val (.int i2), .val (.int (Int32.ofNat nl)), .val (.int (1 : Int32)), .val (.int (0 : Int32)), .val (.int (Int32.ofNat (u))), .val (.ref b133), .val (.int (Int32.ofNat (u + 2))), .unset, .unset, .unset, .unset, .unset] [(.int (44 : Int32)), (.int (Int32.ofNat (u + 6))), (.ref b133)]) (fun tq kq => XS.bipush X150.here hx rfl (hb hby at_206) kq) ?_
      obtain ⟨co153, Aro153, hszo153, hato153⟩ := id V150
      obtain ⟨T152, h152, X152, e152, W152, st152⟩ := stB X150 hx hZ e150 Aro153 (j := (Int32.ofNat (u + 6))) (by rw [hszo153]; exact within rfl (show u + 6 < 20 by omega) (by decide)) (g := (mkF m 208 #[.val (.int i0), .val (.int i1), .val (.int i2), .val (.int (Int32.ofNat nl)), .val (.int (1 : Int32)), .val (.int (0 : Int32)), .val (.int (Int32.ofNat (u))), .val (.ref b133), .val (.int (Int32.ofNat (u + 2))), .unset, .unset, .unset, .unset, .unset] [(.int (44 : Int32)), (.int (Int32.ofNat (u + 6))), (.ref b133)])) rfl rfl (hb hby at_208)
      have N152 := Fr.snoc X152 N150 sz133
      have Zs152 : n0 ≤ h152.size := by rw [W152.size]; exact Zs150
      have V152 := BArr.set Aro153 hszo153 hato153 W152 (clamp_of rfl (by omega) : ((Int32.ofNat (u + 6))).toNatClampNeg = u + 6)
      obtain ⟨f152, hf152⟩ : ∃ f', f' = own_upd f150 (u + 6) ((44 : Int32).toInt8.toInt32) := ⟨_, rfl⟩
      rw [← hf152] at V152
      refine own_to T152 (mkF m 215 #[.val (.int i0), .val (.int i1), .val (.int i2), .val (.int (Int32.ofNat nl)), .val (.int (1 : Int32)), .val (.int (0 : Int32)), .val (.int (Int32.ofNat (u))), .val (.ref b133), .val (.int (Int32.ofNat (u + 2))), .unset, .unset, .unset, .unset, .unset] [(.int ((Int32.ofNat (u + 2)) + (5 : Int32))), (.ref b133)]) (fun tq kq => st152 _ (XS.aload X152.here hx rfl (hb hby at_209) rfl rfl (XS.iload X152.here hx rfl (hb hby at_211) rfl (XS.iconst X152.here hx rfl (hb hby at_213) (XS.iadd X152.here hx rfl (hb hby at_214) rfl kq))))) ?_
      rw [show ((Int32.ofNat (u + 2)) + (5 : Int32)) = (Int32.ofNat (u + 7)) from own_addn (u + 2) 5 (by omega) (by decide)]
      refine own_to T152 (mkF m 217 #[.val (.int i0), .val (.int i1), .val (.int i2), .val (.int (Int32.ofNat nl)), .val (.int (1 : Int32)), .val (.int (0 : Int32)), .val (.int (Int32.ofNat (u))), .val (.ref b133), .val (.int (Int32.ofNat (u + 2))), .unset, .unset, .unset, .unset, .unset] [(.int (44 : Int32)), (.int (Int32.ofNat (u + 7))), (.ref b133)]) (fun tq kq => XS.bipush X152.here hx rfl (hb hby at_215) kq) ?_
      obtain ⟨co155, Aro155, hszo155, hato155⟩ := id V152
      obtain ⟨T154, h154, X154, e154, W154, st154⟩ := stB X152 hx hZ e152 Aro155 (j := (Int32.ofNat (u + 7))) (by rw [hszo155]; exact within rfl (show u + 7 < 20 by omega) (by decide)) (g := (mkF m 217 #[.val (.int i0), .val (.int i1), .val (.int i2), .val (.int (Int32.ofNat nl)), .val (.int (1 : Int32)), .val (.int (0 : Int32)), .val (.int (Int32.ofNat (u))), .val (.ref b133), .val (.int (Int32.ofNat (u + 2))), .unset, .unset, .unset, .unset, .unset] [(.int (44 : Int32)), (.int (Int32.ofNat (u + 7))), (.ref b133)])) rfl rfl (hb hby at_217)
      have N154 := Fr.snoc X154 N152 sz133
      have Zs154 : n0 ≤ h154.size := by rw [W154.size]; exact Zs152
      have V154 := BArr.set Aro155 hszo155 hato155 W154 (clamp_of rfl (by omega) : ((Int32.ofNat (u + 7))).toNatClampNeg = u + 7)
      obtain ⟨f154, hf154⟩ : ∃ f', f' = own_upd f152 (u + 7) ((44 : Int32).toInt8.toInt32) := ⟨_, rfl⟩
      rw [← hf154] at V154
      refine own_to T154 (mkF m 225 #[.val (.int i0), .val (.int i1), .val (.int i2), .val (.int (Int32.ofNat nl)), .val (.int (1 : Int32)), .val (.int (0 : Int32)), .val (.int (Int32.ofNat (u))), .val (.ref b133), .val (.int (Int32.ofNat (u + 2))), .unset, .unset, .unset, .unset, .unset] [(.int ((Int32.ofNat (u + 2)) + (6 : Int32))), (.ref b133)]) (fun tq kq => st154 _ (XS.aload X154.here hx rfl (hb hby at_218) rfl rfl (XS.iload X154.here hx rfl (hb hby at_220) rfl (XS.bipush X154.here hx rfl (hb hby at_222) (XS.iadd X154.here hx rfl (hb hby at_224) rfl kq))))) ?_
      rw [show ((Int32.ofNat (u + 2)) + (6 : Int32)) = (Int32.ofNat (u + 8)) from own_addn (u + 2) 6 (by omega) (by decide)]
      refine own_to T154 (mkF m 227 #[.val (.int i0), .val (.int i1), .val (.int i2), .val (.int (Int32.ofNat nl)), .val (.int (1 : Int32)), .val (.int (0 : Int32)), .val (.int (Int32.ofNat (u))), .val (.ref b133), .val (.int (Int32.ofNat (u + 2))), .unset, .unset, .unset, .unset, .unset] [(.int (44 : Int32)), (.int (Int32.ofNat (u + 8))), (.ref b133)]) (fun tq kq => XS.bipush X154.here hx rfl (hb hby at_225) kq) ?_
      obtain ⟨co157, Aro157, hszo157, hato157⟩ := id V154
      obtain ⟨T156, h156, X156, e156, W156, st156⟩ := stB X154 hx hZ e154 Aro157 (j := (Int32.ofNat (u + 8))) (by rw [hszo157]; exact within rfl (show u + 8 < 20 by omega) (by decide)) (g := (mkF m 227 #[.val (.int i0), .val (.int i1), .val (.int i2), .val (.int (Int32.ofNat nl)), .val (.int (1 : Int32)), .val (.int (0 : Int32)), .val (.int (Int32.ofNat (u))), .val (.ref b133), .val (.int (Int32.ofNat (u + 2))), .unset, .unset, .unset, .unset, .unset] [(.int (44 : Int32)), (.int (Int32.ofNat (u + 8))), (.ref b133)])) rfl rfl (hb hby at_227)
      have N156 := Fr.snoc X156 N154 sz133
      have Zs156 : n0 ≤ h156.size := by rw [W156.size]; exact Zs154
      have V156 := BArr.set Aro157 hszo157 hato157 W156 (clamp_of rfl (by omega) : ((Int32.ofNat (u + 8))).toNatClampNeg = u + 8)
      obtain ⟨f156, hf156⟩ : ∃ f', f' = own_upd f154 (u + 8) ((44 : Int32).toInt8.toInt32) := ⟨_, rfl⟩
      rw [← hf156] at V156
      refine own_to T156 (mkF m 235 #[.val (.int i0), .val (.int i1), .val (.int i2), .val (.int (Int32.ofNat nl)), .val (.int (1 : Int32)), .val (.int (0 : Int32)), .val (.int (Int32.ofNat (u))), .val (.ref b133), .val (.int (Int32.ofNat (u + 2))), .unset, .unset, .unset, .unset, .unset] [(.int ((Int32.ofNat (u + 2)) + (7 : Int32))), (.ref b133)]) (fun tq kq => st156 _ (XS.aload X156.here hx rfl (hb hby at_228) rfl rfl (XS.iload X156.here hx rfl (hb hby at_230) rfl (XS.bipush X156.here hx rfl (hb hby at_232) (XS.iadd X156.here hx rfl (hb hby at_234) rfl kq))))) ?_
      rw [show ((Int32.ofNat (u + 2)) + (7 : Int32)) = (Int32.ofNat (u + 9)) from own_addn (u + 2) 7 (by omega) (by decide)]
      refine own_to T156 (mkF m 237 #[.val (.int i0), .val (.int i1), .val (.int i2), .val (.int (Int32.ofNat nl)), .val (.int (1 : Int32)), .val (.int (0 : Int32)), .val (.int (Int32.ofNat (u))), .val (.ref b133), .val (.int (Int32.ofNat (u + 2))), .unset, .unset, .unset, .unset, .unset] [(.int (44 : Int32)), (.int (Int32.ofNat (u + 9))), (.ref b133)]) (fun tq kq => XS.bipush X156.here hx rfl (hb hby at_235) kq) ?_
      obtain ⟨co159, Aro159, hszo159, hato159⟩ := id V156
      obtain ⟨T158, h158, X158, e158, W158, st158⟩ := stB X156 hx hZ e156 Aro159 (j := (Int32.ofNat (u + 9))) (by rw [hszo159]; exact within rfl (show u + 9 < 20 by omega) (by decide)) (g := (mkF m 237 #[.val (.int i0), .val (.int i1), .val (.int i2), .val (.int (Int32.ofNat nl)), .val (.int (1 : Int32)), .val (.int (0 : Int32)), .val (.int (Int32.ofNat (u))), .val (.ref b133), .val (.int (Int32.ofNat (u + 2))), .unset, .unset, .unset, .unset, .unset] [(.int (44 : Int32)), (.int (Int32.ofNat (u + 9))), (.ref b133)])) rfl rfl (hb hby at_237)
      have N158 := Fr.snoc X158 N156 sz133
      have Zs158 : n0 ≤ h158.size := by rw [W158.size]; exact Zs156
      have V158 := BArr.set Aro159 hszo159 hato159 W158 (clamp_of rfl (by omega) : ((Int32.ofNat (u + 9))).toNatClampNeg = u + 9)
      obtain ⟨f158, hf158⟩ : ∃ f', f' = own_upd f156 (u + 9) ((44 : Int32).toInt8.toInt32) := ⟨_, rfl⟩
      rw [← hf158] at V158
      refine own_to T158 (mkF m 243 #[.val (.int i0), .val (.int i1), .val (.int i2), .val (.int (Int32.ofNat nl)), .val (.int (1 : Int32)), .val (.int (0 : Int32)), .val (.int (Int32.ofNat (u))), .val (.ref b133), .val (.int (Int32.ofNat (u + 2))), .unset, .unset, .unset, .unset, .unset] [(.int ((Int32.ofNat (u + 2)) + (8 : Int32)))]) (fun tq kq => st158 _ (XS.iload X158.here hx rfl (hb hby at_238) rfl (XS.bipush X158.here hx rfl (hb hby at_240) (XS.iadd X158.here hx rfl (hb hby at_242) rfl kq)))) ?_
      rw [show ((Int32.ofNat (u + 2)) + (8 : Int32)) = (Int32.ofNat (u + 10)) from own_addn (u + 2) 8 (by omega) (by decide)]
      refine own_to T158 (mkF m 338 #[.val (.int i0), .val (.int i1), .val (.int i2), .val (.int (Int32.ofNat nl)), .val (.int (1 : Int32)), .val (.int (0 : Int32)), .val (.int (Int32.ofNat (u))), .val (.ref b133), .val (.int (Int32.ofNat (u + 10))), .unset, .unset, .unset, .unset, .unset] []) (fun tq kq => XS.istore X158.here hx rfl (hb hby at_243) rfl (l' := #[.val (.int i0), .val (.int i1), .val (.int i2), .val (.int (Int32.ofNat nl)), .val (.int (1 : Int32)), .val (.int (0 : Int32)), .val (.int (Int32.ofNat (u))), .val (.ref b133), .val (.int (Int32.ofNat (u + 10))), .unset, .unset, .unset, .unset, .unset]) rfl (XS.goto X158.here hx rfl (pc0 := 245) (pc' := 338) rfl (hb hby at_245) (by decide) (by decide) kq)) ?_
      obtain ⟨T160, h160, X160, e160, E160, A160, D160, -, st160⟩ := newO X158 hx hZ hown (own_w hw 1 rfl) (own_w hw 2 rfl) (own_w hw 3 rfl) e158 (g := (mkF m 338 #[.val (.int i0), .val (.int i1), .val (.int i2), .val (.int (Int32.ofNat nl)), .val (.int (1 : Int32)), .val (.int (0 : Int32)), .val (.int (Int32.ofNat (u))), .val (.ref b133), .val (.int (Int32.ofNat (u + 10))), .unset, .unset, .unset, .unset, .unset] [])) rfl (hb hby at_338) (by decide) (by decide)
      obtain ⟨b160, g160⟩ : ∃ z, z = h158.size := ⟨_, rfl⟩
      rw [← g160] at A160 D160 st160
      have ne_b133_b160 : own_ne b133 b160 := Nat.ne_of_lt (Nat.lt_of_lt_of_le V158.lt (Nat.le_of_eq g160.symm))
      have f161 := V158.ext E160
      have sz160 : n0 ≤ b160 := Nat.le_trans Zs158 (Nat.le_of_eq g160.symm)
      have Zs160 : n0 ≤ h160.size := Nat.le_trans Zs158 E160.1
      have F160_packed : Fld Z h160 b160 "com/example/warmjoin/warmjoin/PackedFields$Cursor" "packed" "[B" .null := D160 (Or.inl (own_w hw 16 rfl)) (ty := (.array .byte)) (by decide)
      have F160_to : Fld Z h160 b160 "com/example/warmjoin/warmjoin/PackedFields$Cursor" "to" "I" (.int (0 : Int32)) := D160 (Or.inl (own_w hw 18 rfl)) (ty := .int) (by decide)
      have F160_at : Fld Z h160 b160 "com/example/warmjoin/warmjoin/PackedFields$Cursor" "at" "I" (.int (0 : Int32)) := D160 (Or.inl (own_w hw 20 rfl)) (ty := .int) (by decide)
      have F160_left : Fld Z h160 b160 "com/example/warmjoin/warmjoin/PackedFields$Cursor" "left" "I" (.int (0 : Int32)) := D160 (Or.inl (own_w hw 22 rfl)) (ty := .int) (by decide)
      have F160_text : Fld Z h160 b160 "com/example/warmjoin/warmjoin/PackedFields$Cursor" "text" "Z" (.int (0 : Int32)) := D160 (Or.inl (own_w hw 52 rfl)) (ty := .boolean) (by decide)
      have F160_textEnd : Fld Z h160 b160 "com/example/warmjoin/warmjoin/PackedFields$Cursor" "textEnd" "I" (.int (0 : Int32)) := D160 (Or.inl (own_w hw 57 rfl)) (ty := .int) (by decide)
      have F160_literals : Fld Z h160 b160 "com/example/warmjoin/warmjoin/PackedFields$Cursor" "literals" "I" (.int (0 : Int32)) := D160 (Or.inl (own_w hw 60 rfl)) (ty := .int) (by decide)
      have F160_index : Fld Z h160 b160 "com/example/warmjoin/warmjoin/PackedFields$Cursor" "index" "I" (.int (0 : Int32)) := D160 (Or.inl (own_w hw 62 rfl)) (ty := .int) (by decide)
      have F160_offset : Fld Z h160 b160 "com/example/warmjoin/warmjoin/PackedFields$Cursor" "offset" "I" (.int (0 : Int32)) := D160 (Or.inl (own_w hw 67 rfl)) (ty := .int) (by decide)
      have F160_length : Fld Z h160 b160 "com/example/warmjoin/warmjoin/PackedFields$Cursor" "length" "I" (.int (0 : Int32)) := D160 (Or.inl (own_w hw 69 rfl)) (ty := .int) (by decide)
      refine own_to T160 (mkF m 342 #[.val (.int i0), .val (.int i1), .val (.int i2), .val (.int (Int32.ofNat nl)), .val (.int (1 : Int32)), .val (.int (0 : Int32)), .val (.int (Int32.ofNat (u))), .val (.ref b133), .val (.int (Int32.ofNat (u + 10))), .unset, .unset, .unset, .unset, .unset] [(.ref b160), (.ref b160)]) (fun tq kq => st160 _ (XS.dup X160.here hx rfl (hb hby at_341) rfl rfl kq)) ?_
      obtain ⟨_, _, ⟨T162, L162, k162, n162⟩, -, X162, ⟨Lc162, hQ162, l162, y162, z162⟩, st162⟩ := X160.specialBack hx (y := (⟨"com/example/warmjoin/warmjoin/PackedFields$Cursor", "<init>", "()V"⟩ : MethodName)) rfl hown (mvT hZ (own_w hw 4 rfl)) (mvT hZ (own_w hw 5 rfl)) (mvT hZ (own_w hw 6 rfl)) (by decide) (backOf (W := 1) (rm_init l Z a0 hw [] b160 h160 n0 Zs160) hZ (own_w hw 6 rfl) (own_w hw 3 rfl) (by decide) (by decide)) (g := (mkF m 342 #[.val (.int i0), .val (.int i1), .val (.int i2), .val (.int (Int32.ofNat nl)), .val (.int (1 : Int32)), .val (.int (0 : Int32)), .val (.int (Int32.ofNat (u))), .val (.ref b133), .val (.int (Int32.ofNat (u + 10))), .unset, .unset, .unset, .unset, .unset] [(.ref b160), (.ref b160)])) rfl (by rw [hml]; rfl) (Steps.refl _) (a := b160) (argsL := []) (rest := [(.ref b160)]) (lenOf pd_0 rfl) rfl (by show 2 * 0 + _ ≤ _; exact Nat.le_of_eq rfl) (hb hby at_342) (fun _ _ => ⟨rfl, e160, (by decide : 2 + 0 ≤ _), (by decide : 30 + 0 ≤ _)⟩)
      dsimp only [Pt.U, Pt.locs, Pt.cells, Pt.slots] at X162 l162 y162 z162 st162 hQ162
      have l162y := l162.symm
      clear l162
      subst l162y
      obtain rfl : k162 = 2 := y162
      obtain rfl : n162 = 30 := z162
      obtain ⟨rfl, N162q, e162⟩ := hQ162
      have N162 := Fr.app N158 N162q
      refine own_to T162 (mkF m 351 #[.val (.int i0), .val (.int i1), .val (.int i2), .val (.int (Int32.ofNat nl)), .val (.int (1 : Int32)), .val (.int (0 : Int32)), .val (.int (Int32.ofNat (u))), .val (.ref b133), .val (.int (Int32.ofNat (u + 10))), .unset, .unset, .unset, .unset, .unset] [(.int (Int32.ofNat (u + 10))), (.int (Int32.ofNat (u))), (.ref b133), (.ref b160)]) (fun tq kq => st162.trans (XS.aload X162.here hx rfl (hb hby at_345) rfl rfl (XS.iload X162.here hx rfl (hb hby at_347) rfl (XS.iload X162.here hx rfl (hb hby at_349) rfl kq)))) ?_
      -- what the buffer holds
      have g_u : f158 (u) = (37 : Int32) := by simp [hf134, hf136, hf138, hf140, hf142, hf144, hf146, hf148, hf150, hf152, hf154, hf156, hf158, own_upd]; try decide
      have g_u_1 : f158 (u + 1) = (8 : Int32) := by simp [hf134, hf136, hf138, hf140, hf142, hf144, hf146, hf148, hf150, hf152, hf154, hf156, hf158, own_upd]; try decide
      have g_u_2 : f158 (u + 2) = (44 : Int32) := by simp [hf134, hf136, hf138, hf140, hf142, hf144, hf146, hf148, hf150, hf152, hf154, hf156, hf158, own_upd]; try decide
      have g_u_3 : f158 (u + 3) = (44 : Int32) := by simp [hf134, hf136, hf138, hf140, hf142, hf144, hf146, hf148, hf150, hf152, hf154, hf156, hf158, own_upd]; try decide
      have g_u_4 : f158 (u + 4) = (44 : Int32) := by simp [hf134, hf136, hf138, hf140, hf142, hf144, hf146, hf148, hf150, hf152, hf154, hf156, hf158, own_upd]; try decide
      have g_u_5 : f158 (u + 5) = (44 : Int32) := by simp [hf134, hf136, hf138, hf140, hf142, hf144, hf146, hf148, hf150, hf152, hf154, hf156, hf158, own_upd]; try decide
      have g_u_6 : f158 (u + 6) = (44 : Int32) := by simp [hf134, hf136, hf138, hf140, hf142, hf144, hf146, hf148, hf150, hf152, hf154, hf156, hf158, own_upd]; try decide
      have g_u_7 : f158 (u + 7) = (44 : Int32) := by simp [hf134, hf136, hf138, hf140, hf142, hf144, hf146, hf148, hf150, hf152, hf154, hf156, hf158, own_upd]; try decide
      have g_u_8 : f158 (u + 8) = (44 : Int32) := by simp [hf134, hf136, hf138, hf140, hf142, hf144, hf146, hf148, hf150, hf152, hf154, hf156, hf158, own_upd]; try decide
      have g_u_9 : f158 (u + 9) = (44 : Int32) := by simp [hf134, hf136, hf138, hf140, hf142, hf144, hf146, hf148, hf150, hf152, hf154, hf156, hf158, own_upd]; try decide
      obtain ⟨cq163, kq163, q163a, q163b, q163c⟩ := isOf hZ e162 A160
      obtain ⟨_, _, ⟨T163, L163, k163, n163⟩, -, X163, ⟨Lc163, hQ163, l163, y163, z163⟩, st163⟩ := X162.virtualBack hx (y := (⟨"com/example/warmjoin/warmjoin/PackedFields$Cursor", "over", "([BII)Lcom/example/warmjoin/warmjoin/PackedFields$Cursor;"⟩ : MethodName)) (z := (⟨"com/example/warmjoin/warmjoin/PackedFields$Cursor", "over", "([BII)Lcom/example/warmjoin/warmjoin/PackedFields$Cursor;"⟩ : MethodName)) hown (mvT hZ (own_w hw 10 rfl)) (mvT hZ (own_w hw 11 rfl)) (notFace_of_selects (args := #[]) (mvT hZ (own_w hw 13 rfl))) (mvT hZ (own_w hw 13 rfl)) (mvT hZ (own_w hw 12 rfl)) (by decide) (backOf (W := 0) (rm_over l Z a0 hw [] b160 b133 (Int32.ofNat (u)) (Int32.ofNat (u + 10)) h160 n0 Zs160 (show Cur Z h160 b160 .null (0 : Int32) (0 : Int32) (0 : Int32) (0 : Int32) (0 : Int32) (0 : Int32) (0 : Int32) (0 : Int32) (0 : Int32) from ⟨A160, F160_packed, F160_to, F160_at, F160_left, F160_text, F160_textEnd, F160_literals, F160_index, F160_offset, F160_length⟩) sz160) hZ (own_w hw 14 rfl) (own_w hw 3 rfl) (by decide) (by decide)) q163a q163c (g := (mkF m 351 #[.val (.int i0), .val (.int i1), .val (.int i2), .val (.int (Int32.ofNat nl)), .val (.int (1 : Int32)), .val (.int (0 : Int32)), .val (.int (Int32.ofNat (u))), .val (.ref b133), .val (.int (Int32.ofNat (u + 10))), .unset, .unset, .unset, .unset, .unset] [(.int (Int32.ofNat (u + 10))), (.int (Int32.ofNat (u))), (.ref b133), (.ref b160)])) rfl (by rw [hml]; rfl) (Steps.refl _) (argsL := [(.ref b133), (.int (Int32.ofNat (u))), (.int (Int32.ofNat (u + 10)))]) (rest := []) (lenOf pd_1 rfl) rfl (by show 2 * 0 + _ ≤ _; exact Nat.le_of_eq rfl) (hb hby at_351) (fun _ _ => ⟨rfl, e162, (by decide : 2 + 0 ≤ _), (by decide : 30 + 0 ≤ _)⟩)
      dsimp only [Pt.U, Pt.locs, Pt.cells, Pt.slots] at X163 l163 y163 z163 st163 hQ163
      have l163y := l163.symm
      clear l163
      subst l163y
      obtain rfl : k163 = 2 := y163
      obtain rfl : n163 = 30 := z163
      obtain ⟨rfl, N163q, K163q, U163⟩ := hQ163
      have N163 := Fr.app N162 N163q
      have f164 := f161.keep K163q (ninS ne_b133_b160 nin0)
      have f165 := A160.keep K163q
      have Zs163 : n0 ≤ T163.heap.size := Nat.le_trans Zs160 K163q.1
      refine own_to T163 (mkF m 358 #[.val (.int i0), .val (.int i1), .val (.int i2), .val (.int (Int32.ofNat nl)), .val (.int (1 : Int32)), .val (.int (0 : Int32)), .val (.int (Int32.ofNat (u))), .val (.ref b133), .val (.int (Int32.ofNat (u + 10))), .val (.ref b160), .unset, .unset, .unset, .unset] [(.ref b160)]) (fun tq kq => st163.trans (XS.astore X163.here hx rfl (hb hby at_354) rfl rfl (l' := #[.val (.int i0), .val (.int i1), .val (.int i2), .val (.int (Int32.ofNat nl)), .val (.int (1 : Int32)), .val (.int (0 : Int32)), .val (.int (Int32.ofNat (u))), .val (.ref b133), .val (.int (Int32.ofNat (u + 10))), .val (.ref b160), .unset, .unset, .unset, .unset]) rfl (XS.aload X163.here hx rfl (hb hby at_356) rfl rfl kq))) ?_
      obtain ⟨cq166, kq166, q166a, q166b, q166c⟩ := isOf hZ rfl f165
      obtain ⟨_, _, ⟨T166, L166, k166, n166⟩, -, X166, ⟨Lc166, hQ166, l166, y166, z166⟩, st166⟩ := X163.virtualBack hx (y := (⟨"com/example/warmjoin/warmjoin/PackedFields$Cursor", "next", "()Z"⟩ : MethodName)) (z := (⟨"com/example/warmjoin/warmjoin/PackedFields$Cursor", "next", "()Z"⟩ : MethodName)) hown (mvT hZ (own_w hw 23 rfl)) (mvT hZ (own_w hw 24 rfl)) (notFace_of_selects (args := #[]) (mvT hZ (own_w hw 26 rfl))) (mvT hZ (own_w hw 26 rfl)) (mvT hZ (own_w hw 25 rfl)) (by decide) (backOf (W := 0) (rm_next010 l Z a0 hw [] b160 b133 f158 u (u + 10) _ _ _ _ _ _ T163.heap n0 Zs163 U163 (Ne.symm ne_b133_b160) sz160 f164 hu4 (by omega) (by omega) (g_u.trans rfl) (g_u_1.trans rfl) (fun _ => g_u_2)) hZ (own_w hw 27 rfl) (own_w hw 3 rfl) (by decide) (by decide)) q166a q166c (g := (mkF m 358 #[.val (.int i0), .val (.int i1), .val (.int i2), .val (.int (Int32.ofNat nl)), .val (.int (1 : Int32)), .val (.int (0 : Int32)), .val (.int (Int32.ofNat (u))), .val (.ref b133), .val (.int (Int32.ofNat (u + 10))), .val (.ref b160), .unset, .unset, .unset, .unset] [(.ref b160)])) rfl (by rw [hml]; rfl) (Steps.refl _) (argsL := []) (rest := []) (lenOf pd_2 rfl) rfl (by show 2 * 0 + _ ≤ _; exact Nat.le_of_eq rfl) (hb hby at_358) (fun _ _ => ⟨rfl, rfl, (by decide : 2 + 0 ≤ _), (by decide : 30 + 0 ≤ _)⟩)
      dsimp only [Pt.U, Pt.locs, Pt.cells, Pt.slots] at X166 l166 y166 z166 st166 hQ166
      have l166y := l166.symm
      clear l166
      subst l166y
      obtain rfl : k166 = 2 := y166
      obtain rfl : n166 = 30 := z166
      obtain ⟨rfl, N166q, K166q, o166, l166, U166⟩ := hQ166
      have N166 := Fr.app N163 N166q
      have f167 := f164.keep K166q (ninS ne_b133_b160 nin0)
      have f168 := f165.keep K166q
      have Zs166 : n0 ≤ T166.heap.size := Nat.le_trans Zs163 K166q.1
      refine own_to T166 (mkF m 364 #[.val (.int i0), .val (.int i1), .val (.int i2), .val (.int (Int32.ofNat nl)), .val (.int (1 : Int32)), .val (.int (0 : Int32)), .val (.int (Int32.ofNat (u))), .val (.ref b133), .val (.int (Int32.ofNat (u + 10))), .val (.ref b160), .unset, .unset, .unset, .unset] [(.ref b160)]) (fun tq kq => st166.trans (XS.pop X166.here hx rfl (hb hby at_361) rfl rfl (XS.aload X166.here hx rfl (hb hby at_362) rfl rfl kq))) ?_
      obtain ⟨cq169, kq169, q169a, q169b, q169c⟩ := isOf hZ rfl f168
      obtain ⟨_, _, ⟨T169, L169, k169, n169⟩, -, X169, ⟨Lc169, hQ169, l169, y169, z169⟩, st169⟩ := X166.virtualBack hx (y := (⟨"com/example/warmjoin/warmjoin/PackedFields$Cursor", "next", "()Z"⟩ : MethodName)) (z := (⟨"com/example/warmjoin/warmjoin/PackedFields$Cursor", "next", "()Z"⟩ : MethodName)) hown (mvT hZ (own_w hw 23 rfl)) (mvT hZ (own_w hw 24 rfl)) (notFace_of_selects (args := #[]) (mvT hZ (own_w hw 26 rfl))) (mvT hZ (own_w hw 26 rfl)) (mvT hZ (own_w hw 25 rfl)) (by decide) (backOf (W := 0) (rm_next1T l Z a0 hw [] b160 b133 f158 (u + 3) 8 (u + 10) 0 _ _ _ _ T166.heap n0 Zs166 U166 (Ne.symm ne_b133_b160) sz160 f167 (by omega) (by omega) (by omega) (by omega) (by omega) (by omega) (fun _ => g_u_3)) hZ (own_w hw 27 rfl) (own_w hw 3 rfl) (by decide) (by decide)) q169a q169c (g := (mkF m 364 #[.val (.int i0), .val (.int i1), .val (.int i2), .val (.int (Int32.ofNat nl)), .val (.int (1 : Int32)), .val (.int (0 : Int32)), .val (.int (Int32.ofNat (u))), .val (.ref b133), .val (.int (Int32.ofNat (u + 10))), .val (.ref b160), .unset, .unset, .unset, .unset] [(.ref b160)])) rfl (by rw [hml]; rfl) (Steps.refl _) (argsL := []) (rest := []) (lenOf pd_2 rfl) rfl (by show 2 * 0 + _ ≤ _; exact Nat.le_of_eq rfl) (hb hby at_364) (fun _ _ => ⟨rfl, rfl, (by decide : 2 + 0 ≤ _), (by decide : 30 + 0 ≤ _)⟩)
      dsimp only [Pt.U, Pt.locs, Pt.cells, Pt.slots] at X169 l169 y169 z169 st169 hQ169
      have l169y := l169.symm
      clear l169
      subst l169y
      obtain rfl : k169 = 2 := y169
      obtain rfl : n169 = 30 := z169
      obtain ⟨rfl, N169q, K169q, o169, l169, U169⟩ := hQ169
      have N169 := Fr.app N166 N169q
      have f170 := f167.keep K169q (ninS ne_b133_b160 nin0)
      have f171 := f168.keep K169q
      have Zs169 : n0 ≤ T169.heap.size := Nat.le_trans Zs166 K169q.1
      refine own_to T169 (mkF m 370 #[.val (.int i0), .val (.int i1), .val (.int i2), .val (.int (Int32.ofNat nl)), .val (.int (1 : Int32)), .val (.int (0 : Int32)), .val (.int (Int32.ofNat (u))), .val (.ref b133), .val (.int (Int32.ofNat (u + 10))), .val (.ref b160), .unset, .unset, .unset, .unset] [(.ref b160)]) (fun tq kq => st169.trans (XS.pop X169.here hx rfl (hb hby at_367) rfl rfl (XS.aload X169.here hx rfl (hb hby at_368) rfl rfl kq))) ?_
      obtain ⟨cq172, kq172, q172a, q172b, q172c⟩ := isOf hZ rfl f171
      obtain ⟨_, _, ⟨T172, L172, k172, n172⟩, -, X172, ⟨Lc172, hQ172, l172, y172, z172⟩, st172⟩ := X169.virtualBack hx (y := (⟨"com/example/warmjoin/warmjoin/PackedFields$Cursor", "next", "()Z"⟩ : MethodName)) (z := (⟨"com/example/warmjoin/warmjoin/PackedFields$Cursor", "next", "()Z"⟩ : MethodName)) hown (mvT hZ (own_w hw 23 rfl)) (mvT hZ (own_w hw 24 rfl)) (notFace_of_selects (args := #[]) (mvT hZ (own_w hw 26 rfl))) (mvT hZ (own_w hw 26 rfl)) (mvT hZ (own_w hw 25 rfl)) (by decide) (backOf (W := 0) (rm_next1T l Z a0 hw [] b160 b133 f158 (u + 4) 7 (u + 10) 1 _ _ _ _ T169.heap n0 Zs169 U169 (Ne.symm ne_b133_b160) sz160 f170 (by omega) (by omega) (by omega) (by omega) (by omega) (by omega) (fun _ => g_u_4)) hZ (own_w hw 27 rfl) (own_w hw 3 rfl) (by decide) (by decide)) q172a q172c (g := (mkF m 370 #[.val (.int i0), .val (.int i1), .val (.int i2), .val (.int (Int32.ofNat nl)), .val (.int (1 : Int32)), .val (.int (0 : Int32)), .val (.int (Int32.ofNat (u))), .val (.ref b133), .val (.int (Int32.ofNat (u + 10))), .val (.ref b160), .unset, .unset, .unset, .unset] [(.ref b160)])) rfl (by rw [hml]; rfl) (Steps.refl _) (argsL := []) (rest := []) (lenOf pd_2 rfl) rfl (by show 2 * 0 + _ ≤ _; exact Nat.le_of_eq rfl) (hb hby at_370) (fun _ _ => ⟨rfl, rfl, (by decide : 2 + 0 ≤ _), (by decide : 30 + 0 ≤ _)⟩)
      dsimp only [Pt.U, Pt.locs, Pt.cells, Pt.slots] at X172 l172 y172 z172 st172 hQ172
      have l172y := l172.symm
      clear l172
      subst l172y
      obtain rfl : k172 = 2 := y172
      obtain rfl : n172 = 30 := z172
      obtain ⟨rfl, N172q, K172q, o172, l172, U172⟩ := hQ172
      have N172 := Fr.app N169 N172q
      have f173 := f170.keep K172q (ninS ne_b133_b160 nin0)
      have f174 := f171.keep K172q
      have Zs172 : n0 ≤ T172.heap.size := Nat.le_trans Zs169 K172q.1
      refine own_to T172 (mkF m 376 #[.val (.int i0), .val (.int i1), .val (.int i2), .val (.int (Int32.ofNat nl)), .val (.int (1 : Int32)), .val (.int (0 : Int32)), .val (.int (Int32.ofNat (u))), .val (.ref b133), .val (.int (Int32.ofNat (u + 10))), .val (.ref b160), .unset, .unset, .unset, .unset] [(.ref b160)]) (fun tq kq => st172.trans (XS.pop X172.here hx rfl (hb hby at_373) rfl rfl (XS.aload X172.here hx rfl (hb hby at_374) rfl rfl kq))) ?_
      obtain ⟨cq175, kq175, q175a, q175b, q175c⟩ := isOf hZ rfl f174
      obtain ⟨_, _, ⟨T175, L175, k175, n175⟩, -, X175, ⟨Lc175, hQ175, l175, y175, z175⟩, st175⟩ := X172.virtualBack hx (y := (⟨"com/example/warmjoin/warmjoin/PackedFields$Cursor", "next", "()Z"⟩ : MethodName)) (z := (⟨"com/example/warmjoin/warmjoin/PackedFields$Cursor", "next", "()Z"⟩ : MethodName)) hown (mvT hZ (own_w hw 23 rfl)) (mvT hZ (own_w hw 24 rfl)) (notFace_of_selects (args := #[]) (mvT hZ (own_w hw 26 rfl))) (mvT hZ (own_w hw 26 rfl)) (mvT hZ (own_w hw 25 rfl)) (by decide) (backOf (W := 0) (rm_next1T l Z a0 hw [] b160 b133 f158 (u + 5) 6 (u + 10) 2 _ _ _ _ T172.heap n0 Zs172 U172 (Ne.symm ne_b133_b160) sz160 f173 (by omega) (by omega) (by omega) (by omega) (by omega) (by omega) (fun _ => g_u_5)) hZ (own_w hw 27 rfl) (own_w hw 3 rfl) (by decide) (by decide)) q175a q175c (g := (mkF m 376 #[.val (.int i0), .val (.int i1), .val (.int i2), .val (.int (Int32.ofNat nl)), .val (.int (1 : Int32)), .val (.int (0 : Int32)), .val (.int (Int32.ofNat (u))), .val (.ref b133), .val (.int (Int32.ofNat (u + 10))), .val (.ref b160), .unset, .unset, .unset, .unset] [(.ref b160)])) rfl (by rw [hml]; rfl) (Steps.refl _) (argsL := []) (rest := []) (lenOf pd_2 rfl) rfl (by show 2 * 0 + _ ≤ _; exact Nat.le_of_eq rfl) (hb hby at_376) (fun _ _ => ⟨rfl, rfl, (by decide : 2 + 0 ≤ _), (by decide : 30 + 0 ≤ _)⟩)
      dsimp only [Pt.U, Pt.locs, Pt.cells, Pt.slots] at X175 l175 y175 z175 st175 hQ175
      have l175y := l175.symm
      clear l175
      subst l175y
      obtain rfl : k175 = 2 := y175
      obtain rfl : n175 = 30 := z175
      obtain ⟨rfl, N175q, K175q, o175, l175, U175⟩ := hQ175
      have N175 := Fr.app N172 N175q
      have f176 := f173.keep K175q (ninS ne_b133_b160 nin0)
      have f177 := f174.keep K175q
      have Zs175 : n0 ≤ T175.heap.size := Nat.le_trans Zs172 K175q.1
      refine own_to T175 (mkF m 382 #[.val (.int i0), .val (.int i1), .val (.int i2), .val (.int (Int32.ofNat nl)), .val (.int (1 : Int32)), .val (.int (0 : Int32)), .val (.int (Int32.ofNat (u))), .val (.ref b133), .val (.int (Int32.ofNat (u + 10))), .val (.ref b160), .unset, .unset, .unset, .unset] [(.ref b160)]) (fun tq kq => st175.trans (XS.pop X175.here hx rfl (hb hby at_379) rfl rfl (XS.aload X175.here hx rfl (hb hby at_380) rfl rfl kq))) ?_
      obtain ⟨cq178, kq178, q178a, q178b, q178c⟩ := isOf hZ rfl f177
      obtain ⟨_, _, ⟨T178, L178, k178, n178⟩, -, X178, ⟨Lc178, hQ178, l178, y178, z178⟩, st178⟩ := X175.virtualBack hx (y := (⟨"com/example/warmjoin/warmjoin/PackedFields$Cursor", "next", "()Z"⟩ : MethodName)) (z := (⟨"com/example/warmjoin/warmjoin/PackedFields$Cursor", "next", "()Z"⟩ : MethodName)) hown (mvT hZ (own_w hw 23 rfl)) (mvT hZ (own_w hw 24 rfl)) (notFace_of_selects (args := #[]) (mvT hZ (own_w hw 26 rfl))) (mvT hZ (own_w hw 26 rfl)) (mvT hZ (own_w hw 25 rfl)) (by decide) (backOf (W := 0) (rm_next1T l Z a0 hw [] b160 b133 f158 (u + 6) 5 (u + 10) 3 _ _ _ _ T175.heap n0 Zs175 U175 (Ne.symm ne_b133_b160) sz160 f176 (by omega) (by omega) (by omega) (by omega) (by omega) (by omega) (fun _ => g_u_6)) hZ (own_w hw 27 rfl) (own_w hw 3 rfl) (by decide) (by decide)) q178a q178c (g := (mkF m 382 #[.val (.int i0), .val (.int i1), .val (.int i2), .val (.int (Int32.ofNat nl)), .val (.int (1 : Int32)), .val (.int (0 : Int32)), .val (.int (Int32.ofNat (u))), .val (.ref b133), .val (.int (Int32.ofNat (u + 10))), .val (.ref b160), .unset, .unset, .unset, .unset] [(.ref b160)])) rfl (by rw [hml]; rfl) (Steps.refl _) (argsL := []) (rest := []) (lenOf pd_2 rfl) rfl (by show 2 * 0 + _ ≤ _; exact Nat.le_of_eq rfl) (hb hby at_382) (fun _ _ => ⟨rfl, rfl, (by decide : 2 + 0 ≤ _), (by decide : 30 + 0 ≤ _)⟩)
      dsimp only [Pt.U, Pt.locs, Pt.cells, Pt.slots] at X178 l178 y178 z178 st178 hQ178
      have l178y := l178.symm
      clear l178
      subst l178y
      obtain rfl : k178 = 2 := y178
      obtain rfl : n178 = 30 := z178
      obtain ⟨rfl, N178q, K178q, o178, l178, U178⟩ := hQ178
      have N178 := Fr.app N175 N178q
      have f179 := f176.keep K178q (ninS ne_b133_b160 nin0)
      have f180 := f177.keep K178q
      have Zs178 : n0 ≤ T178.heap.size := Nat.le_trans Zs175 K178q.1
      refine own_to T178 (mkF m 388 #[.val (.int i0), .val (.int i1), .val (.int i2), .val (.int (Int32.ofNat nl)), .val (.int (1 : Int32)), .val (.int (0 : Int32)), .val (.int (Int32.ofNat (u))), .val (.ref b133), .val (.int (Int32.ofNat (u + 10))), .val (.ref b160), .unset, .unset, .unset, .unset] [(.ref b160)]) (fun tq kq => st178.trans (XS.pop X178.here hx rfl (hb hby at_385) rfl rfl (XS.aload X178.here hx rfl (hb hby at_386) rfl rfl kq))) ?_
      obtain ⟨cq181, kq181, q181a, q181b, q181c⟩ := isOf hZ rfl f180
      obtain ⟨_, _, ⟨T181, L181, k181, n181⟩, -, X181, ⟨Lc181, hQ181, l181, y181, z181⟩, st181⟩ := X178.virtualBack hx (y := (⟨"com/example/warmjoin/warmjoin/PackedFields$Cursor", "next", "()Z"⟩ : MethodName)) (z := (⟨"com/example/warmjoin/warmjoin/PackedFields$Cursor", "next", "()Z"⟩ : MethodName)) hown (mvT hZ (own_w hw 23 rfl)) (mvT hZ (own_w hw 24 rfl)) (notFace_of_selects (args := #[]) (mvT hZ (own_w hw 26 rfl))) (mvT hZ (own_w hw 26 rfl)) (mvT hZ (own_w hw 25 rfl)) (by decide) (backOf (W := 0) (rm_next1T l Z a0 hw [] b160 b133 f158 (u + 7) 4 (u + 10) 4 _ _ _ _ T178.heap n0 Zs178 U178 (Ne.symm ne_b133_b160) sz160 f179 (by omega) (by omega) (by omega) (by omega) (by omega) (by omega) (fun _ => g_u_7)) hZ (own_w hw 27 rfl) (own_w hw 3 rfl) (by decide) (by decide)) q181a q181c (g := (mkF m 388 #[.val (.int i0), .val (.int i1), .val (.int i2), .val (.int (Int32.ofNat nl)), .val (.int (1 : Int32)), .val (.int (0 : Int32)), .val (.int (Int32.ofNat (u))), .val (.ref b133), .val (.int (Int32.ofNat (u + 10))), .val (.ref b160), .unset, .unset, .unset, .unset] [(.ref b160)])) rfl (by rw [hml]; rfl) (Steps.refl _) (argsL := []) (rest := []) (lenOf pd_2 rfl) rfl (by show 2 * 0 + _ ≤ _; exact Nat.le_of_eq rfl) (hb hby at_388) (fun _ _ => ⟨rfl, rfl, (by decide : 2 + 0 ≤ _), (by decide : 30 + 0 ≤ _)⟩)
      dsimp only [Pt.U, Pt.locs, Pt.cells, Pt.slots] at X181 l181 y181 z181 st181 hQ181
      have l181y := l181.symm
      clear l181
      subst l181y
      obtain rfl : k181 = 2 := y181
      obtain rfl : n181 = 30 := z181
      obtain ⟨rfl, N181q, K181q, o181, l181, U181⟩ := hQ181
      have N181 := Fr.app N178 N181q
      have f182 := f179.keep K181q (ninS ne_b133_b160 nin0)
      have f183 := f180.keep K181q
      have Zs181 : n0 ≤ T181.heap.size := Nat.le_trans Zs178 K181q.1
      refine own_to T181 (mkF m 394 #[.val (.int i0), .val (.int i1), .val (.int i2), .val (.int (Int32.ofNat nl)), .val (.int (1 : Int32)), .val (.int (0 : Int32)), .val (.int (Int32.ofNat (u))), .val (.ref b133), .val (.int (Int32.ofNat (u + 10))), .val (.ref b160), .unset, .unset, .unset, .unset] [(.ref b160)]) (fun tq kq => st181.trans (XS.pop X181.here hx rfl (hb hby at_391) rfl rfl (XS.aload X181.here hx rfl (hb hby at_392) rfl rfl kq))) ?_
      obtain ⟨cq184, kq184, q184a, q184b, q184c⟩ := isOf hZ rfl f183
      obtain ⟨_, _, ⟨T184, L184, k184, n184⟩, -, X184, ⟨Lc184, hQ184, l184, y184, z184⟩, st184⟩ := X181.virtualBack hx (y := (⟨"com/example/warmjoin/warmjoin/PackedFields$Cursor", "next", "()Z"⟩ : MethodName)) (z := (⟨"com/example/warmjoin/warmjoin/PackedFields$Cursor", "next", "()Z"⟩ : MethodName)) hown (mvT hZ (own_w hw 23 rfl)) (mvT hZ (own_w hw 24 rfl)) (notFace_of_selects (args := #[]) (mvT hZ (own_w hw 26 rfl))) (mvT hZ (own_w hw 26 rfl)) (mvT hZ (own_w hw 25 rfl)) (by decide) (backOf (W := 0) (rm_next1T l Z a0 hw [] b160 b133 f158 (u + 8) 3 (u + 10) 5 _ _ _ _ T181.heap n0 Zs181 U181 (Ne.symm ne_b133_b160) sz160 f182 (by omega) (by omega) (by omega) (by omega) (by omega) (by omega) (fun _ => g_u_8)) hZ (own_w hw 27 rfl) (own_w hw 3 rfl) (by decide) (by decide)) q184a q184c (g := (mkF m 394 #[.val (.int i0), .val (.int i1), .val (.int i2), .val (.int (Int32.ofNat nl)), .val (.int (1 : Int32)), .val (.int (0 : Int32)), .val (.int (Int32.ofNat (u))), .val (.ref b133), .val (.int (Int32.ofNat (u + 10))), .val (.ref b160), .unset, .unset, .unset, .unset] [(.ref b160)])) rfl (by rw [hml]; rfl) (Steps.refl _) (argsL := []) (rest := []) (lenOf pd_2 rfl) rfl (by show 2 * 0 + _ ≤ _; exact Nat.le_of_eq rfl) (hb hby at_394) (fun _ _ => ⟨rfl, rfl, (by decide : 2 + 0 ≤ _), (by decide : 30 + 0 ≤ _)⟩)
      dsimp only [Pt.U, Pt.locs, Pt.cells, Pt.slots] at X184 l184 y184 z184 st184 hQ184
      have l184y := l184.symm
      clear l184
      subst l184y
      obtain rfl : k184 = 2 := y184
      obtain rfl : n184 = 30 := z184
      obtain ⟨rfl, N184q, K184q, o184, l184, U184⟩ := hQ184
      have N184 := Fr.app N181 N184q
      have f185 := f182.keep K184q (ninS ne_b133_b160 nin0)
      have f186 := f183.keep K184q
      have Zs184 : n0 ≤ T184.heap.size := Nat.le_trans Zs181 K184q.1
      refine own_to T184 (mkF m 400 #[.val (.int i0), .val (.int i1), .val (.int i2), .val (.int (Int32.ofNat nl)), .val (.int (1 : Int32)), .val (.int (0 : Int32)), .val (.int (Int32.ofNat (u))), .val (.ref b133), .val (.int (Int32.ofNat (u + 10))), .val (.ref b160), .unset, .unset, .unset, .unset] [(.ref b160)]) (fun tq kq => st184.trans (XS.pop X184.here hx rfl (hb hby at_397) rfl rfl (XS.aload X184.here hx rfl (hb hby at_398) rfl rfl kq))) ?_
      obtain ⟨cq187, kq187, q187a, q187b, q187c⟩ := isOf hZ rfl f186
      obtain ⟨_, _, ⟨T187, L187, k187, n187⟩, -, X187, ⟨Lc187, hQ187, l187, y187, z187⟩, st187⟩ := X184.virtualBack hx (y := (⟨"com/example/warmjoin/warmjoin/PackedFields$Cursor", "next", "()Z"⟩ : MethodName)) (z := (⟨"com/example/warmjoin/warmjoin/PackedFields$Cursor", "next", "()Z"⟩ : MethodName)) hown (mvT hZ (own_w hw 23 rfl)) (mvT hZ (own_w hw 24 rfl)) (notFace_of_selects (args := #[]) (mvT hZ (own_w hw 26 rfl))) (mvT hZ (own_w hw 26 rfl)) (mvT hZ (own_w hw 25 rfl)) (by decide) (backOf (W := 0) (rm_next1T l Z a0 hw [] b160 b133 f158 (u + 9) 2 (u + 10) 6 _ _ _ _ T184.heap n0 Zs184 U184 (Ne.symm ne_b133_b160) sz160 f185 (by omega) (by omega) (by omega) (by omega) (by omega) (by omega) (fun _ => g_u_9)) hZ (own_w hw 27 rfl) (own_w hw 3 rfl) (by decide) (by decide)) q187a q187c (g := (mkF m 400 #[.val (.int i0), .val (.int i1), .val (.int i2), .val (.int (Int32.ofNat nl)), .val (.int (1 : Int32)), .val (.int (0 : Int32)), .val (.int (Int32.ofNat (u))), .val (.ref b133), .val (.int (Int32.ofNat (u + 10))), .val (.ref b160), .unset, .unset, .unset, .unset] [(.ref b160)])) rfl (by rw [hml]; rfl) (Steps.refl _) (argsL := []) (rest := []) (lenOf pd_2 rfl) rfl (by show 2 * 0 + _ ≤ _; exact Nat.le_of_eq rfl) (hb hby at_400) (fun _ _ => ⟨rfl, rfl, (by decide : 2 + 0 ≤ _), (by decide : 30 + 0 ≤ _)⟩)
      dsimp only [Pt.U, Pt.locs, Pt.cells, Pt.slots] at X187 l187 y187 z187 st187 hQ187
      have l187y := l187.symm
      clear l187
      subst l187y
      obtain rfl : k187 = 2 := y187
      obtain rfl : n187 = 30 := z187
      obtain ⟨rfl, N187q, K187q, o187, l187, U187⟩ := hQ187
      have N187 := Fr.app N184 N187q
      have f188 := f185.keep K187q (ninS ne_b133_b160 nin0)
      have f189 := f186.keep K187q
      have Zs187 : n0 ≤ T187.heap.size := Nat.le_trans Zs184 K187q.1
      refine own_to T187 (mkF m 406 #[.val (.int i0), .val (.int i1), .val (.int i2), .val (.int (Int32.ofNat nl)), .val (.int (1 : Int32)), .val (.int (0 : Int32)), .val (.int (Int32.ofNat (u))), .val (.ref b133), .val (.int (Int32.ofNat (u + 10))), .val (.ref b160), .unset, .unset, .unset, .unset] [(.ref b160)]) (fun tq kq => st187.trans (XS.pop X187.here hx rfl (hb hby at_403) rfl rfl (XS.aload X187.here hx rfl (hb hby at_404) rfl rfl kq))) ?_
      obtain ⟨cq190, kq190, q190a, q190b, q190c⟩ := isOf hZ rfl f189
      obtain ⟨_, _, ⟨T190, L190, k190, n190⟩, -, X190, ⟨Lc190, hQ190, l190, y190, z190⟩, st190⟩ := X187.virtualBack hx (y := (⟨"com/example/warmjoin/warmjoin/PackedFields$Cursor", "literal", "()Z"⟩ : MethodName)) (z := (⟨"com/example/warmjoin/warmjoin/PackedFields$Cursor", "literal", "()Z"⟩ : MethodName)) hown (mvT hZ (own_w hw 70 rfl)) (mvT hZ (own_w hw 71 rfl)) (notFace_of_selects (args := #[]) (mvT hZ (own_w hw 73 rfl))) (mvT hZ (own_w hw 73 rfl)) (mvT hZ (own_w hw 72 rfl)) (by decide) (backOf (W := 0) (rm_litN l Z a0 hw [] b160 b133 _ _ _ _ _ _ _ _ T187.heap n0 Zs187 U187) hZ (own_w hw 74 rfl) (own_w hw 3 rfl) (by decide) (by decide)) q190a q190c (g := (mkF m 406 #[.val (.int i0), .val (.int i1), .val (.int i2), .val (.int (Int32.ofNat nl)), .val (.int (1 : Int32)), .val (.int (0 : Int32)), .val (.int (Int32.ofNat (u))), .val (.ref b133), .val (.int (Int32.ofNat (u + 10))), .val (.ref b160), .unset, .unset, .unset, .unset] [(.ref b160)])) rfl (by rw [hml]; rfl) (Steps.refl _) (argsL := []) (rest := []) (lenOf pd_2 rfl) rfl (by show 2 * 0 + _ ≤ _; exact Nat.le_of_eq rfl) (hb hby at_406) (fun _ _ => ⟨rfl, rfl, (by decide : 2 + 0 ≤ _), (by decide : 30 + 0 ≤ _)⟩)
      dsimp only [Pt.U, Pt.locs, Pt.cells, Pt.slots] at X190 l190 y190 z190 st190 hQ190
      have l190y := l190.symm
      clear l190
      subst l190y
      obtain rfl : k190 = 2 := y190
      obtain rfl : n190 = 30 := z190
      obtain ⟨rfl, N190q, e190⟩ := hQ190
      have N190 := Fr.app N187 N190q
      refine own_to T190 (mkF m 413 #[.val (.int i0), .val (.int i1), .val (.int i2), .val (.int (Int32.ofNat nl)), .val (.int (1 : Int32)), .val (.int (0 : Int32)), .val (.int (Int32.ofNat (u))), .val (.ref b133), .val (.int (Int32.ofNat (u + 10))), .val (.ref b160), .val (.int (0 : Int32)), .unset, .unset, .unset] [(.ref b160)]) (fun tq kq => st190.trans (XS.istore X190.here hx rfl (hb hby at_409) rfl (l' := #[.val (.int i0), .val (.int i1), .val (.int i2), .val (.int (Int32.ofNat nl)), .val (.int (1 : Int32)), .val (.int (0 : Int32)), .val (.int (Int32.ofNat (u))), .val (.ref b133), .val (.int (Int32.ofNat (u + 10))), .val (.ref b160), .val (.int (0 : Int32)), .unset, .unset, .unset]) rfl (XS.aload X190.here hx rfl (hb hby at_411) rfl rfl kq))) ?_
      obtain ⟨cq191, kq191, q191a, q191b, q191c⟩ := isOf hZ e190 f189
      obtain ⟨_, _, ⟨T191, L191, k191, n191⟩, -, X191, ⟨Lc191, hQ191, l191, y191, z191⟩, st191⟩ := X190.virtualBack hx (y := (⟨"com/example/warmjoin/warmjoin/PackedFields$Cursor", "next", "()Z"⟩ : MethodName)) (z := (⟨"com/example/warmjoin/warmjoin/PackedFields$Cursor", "next", "()Z"⟩ : MethodName)) hown (mvT hZ (own_w hw 23 rfl)) (mvT hZ (own_w hw 24 rfl)) (notFace_of_selects (args := #[]) (mvT hZ (own_w hw 26 rfl))) (mvT hZ (own_w hw 26 rfl)) (mvT hZ (own_w hw 25 rfl)) (by decide) (backOf (W := 0) (rm_next1E l Z a0 hw [] b160 b133 f158 (u + 10) 1 (u + 10) 7 _ _ _ _ T187.heap n0 Zs187 U187 (Ne.symm ne_b133_b160) sz160 f188 (by omega) (by omega) (by omega) (by omega) (by omega) (fun q => absurd q (by omega)) (by omega)) hZ (own_w hw 27 rfl) (own_w hw 3 rfl) (by decide) (by decide)) q191a q191c (g := (mkF m 413 #[.val (.int i0), .val (.int i1), .val (.int i2), .val (.int (Int32.ofNat nl)), .val (.int (1 : Int32)), .val (.int (0 : Int32)), .val (.int (Int32.ofNat (u))), .val (.ref b133), .val (.int (Int32.ofNat (u + 10))), .val (.ref b160), .val (.int (0 : Int32)), .unset, .unset, .unset] [(.ref b160)])) rfl (by rw [hml]; rfl) (Steps.refl _) (argsL := []) (rest := []) (lenOf pd_2 rfl) rfl (by show 2 * 0 + _ ≤ _; exact Nat.le_of_eq rfl) (hb hby at_413) (fun _ _ => ⟨rfl, e190, (by decide : 2 + 0 ≤ _), (by decide : 30 + 0 ≤ _)⟩)
      dsimp only [Pt.U, Pt.locs, Pt.cells, Pt.slots] at X191 l191 y191 z191 st191 hQ191
      have l191y := l191.symm
      clear l191
      subst l191y
      obtain rfl : k191 = 2 := y191
      obtain rfl : n191 = 30 := z191
      obtain ⟨rfl, N191q, K191q, o191, l191, U191⟩ := hQ191
      have N191 := Fr.app N190 N191q
      have f192 := f188.keep K191q (ninS ne_b133_b160 nin0)
      have f193 := f189.keep K191q
      have Zs191 : n0 ≤ T191.heap.size := Nat.le_trans Zs187 K191q.1
      refine own_to T191 (mkF m 419 #[.val (.int i0), .val (.int i1), .val (.int i2), .val (.int (Int32.ofNat nl)), .val (.int (1 : Int32)), .val (.int (0 : Int32)), .val (.int (Int32.ofNat (u))), .val (.ref b133), .val (.int (Int32.ofNat (u + 10))), .val (.ref b160), .val (.int (0 : Int32)), .unset, .unset, .unset] [(.ref b160)]) (fun tq kq => st191.trans (XS.pop X191.here hx rfl (hb hby at_416) rfl rfl (XS.aload X191.here hx rfl (hb hby at_417) rfl rfl kq))) ?_
      obtain ⟨cq194, kq194, q194a, q194b, q194c⟩ := isOf hZ rfl f193
      obtain ⟨_, _, ⟨T194, L194, k194, n194⟩, -, X194, ⟨Lc194, hQ194, l194, y194, z194⟩, st194⟩ := X191.virtualBack hx (y := (⟨"com/example/warmjoin/warmjoin/PackedFields$Cursor", "literal", "()Z"⟩ : MethodName)) (z := (⟨"com/example/warmjoin/warmjoin/PackedFields$Cursor", "literal", "()Z"⟩ : MethodName)) hown (mvT hZ (own_w hw 70 rfl)) (mvT hZ (own_w hw 71 rfl)) (notFace_of_selects (args := #[]) (mvT hZ (own_w hw 73 rfl))) (mvT hZ (own_w hw 73 rfl)) (mvT hZ (own_w hw 72 rfl)) (by decide) (backOf (W := 0) (rm_litN l Z a0 hw [] b160 b133 _ _ _ _ _ _ _ _ T191.heap n0 Zs191 U191) hZ (own_w hw 74 rfl) (own_w hw 3 rfl) (by decide) (by decide)) q194a q194c (g := (mkF m 419 #[.val (.int i0), .val (.int i1), .val (.int i2), .val (.int (Int32.ofNat nl)), .val (.int (1 : Int32)), .val (.int (0 : Int32)), .val (.int (Int32.ofNat (u))), .val (.ref b133), .val (.int (Int32.ofNat (u + 10))), .val (.ref b160), .val (.int (0 : Int32)), .unset, .unset, .unset] [(.ref b160)])) rfl (by rw [hml]; rfl) (Steps.refl _) (argsL := []) (rest := []) (lenOf pd_2 rfl) rfl (by show 2 * 0 + _ ≤ _; exact Nat.le_of_eq rfl) (hb hby at_419) (fun _ _ => ⟨rfl, rfl, (by decide : 2 + 0 ≤ _), (by decide : 30 + 0 ≤ _)⟩)
      dsimp only [Pt.U, Pt.locs, Pt.cells, Pt.slots] at X194 l194 y194 z194 st194 hQ194
      have l194y := l194.symm
      clear l194
      subst l194y
      obtain rfl : k194 = 2 := y194
      obtain rfl : n194 = 30 := z194
      obtain ⟨rfl, N194q, e194⟩ := hQ194
      have N194 := Fr.app N191 N194q
      refine own_to T194 (mkF m 466 #[.val (.int i0), .val (.int i1), .val (.int i2), .val (.int (Int32.ofNat nl)), .val (.int (1 : Int32)), .val (.int (0 : Int32)), .val (.int (Int32.ofNat (u))), .val (.ref b133), .val (.int (Int32.ofNat (u + 10))), .val (.ref b160), .val (.int (0 : Int32)), .val (.int (0 : Int32)), .val (.int (0 : Int32)), .val (.int (0 : Int32))] []) (fun tq kq => st194.trans (XS.istore X194.here hx rfl (hb hby at_422) rfl (l' := #[.val (.int i0), .val (.int i1), .val (.int i2), .val (.int (Int32.ofNat nl)), .val (.int (1 : Int32)), .val (.int (0 : Int32)), .val (.int (Int32.ofNat (u))), .val (.ref b133), .val (.int (Int32.ofNat (u + 10))), .val (.ref b160), .val (.int (0 : Int32)), .val (.int (0 : Int32)), .unset, .unset]) rfl (XS.iload X194.here hx rfl (hb hby at_424) rfl (XS.ifYes X194.here hx rfl (pc0 := 426) (pc' := 442) rfl (hb hby at_426) rfl ((if0 _ _).trans (teq (by decide : (0 : Int32) = (0 : Int32))).1) (by decide) (by decide) (XS.iconst X194.here hx rfl (hb hby at_442) (XS.istore X194.here hx rfl (hb hby at_443) rfl (l' := #[.val (.int i0), .val (.int i1), .val (.int i2), .val (.int (Int32.ofNat nl)), .val (.int (1 : Int32)), .val (.int (0 : Int32)), .val (.int (Int32.ofNat (u))), .val (.ref b133), .val (.int (Int32.ofNat (u + 10))), .val (.ref b160), .val (.int (0 : Int32)), .val (.int (0 : Int32)), .val (.int (0 : Int32)), .unset]) rfl (XS.iload X194.here hx rfl (hb hby at_445) rfl (XS.ifYes X194.here hx rfl (pc0 := 447) (pc' := 463) rfl (hb hby at_447) rfl ((if0 _ _).trans (teq (by decide : (0 : Int32) = (0 : Int32))).1) (by decide) (by decide) (XS.iconst X194.here hx rfl (hb hby at_463) (XS.istore X194.here hx rfl (hb hby at_464) rfl (l' := #[.val (.int i0), .val (.int i1), .val (.int i2), .val (.int (Int32.ofNat nl)), .val (.int (1 : Int32)), .val (.int (0 : Int32)), .val (.int (Int32.ofNat (u))), .val (.ref b133), .val (.int (Int32.ofNat (u + 10))), .val (.ref b160), .val (.int (0 : Int32)), .val (.int (0 : Int32)), .val (.int (0 : Int32)), .val (.int (0 : Int32))]) rfl kq)))))))))) ?_
      refine own_to T194 (mkF m 485 #[.val (.int i0), .val (.int i1), .val (.int i2), .val (.int (Int32.ofNat nl)), .val (.int (1 : Int32)), .val (.int (0 : Int32)), .val (.int (Int32.ofNat (u))), .val (.ref b133), .val (.int (Int32.ofNat (u + 10))), .val (.ref b160), .val (.int (0 : Int32)), .val (.int (0 : Int32)), .val (.int (0 : Int32)), .val (.int (0 : Int32))] [(.int (1 : Int32))]) (fun tq kq => XS.iload X194.here hx rfl (hb hby at_466) rfl (XS.iload X194.here hx rfl (hb hby at_468) rfl (XS.icmpNo X194.here hx rfl (hb hby at_470) rfl (teq (by decide : (0 : Int32) = (0 : Int32))).2 (XS.iload X194.here hx rfl (hb hby at_473) rfl (XS.iload X194.here hx rfl (hb hby at_475) rfl (XS.icmpNo X194.here hx rfl (hb hby at_477) rfl (teq (by decide : (0 : Int32) = (0 : Int32))).2 (XS.iconst X194.here hx rfl (hb hby at_480) (XS.goto X194.here hx rfl (pc0 := 481) (pc' := 485) rfl (hb hby at_481) (by decide) (by decide) kq)))))))) ?_
      exact own_retZ X194 hx hret hlk (hb hby at_485) (by decide) (by decide) (Or.inr rfl) ⟨rfl, N194⟩
    · skip
      refine own_to s₁ (mkF m 41 #[.val (.int i0), .val (.int i1), .val (.int i2), .val (.int (Int32.ofNat nl)), .val (.int (1 : Int32)), .val (.int (1 : Int32)), .unset, .unset, .unset, .unset, .unset, .unset, .unset, .unset] [(.int (((i1.toUInt32 >>> ((2 : Int32) &&& 31).toUInt32).toInt32) &&& (3 : Int32)))]) (fun tq kq => XS.iloadN X0.here hx rfl (hb hby at_36) rfl (XS.iconst X0.here hx rfl (hb hby at_37) (XS.iushr X0.here hx rfl (hb hby at_38) rfl (XS.iconst X0.here hx rfl (hb hby at_39) (XS.iand X0.here hx rfl (hb hby at_40) rfl kq))))) ?_
      obtain ⟨u, hu, hs6⟩ := own_small ((i1.toUInt32 >>> ((2 : Int32) &&& 31).toUInt32).toInt32) (3 : Int32) 3 rfl (by decide)
      rw [hs6]
      have hu4 : u < 4 := by omega
      refine own_to s₁ (mkF m 45 #[.val (.int i0), .val (.int i1), .val (.int i2), .val (.int (Int32.ofNat nl)), .val (.int (1 : Int32)), .val (.int (1 : Int32)), .val (.int (Int32.ofNat (u))), .unset, .unset, .unset, .unset, .unset, .unset, .unset] [(.int (20 : Int32))]) (fun tq kq => XS.istore X0.here hx rfl (hb hby at_41) rfl (l' := #[.val (.int i0), .val (.int i1), .val (.int i2), .val (.int (Int32.ofNat nl)), .val (.int (1 : Int32)), .val (.int (1 : Int32)), .val (.int (Int32.ofNat (u))), .unset, .unset, .unset, .unset, .unset, .unset, .unset]) rfl (XS.bipush X0.here hx rfl (hb hby at_43) kq)) ?_
      obtain ⟨T195, h195, k195, X195, e195, E195, A195, st195⟩ := newP X0 hx hZ (own_w hw 0 rfl) e0 (g := (mkF m 45 #[.val (.int i0), .val (.int i1), .val (.int i2), .val (.int (Int32.ofNat nl)), .val (.int (1 : Int32)), .val (.int (1 : Int32)), .val (.int (Int32.ofNat (u))), .unset, .unset, .unset, .unset, .unset, .unset, .unset] [(.int (20 : Int32))])) rfl (hb hby at_45) rfl (by decide) (cap := 20) (by decide) (by decide) (by decide) (by decide)
      obtain ⟨b195, g195⟩ : ∃ z, z = h0.size := ⟨_, rfl⟩
      rw [← g195] at A195 st195
      have sz195 : n0 ≤ b195 := Nat.le_trans Z0 (Nat.le_of_eq g195.symm)
      have Zs195 : n0 ≤ h195.size := Nat.le_trans Z0 E195.1
      have V195 : BArr Z h195 b195 20 (fun _ => 0) := BArr.new A195 (by decide)
      refine own_to T195 (mkF m 54 #[.val (.int i0), .val (.int i1), .val (.int i2), .val (.int (Int32.ofNat nl)), .val (.int (1 : Int32)), .val (.int (1 : Int32)), .val (.int (Int32.ofNat (u))), .val (.ref b195), .unset, .unset, .unset, .unset, .unset, .unset] [(.int (i2.toInt8.toInt32)), (.int (0 : Int32)), (.ref b195)]) (fun tq kq => st195 _ (XS.astore X195.here hx rfl (hb hby at_47) rfl rfl (l' := #[.val (.int i0), .val (.int i1), .val (.int i2), .val (.int (Int32.ofNat nl)), .val (.int (1 : Int32)), .val (.int (1 : Int32)), .val (.int (Int32.ofNat (u))), .val (.ref b195), .unset, .unset, .unset, .unset, .unset, .unset]) rfl (XS.aload X195.here hx rfl (hb hby at_49) rfl rfl (XS.iconst X195.here hx rfl (hb hby at_51) (XS.iloadN X195.here hx rfl (hb hby at_52) rfl (XS.i2b X195.here hx rfl (hb hby at_53) rfl kq)))))) ?_
      obtain ⟨co197, Aro197, hszo197, hato197⟩ := id V195
      obtain ⟨T196, h196, X196, e196, W196, st196⟩ := stB X195 hx hZ e195 Aro197 (j := (0 : Int32)) (by rw [hszo197]; decide) (g := (mkF m 54 #[.val (.int i0), .val (.int i1), .val (.int i2), .val (.int (Int32.ofNat nl)), .val (.int (1 : Int32)), .val (.int (1 : Int32)), .val (.int (Int32.ofNat (u))), .val (.ref b195), .unset, .unset, .unset, .unset, .unset, .unset] [(.int (i2.toInt8.toInt32)), (.int (0 : Int32)), (.ref b195)])) rfl rfl (hb hby at_54)
      have N196 := Fr.snoc X196 (Fr.nil n0) sz195
      have Zs196 : n0 ≤ h196.size := by rw [W196.size]; exact Zs195
      have V196 := BArr.set Aro197 hszo197 hato197 W196 (by decide : ((0 : Int32)).toNatClampNeg = 0)
      obtain ⟨f196, hf196⟩ : ∃ f', f' = own_upd (fun _ => 0) (0) ((i2.toInt8.toInt32).toInt8.toInt32) := ⟨_, rfl⟩
      rw [← hf196] at V196
      refine own_to T196 (mkF m 63 #[.val (.int i0), .val (.int i1), .val (.int i2), .val (.int (Int32.ofNat nl)), .val (.int (1 : Int32)), .val (.int (1 : Int32)), .val (.int (Int32.ofNat (u))), .val (.ref b195), .unset, .unset, .unset, .unset, .unset, .unset] [(.int (((i2.toUInt32 >>> ((8 : Int32) &&& 31).toUInt32).toInt32).toInt8.toInt32)), (.int (1 : Int32)), (.ref b195)]) (fun tq kq => st196 _ (XS.aload X196.here hx rfl (hb hby at_55) rfl rfl (XS.iconst X196.here hx rfl (hb hby at_57) (XS.iloadN X196.here hx rfl (hb hby at_58) rfl (XS.bipush X196.here hx rfl (hb hby at_59) (XS.iushr X196.here hx rfl (hb hby at_61) rfl (XS.i2b X196.here hx rfl (hb hby at_62) rfl kq))))))) ?_
      obtain ⟨co199, Aro199, hszo199, hato199⟩ := id V196
      obtain ⟨T198, h198, X198, e198, W198, st198⟩ := stB X196 hx hZ e196 Aro199 (j := (1 : Int32)) (by rw [hszo199]; decide) (g := (mkF m 63 #[.val (.int i0), .val (.int i1), .val (.int i2), .val (.int (Int32.ofNat nl)), .val (.int (1 : Int32)), .val (.int (1 : Int32)), .val (.int (Int32.ofNat (u))), .val (.ref b195), .unset, .unset, .unset, .unset, .unset, .unset] [(.int (((i2.toUInt32 >>> ((8 : Int32) &&& 31).toUInt32).toInt32).toInt8.toInt32)), (.int (1 : Int32)), (.ref b195)])) rfl rfl (hb hby at_63)
      have N198 := Fr.snoc X198 N196 sz195
      have Zs198 : n0 ≤ h198.size := by rw [W198.size]; exact Zs196
      have V198 := BArr.set Aro199 hszo199 hato199 W198 (by decide : ((1 : Int32)).toNatClampNeg = 1)
      obtain ⟨f198, hf198⟩ : ∃ f', f' = own_upd f196 (1) ((((i2.toUInt32 >>> ((8 : Int32) &&& 31).toUInt32).toInt32).toInt8.toInt32).toInt8.toInt32) := ⟨_, rfl⟩
      rw [← hf198] at V198
      refine own_to T198 (mkF m 72 #[.val (.int i0), .val (.int i1), .val (.int i2), .val (.int (Int32.ofNat nl)), .val (.int (1 : Int32)), .val (.int (1 : Int32)), .val (.int (Int32.ofNat (u))), .val (.ref b195), .unset, .unset, .unset, .unset, .unset, .unset] [(.int (((i2.toUInt32 >>> ((16 : Int32) &&& 31).toUInt32).toInt32).toInt8.toInt32)), (.int (2 : Int32)), (.ref b195)]) (fun tq kq => st198 _ (XS.aload X198.here hx rfl (hb hby at_64) rfl rfl (XS.iconst X198.here hx rfl (hb hby at_66) (XS.iloadN X198.here hx rfl (hb hby at_67) rfl (XS.bipush X198.here hx rfl (hb hby at_68) (XS.iushr X198.here hx rfl (hb hby at_70) rfl (XS.i2b X198.here hx rfl (hb hby at_71) rfl kq))))))) ?_
      obtain ⟨co201, Aro201, hszo201, hato201⟩ := id V198
      obtain ⟨T200, h200, X200, e200, W200, st200⟩ := stB X198 hx hZ e198 Aro201 (j := (2 : Int32)) (by rw [hszo201]; decide) (g := (mkF m 72 #[.val (.int i0), .val (.int i1), .val (.int i2), .val (.int (Int32.ofNat nl)), .val (.int (1 : Int32)), .val (.int (1 : Int32)), .val (.int (Int32.ofNat (u))), .val (.ref b195), .unset, .unset, .unset, .unset, .unset, .unset] [(.int (((i2.toUInt32 >>> ((16 : Int32) &&& 31).toUInt32).toInt32).toInt8.toInt32)), (.int (2 : Int32)), (.ref b195)])) rfl rfl (hb hby at_72)
      have N200 := Fr.snoc X200 N198 sz195
      have Zs200 : n0 ≤ h200.size := by rw [W200.size]; exact Zs198
      have V200 := BArr.set Aro201 hszo201 hato201 W200 (by decide : ((2 : Int32)).toNatClampNeg = 2)
      obtain ⟨f200, hf200⟩ : ∃ f', f' = own_upd f198 (2) ((((i2.toUInt32 >>> ((16 : Int32) &&& 31).toUInt32).toInt32).toInt8.toInt32).toInt8.toInt32) := ⟨_, rfl⟩
      rw [← hf200] at V200
      refine own_to T200 (mkF m 93 #[.val (.int i0), .val (.int i1), .val (.int i2), .val (.int (Int32.ofNat nl)), .val (.int (1 : Int32)), .val (.int (1 : Int32)), .val (.int (Int32.ofNat (u))), .val (.ref b195), .val (.int (Int32.ofNat (u))), .unset, .unset, .unset, .unset, .unset] [(.int (1 : Int32)), (.int (36 : Int32)), (.int (Int32.ofNat (u))), (.ref b195)]) (fun tq kq => st200 _ (XS.iload X200.here hx rfl (hb hby at_73) rfl (XS.istore X200.here hx rfl (hb hby at_75) rfl (l' := #[.val (.int i0), .val (.int i1), .val (.int i2), .val (.int (Int32.ofNat nl)), .val (.int (1 : Int32)), .val (.int (1 : Int32)), .val (.int (Int32.ofNat (u))), .val (.ref b195), .val (.int (Int32.ofNat (u))), .unset, .unset, .unset, .unset, .unset]) rfl (XS.aload X200.here hx rfl (hb hby at_77) rfl rfl (XS.iload X200.here hx rfl (hb hby at_79) rfl (XS.bipush X200.here hx rfl (hb hby at_81) (XS.iload X200.here hx rfl (hb hby at_83) rfl (XS.ifNo X200.here hx rfl (hb hby at_85) rfl ((if0 _ _).trans (feq (by decide : ¬ ((1 : Int32) = (0 : Int32)))).1) (XS.iconst X200.here hx rfl (hb hby at_88) (XS.goto X200.here hx rfl (pc0 := 89) (pc' := 93) rfl (hb hby at_89) (by decide) (by decide) kq)))))))))) ?_
      refine own_to T200 (mkF m 106 #[.val (.int i0), .val (.int i1), .val (.int i2), .val (.int (Int32.ofNat nl)), .val (.int (1 : Int32)), .val (.int (1 : Int32)), .val (.int (Int32.ofNat (u))), .val (.ref b195), .val (.int (Int32.ofNat (u))), .unset, .unset, .unset, .unset, .unset] [(.int ((((36 : Int32) ||| (1 : Int32)) ||| (2 : Int32)).toInt8.toInt32)), (.int (Int32.ofNat (u))), (.ref b195)]) (fun tq kq => XS.ior X200.here hx rfl (hb hby at_93) rfl (XS.iload X200.here hx rfl (hb hby at_94) rfl (XS.ifNo X200.here hx rfl (hb hby at_96) rfl ((if0 _ _).trans (feq (by decide : ¬ ((1 : Int32) = (0 : Int32)))).1) (XS.iconst X200.here hx rfl (hb hby at_99) (XS.goto X200.here hx rfl (pc0 := 100) (pc' := 104) rfl (hb hby at_100) (by decide) (by decide) (XS.ior X200.here hx rfl (hb hby at_104) rfl (XS.i2b X200.here hx rfl (hb hby at_105) rfl kq))))))) ?_
      rw [show ((((36 : Int32) ||| (1 : Int32)) ||| (2 : Int32)).toInt8.toInt32) = (39 : Int32) from by decide]
      obtain ⟨co203, Aro203, hszo203, hato203⟩ := id V200
      obtain ⟨T202, h202, X202, e202, W202, st202⟩ := stB X200 hx hZ e200 Aro203 (j := (Int32.ofNat (u))) (by rw [hszo203]; exact within rfl (show u < 20 by omega) (by decide)) (g := (mkF m 106 #[.val (.int i0), .val (.int i1), .val (.int i2), .val (.int (Int32.ofNat nl)), .val (.int (1 : Int32)), .val (.int (1 : Int32)), .val (.int (Int32.ofNat (u))), .val (.ref b195), .val (.int (Int32.ofNat (u))), .unset, .unset, .unset, .unset, .unset] [(.int (39 : Int32)), (.int (Int32.ofNat (u))), (.ref b195)])) rfl rfl (hb hby at_106)
      have N202 := Fr.snoc X202 N200 sz195
      have Zs202 : n0 ≤ h202.size := by rw [W202.size]; exact Zs200
      have V202 := BArr.set Aro203 hszo203 hato203 W202 (clamp_of rfl (by omega) : ((Int32.ofNat (u))).toNatClampNeg = u)
      obtain ⟨f202, hf202⟩ : ∃ f', f' = own_upd f200 (u) ((39 : Int32).toInt8.toInt32) := ⟨_, rfl⟩
      rw [← hf202] at V202
      refine own_to T202 (mkF m 111 #[.val (.int i0), .val (.int i1), .val (.int i2), .val (.int (Int32.ofNat nl)), .val (.int (1 : Int32)), .val (.int (1 : Int32)), .val (.int (Int32.ofNat (u))), .val (.ref b195), .val (.int (Int32.ofNat (u))), .unset, .unset, .unset, .unset, .unset] [(.int ((Int32.ofNat (u)) + (1 : Int32)))]) (fun tq kq => st202 _ (XS.iload X202.here hx rfl (hb hby at_107) rfl (XS.iconst X202.here hx rfl (hb hby at_109) (XS.iadd X202.here hx rfl (hb hby at_110) rfl kq)))) ?_
      rw [show ((Int32.ofNat (u)) + (1 : Int32)) = (Int32.ofNat (u + 1)) from own_addn (u) 1 (by omega) (by decide)]
      refine own_to T202 (mkF m 124 #[.val (.int i0), .val (.int i1), .val (.int i2), .val (.int (Int32.ofNat nl)), .val (.int (1 : Int32)), .val (.int (1 : Int32)), .val (.int (Int32.ofNat (u))), .val (.ref b195), .val (.int (Int32.ofNat (u + 1))), .unset, .unset, .unset, .unset, .unset] [(.int (8 : Int32)), (.int (Int32.ofNat (u + 1))), (.ref b195)]) (fun tq kq => XS.istore X202.here hx rfl (hb hby at_111) rfl (l' := #[.val (.int i0), .val (.int i1), .val (.int i2), .val (.int (Int32.ofNat nl)), .val (.int (1 : Int32)), .val (.int (1 : Int32)), .val (.int (Int32.ofNat (u))), .val (.ref b195), .val (.int (Int32.ofNat (u + 1))), .unset, .unset, .unset, .unset, .unset]) rfl (XS.iload X202.here hx rfl (hb hby at_113) rfl (XS.ifNo X202.here hx rfl (hb hby at_115) rfl ((if0 _ _).trans (feq (by decide : ¬ ((1 : Int32) = (0 : Int32)))).1) (XS.aload X202.here hx rfl (hb hby at_118) rfl rfl (XS.iload X202.here hx rfl (hb hby at_120) rfl (XS.bipush X202.here hx rfl (hb hby at_122) kq)))))) ?_
      obtain ⟨co205, Aro205, hszo205, hato205⟩ := id V202
      obtain ⟨T204, h204, X204, e204, W204, st204⟩ := stB X202 hx hZ e202 Aro205 (j := (Int32.ofNat (u + 1))) (by rw [hszo205]; exact within rfl (show u + 1 < 20 by omega) (by decide)) (g := (mkF m 124 #[.val (.int i0), .val (.int i1), .val (.int i2), .val (.int (Int32.ofNat nl)), .val (.int (1 : Int32)), .val (.int (1 : Int32)), .val (.int (Int32.ofNat (u))), .val (.ref b195), .val (.int (Int32.ofNat (u + 1))), .unset, .unset, .unset, .unset, .unset] [(.int (8 : Int32)), (.int (Int32.ofNat (u + 1))), (.ref b195)])) rfl rfl (hb hby at_124)
      have N204 := Fr.snoc X204 N202 sz195
      have Zs204 : n0 ≤ h204.size := by rw [W204.size]; exact Zs202
      have V204 := BArr.set Aro205 hszo205 hato205 W204 (clamp_of rfl (by omega) : ((Int32.ofNat (u + 1))).toNatClampNeg = u + 1)
      obtain ⟨f204, hf204⟩ : ∃ f', f' = own_upd f202 (u + 1) ((8 : Int32).toInt8.toInt32) := ⟨_, rfl⟩
      rw [← hf204] at V204
      refine own_to T204 (mkF m 129 #[.val (.int i0), .val (.int i1), .val (.int i2), .val (.int (Int32.ofNat nl)), .val (.int (1 : Int32)), .val (.int (1 : Int32)), .val (.int (Int32.ofNat (u))), .val (.ref b195), .val (.int (Int32.ofNat (u + 1))), .unset, .unset, .unset, .unset, .unset] [(.int ((Int32.ofNat (u + 1)) + (1 : Int32)))]) (fun tq kq => st204 _ (XS.iload X204.here hx rfl (hb hby at_125) rfl (XS.iconst X204.here hx rfl (hb hby at_127) (XS.iadd X204.here hx rfl (hb hby at_128) rfl kq)))) ?_
      rw [show ((Int32.ofNat (u + 1)) + (1 : Int32)) = (Int32.ofNat (u + 2)) from own_addn (u + 1) 1 (by omega) (by decide)]
      refine own_to T204 (mkF m 142 #[.val (.int i0), .val (.int i1), .val (.int i2), .val (.int (Int32.ofNat nl)), .val (.int (1 : Int32)), .val (.int (1 : Int32)), .val (.int (Int32.ofNat (u))), .val (.ref b195), .val (.int (Int32.ofNat (u + 2))), .unset, .unset, .unset, .unset, .unset] [(.int ((Int32.ofNat nl).toInt8.toInt32)), (.int (Int32.ofNat (u + 2))), (.ref b195)]) (fun tq kq => XS.istore X204.here hx rfl (hb hby at_129) rfl (l' := #[.val (.int i0), .val (.int i1), .val (.int i2), .val (.int (Int32.ofNat nl)), .val (.int (1 : Int32)), .val (.int (1 : Int32)), .val (.int (Int32.ofNat (u))), .val (.ref b195), .val (.int (Int32.ofNat (u + 2))), .unset, .unset, .unset, .unset, .unset]) rfl (XS.iload X204.here hx rfl (hb hby at_131) rfl (XS.ifNo X204.here hx rfl (hb hby at_133) rfl ((if0 _ _).trans (feq (by decide : ¬ ((1 : Int32) = (0 : Int32)))).1) (XS.aload X204.here hx rfl (hb hby at_136) rfl rfl (XS.iload X204.here hx rfl (hb hby at_138) rfl (XS.iloadN X204.here hx rfl (hb hby at_140) rfl (XS.i2b X204.here hx rfl (hb hby at_141) rfl kq))))))) ?_
      obtain ⟨co207, Aro207, hszo207, hato207⟩ := id V204
      obtain ⟨T206, h206, X206, e206, W206, st206⟩ := stB X204 hx hZ e204 Aro207 (j := (Int32.ofNat (u + 2))) (by rw [hszo207]; exact within rfl (show u + 2 < 20 by omega) (by decide)) (g := (mkF m 142 #[.val (.int i0), .val (.int i1), .val (.int i2), .val (.int (Int32.ofNat nl)), .val (.int (1 : Int32)), .val (.int (1 : Int32)), .val (.int (Int32.ofNat (u))), .val (.ref b195), .val (.int (Int32.ofNat (u + 2))), .unset, .unset, .unset, .unset, .unset] [(.int ((Int32.ofNat nl).toInt8.toInt32)), (.int (Int32.ofNat (u + 2))), (.ref b195)])) rfl rfl (hb hby at_142)
      have N206 := Fr.snoc X206 N204 sz195
      have Zs206 : n0 ≤ h206.size := by rw [W206.size]; exact Zs204
      have V206 := BArr.set Aro207 hszo207 hato207 W206 (clamp_of rfl (by omega) : ((Int32.ofNat (u + 2))).toNatClampNeg = u + 2)
      obtain ⟨f206, hf206⟩ : ∃ f', f' = own_upd f204 (u + 2) (((Int32.ofNat nl).toInt8.toInt32).toInt8.toInt32) := ⟨_, rfl⟩
      rw [← hf206] at V206
      refine own_to T206 (mkF m 149 #[.val (.int i0), .val (.int i1), .val (.int i2), .val (.int (Int32.ofNat nl)), .val (.int (1 : Int32)), .val (.int (1 : Int32)), .val (.int (Int32.ofNat (u))), .val (.ref b195), .val (.int (Int32.ofNat (u + 2))), .unset, .unset, .unset, .unset, .unset] [(.int ((Int32.ofNat (u + 2)) + (1 : Int32))), (.ref b195)]) (fun tq kq => st206 _ (XS.aload X206.here hx rfl (hb hby at_143) rfl rfl (XS.iload X206.here hx rfl (hb hby at_145) rfl (XS.iconst X206.here hx rfl (hb hby at_147) (XS.iadd X206.here hx rfl (hb hby at_148) rfl kq))))) ?_
      rw [show ((Int32.ofNat (u + 2)) + (1 : Int32)) = (Int32.ofNat (u + 3)) from own_addn (u + 2) 1 (by omega) (by decide)]
      refine own_to T206 (mkF m 154 #[.val (.int i0), .val (.int i1), .val (.int i2), .val (.int (Int32.ofNat nl)), .val (.int (1 : Int32)), .val (.int (1 : Int32)), .val (.int (Int32.ofNat (u))), .val (.ref b195), .val (.int (Int32.ofNat (u + 2))), .unset, .unset, .unset, .unset, .unset] [(.int ((((Int32.ofNat nl).toUInt32 >>> ((8 : Int32) &&& 31).toUInt32).toInt32).toInt8.toInt32)), (.int (Int32.ofNat (u + 3))), (.ref b195)]) (fun tq kq => XS.iloadN X206.here hx rfl (hb hby at_149) rfl (XS.bipush X206.here hx rfl (hb hby at_150) (XS.iushr X206.here hx rfl (hb hby at_152) rfl (XS.i2b X206.here hx rfl (hb hby at_153) rfl kq)))) ?_
      obtain ⟨co209, Aro209, hszo209, hato209⟩ := id V206
      obtain ⟨T208, h208, X208, e208, W208, st208⟩ := stB X206 hx hZ e206 Aro209 (j := (Int32.ofNat (u + 3))) (by rw [hszo209]; exact within rfl (show u + 3 < 20 by omega) (by decide)) (g := (mkF m 154 #[.val (.int i0), .val (.int i1), .val (.int i2), .val (.int (Int32.ofNat nl)), .val (.int (1 : Int32)), .val (.int (1 : Int32)), .val (.int (Int32.ofNat (u))), .val (.ref b195), .val (.int (Int32.ofNat (u + 2))), .unset, .unset, .unset, .unset, .unset] [(.int ((((Int32.ofNat nl).toUInt32 >>> ((8 : Int32) &&& 31).toUInt32).toInt32).toInt8.toInt32)), (.int (Int32.ofNat (u + 3))), (.ref b195)])) rfl rfl (hb hby at_154)
      have N208 := Fr.snoc X208 N206 sz195
      have Zs208 : n0 ≤ h208.size := by rw [W208.size]; exact Zs206
      have V208 := BArr.set Aro209 hszo209 hato209 W208 (clamp_of rfl (by omega) : ((Int32.ofNat (u + 3))).toNatClampNeg = u + 3)
      obtain ⟨f208, hf208⟩ : ∃ f', f' = own_upd f206 (u + 3) (((((Int32.ofNat nl).toUInt32 >>> ((8 : Int32) &&& 31).toUInt32).toInt32).toInt8.toInt32).toInt8.toInt32) := ⟨_, rfl⟩
      rw [← hf208] at V208
      refine own_to T208 (mkF m 159 #[.val (.int i0), .val (.int i1), .val (.int i2), .val (.int (Int32.ofNat nl)), .val (.int (1 : Int32)), .val (.int (1 : Int32)), .val (.int (Int32.ofNat (u))), .val (.ref b195), .val (.int (Int32.ofNat (u + 2))), .unset, .unset, .unset, .unset, .unset] [(.int ((Int32.ofNat (u + 2)) + (2 : Int32)))]) (fun tq kq => st208 _ (XS.iload X208.here hx rfl (hb hby at_155) rfl (XS.iconst X208.here hx rfl (hb hby at_157) (XS.iadd X208.here hx rfl (hb hby at_158) rfl kq)))) ?_
      rw [show ((Int32.ofNat (u + 2)) + (2 : Int32)) = (Int32.ofNat (u + 4)) from own_addn (u + 2) 2 (by omega) (by decide)]
      refine own_to T208 (mkF m 172 #[.val (.int i0), .val (.int i1), .val (.int i2), .val (.int (Int32.ofNat nl)), .val (.int (1 : Int32)), .val (.int (1 : Int32)), .val (.int (Int32.ofNat (u))), .val (.ref b195), .val (.int (Int32.ofNat (u + 4))), .unset, .unset, .unset, .unset, .unset] [(.int (44 : Int32)), (.int (Int32.ofNat (u + 4))), (.ref b195)]) (fun tq kq => XS.istore X208.here hx rfl (hb hby at_159) rfl (l' := #[.val (.int i0), .val (.int i1), .val (.int i2), .val (.int (Int32.ofNat nl)), .val (.int (1 : Int32)), .val (.int (1 : Int32)), .val (.int (Int32.ofNat (u))), .val (.ref b195), .val (.int (Int32.ofNat (u + 4))), .unset, .unset, .unset, .unset, .unset]) rfl (XS.iload X208.here hx rfl (hb hby at_161) rfl (XS.ifNo X208.here hx rfl (hb hby at_163) rfl ((if0 _ _).trans (feq (by decide : ¬ ((1 : Int32) = (0 : Int32)))).1) (XS.aload X208.here hx rfl (hb hby at_166) rfl rfl (XS.iload X208.here hx rfl (hb hby at_168) rfl (XS.bipush X208.here hx rfl (hb hby at_170) kq)))))) ?_
      obtain ⟨co211, Aro211, hszo211, hato211⟩ := id V208
      obtain ⟨T210, h210, X210, e210, W210, st210⟩ := stB X208 hx hZ e208 Aro211 (j := (Int32.ofNat (u + 4))) (by rw [hszo211]; exact within rfl (show u + 4 < 20 by omega) (by decide)) (g := (mkF m 172 #[.val (.int i0), .val (.int i1), .val (.int i2), .val (.int (Int32.ofNat nl)), .val (.int (1 : Int32)), .val (.int (1 : Int32)), .val (.int (Int32.ofNat (u))), .val (.ref b195), .val (.int (Int32.ofNat (u + 4))), .unset, .unset, .unset, .unset, .unset] [(.int (44 : Int32)), (.int (Int32.ofNat (u + 4))), (.ref b195)])) rfl rfl (hb hby at_172)
      have N210 := Fr.snoc X210 N208 sz195
      have Zs210 : n0 ≤ h210.size := by rw [W210.size]; exact Zs208
      have V210 := BArr.set Aro211 hszo211 hato211 W210 (clamp_of rfl (by omega) : ((Int32.ofNat (u + 4))).toNatClampNeg = u + 4)
      obtain ⟨f210, hf210⟩ : ∃ f', f' = own_upd f208 (u + 4) ((44 : Int32).toInt8.toInt32) := ⟨_, rfl⟩
      rw [← hf210] at V210
      refine own_to T210 (mkF m 179 #[.val (.int i0), .val (.int i1), .val (.int i2), .val (.int (Int32.ofNat nl)), .val (.int (1 : Int32)), .val (.int (1 : Int32)), .val (.int (Int32.ofNat (u))), .val (.ref b195), .val (.int (Int32.ofNat (u + 4))), .unset, .unset, .unset, .unset, .unset] [(.int ((Int32.ofNat (u + 4)) + (1 : Int32))), (.ref b195)]) (fun tq kq => st210 _ (XS.aload X210.here hx rfl (hb hby at_173) rfl rfl (XS.iload X210.here hx rfl (hb hby at_175) rfl (XS.iconst X210.here hx rfl (hb hby at_177) (XS.iadd X210.here hx rfl (hb hby at_178) rfl kq))))) ?_
      rw [show ((Int32.ofNat (u + 4)) + (1 : Int32)) = (Int32.ofNat (u + 5)) from own_addn (u + 4) 1 (by omega) (by decide)]
      refine own_to T210 (mkF m 181 #[.val (.int i0), .val (.int i1), .val (.int i2), .val (.int (Int32.ofNat nl)), .val (.int (1 : Int32)), .val (.int (1 : Int32)), .val (.int (Int32.ofNat (u))), .val (.ref b195), .val (.int (Int32.ofNat (u + 4))), .unset, .unset, .unset, .unset, .unset] [(.int (44 : Int32)), (.int (Int32.ofNat (u + 5))), (.ref b195)]) (fun tq kq => XS.bipush X210.here hx rfl (hb hby at_179) kq) ?_
      obtain ⟨co213, Aro213, hszo213, hato213⟩ := id V210
      obtain ⟨T212, h212, X212, e212, W212, st212⟩ := stB X210 hx hZ e210 Aro213 (j := (Int32.ofNat (u + 5))) (by rw [hszo213]; exact within rfl (show u + 5 < 20 by omega) (by decide)) (g := (mkF m 181 #[.val (.int i0), .val (.int i1), .val (.int i2), .val (.int (Int32.ofNat nl)), .val (.int (1 : Int32)), .val (.int (1 : Int32)), .val (.int (Int32.ofNat (u))), .val (.ref b195), .val (.int (Int32.ofNat (u + 4))), .unset, .unset, .unset, .unset, .unset] [(.int (44 : Int32)), (.int (Int32.ofNat (u + 5))), (.ref b195)])) rfl rfl (hb hby at_181)
      have N212 := Fr.snoc X212 N210 sz195
      have Zs212 : n0 ≤ h212.size := by rw [W212.size]; exact Zs210
      have V212 := BArr.set Aro213 hszo213 hato213 W212 (clamp_of rfl (by omega) : ((Int32.ofNat (u + 5))).toNatClampNeg = u + 5)
      obtain ⟨f212, hf212⟩ : ∃ f', f' = own_upd f210 (u + 5) ((44 : Int32).toInt8.toInt32) := ⟨_, rfl⟩
      rw [← hf212] at V212
      refine own_to T212 (mkF m 188 #[.val (.int i0), .val (.int i1), .val (.int i2), .val (.int (Int32.ofNat nl)), .val (.int (1 : Int32)), .val (.int (1 : Int32)), .val (.int (Int32.ofNat (u))), .val (.ref b195), .val (.int (Int32.ofNat (u + 4))), .unset, .unset, .unset, .unset, .unset] [(.int ((Int32.ofNat (u + 4)) + (2 : Int32))), (.ref b195)]) (fun tq kq => st212 _ (XS.aload X212.here hx rfl (hb hby at_182) rfl rfl (XS.iload X212.here hx rfl (hb hby at_184) rfl (XS.iconst X212.here hx rfl (hb hby at_186) (XS.iadd X212.here hx rfl (hb hby at_187) rfl kq))))) ?_
      rw [show ((Int32.ofNat (u + 4)) + (2 : Int32)) = (Int32.ofNat (u + 6)) from own_addn (u + 4) 2 (by omega) (by decide)]
      refine own_to T212 (mkF m 190 #[.val (.int i0), .val (.int i1), .val (.int i2), .val (.int (Int32.ofNat nl)), .val (.int (1 : Int32)), .val (.int (1 : Int32)), .val (.int (Int32.ofNat (u))), .val (.ref b195), .val (.int (Int32.ofNat (u + 4))), .unset, .unset, .unset, .unset, .unset] [(.int (44 : Int32)), (.int (Int32.ofNat (u + 6))), (.ref b195)]) (fun tq kq => XS.bipush X212.here hx rfl (hb hby at_188) kq) ?_
      obtain ⟨co215, Aro215, hszo215, hato215⟩ := id V212
      obtain ⟨T214, h214, X214, e214, W214, st214⟩ := stB X212 hx hZ e212 Aro215 (j := (Int32.ofNat (u + 6))) (by rw [hszo215]; exact within rfl (show u + 6 < 20 by omega) (by decide)) (g := (mkF m 190 #[.val (.int i0), .val (.int i1), .val (.int i2), .val (.int (Int32.ofNat nl)), .val (.int (1 : Int32)), .val (.int (1 : Int32)), .val (.int (Int32.ofNat (u))), .val (.ref b195), .val (.int (Int32.ofNat (u + 4))), .unset, .unset, .unset, .unset, .unset] [(.int (44 : Int32)), (.int (Int32.ofNat (u + 6))), (.ref b195)])) rfl rfl (hb hby at_190)
      have N214 := Fr.snoc X214 N212 sz195
      have Zs214 : n0 ≤ h214.size := by rw [W214.size]; exact Zs212
      have V214 := BArr.set Aro215 hszo215 hato215 W214 (clamp_of rfl (by omega) : ((Int32.ofNat (u + 6))).toNatClampNeg = u + 6)
      obtain ⟨f214, hf214⟩ : ∃ f', f' = own_upd f212 (u + 6) ((44 : Int32).toInt8.toInt32) := ⟨_, rfl⟩
      rw [← hf214] at V214
      refine own_to T214 (mkF m 197 #[.val (.int i0), .val (.int i1), .val (.int i2), .val (.int (Int32.ofNat nl)), .val (.int (1 : Int32)), .val (.int (1 : Int32)), .val (.int (Int32.ofNat (u))), .val (.ref b195), .val (.int (Int32.ofNat (u + 4))), .unset, .unset, .unset, .unset, .unset] [(.int ((Int32.ofNat (u + 4)) + (3 : Int32))), (.ref b195)]) (fun tq kq => st214 _ (XS.aload X214.here hx rfl (hb hby at_191) rfl rfl (XS.iload X214.here hx rfl (hb hby at_193) rfl (XS.iconst X214.here hx rfl (hb hby at_195) (XS.iadd X214.here hx rfl (hb hby at_196) rfl kq))))) ?_
      rw [show ((Int32.ofNat (u + 4)) + (3 : Int32)) = (Int32.ofNat (u + 7)) from own_addn (u + 4) 3 (by omega) (by decide)]
      refine own_to T214 (mkF m 199 #[.val (.int i0), .val (.int i1), .val (.int i2), .val (.int (Int32.ofNat nl)), .val (.int (1 : Int32)), .val (.int (1 : Int32)), .val (.int (Int32.ofNat (u))), .val (.ref b195), .val (.int (Int32.ofNat (u + 4))), .unset, .unset, .unset, .unset, .unset] [(.int (44 : Int32)), (.int (Int32.ofNat (u + 7))), (.ref b195)]) (fun tq kq => XS.bipush X214.here hx rfl (hb hby at_197) kq) ?_
      obtain ⟨co217, Aro217, hszo217, hato217⟩ := id V214
      obtain ⟨T216, h216, X216, e216, W216, st216⟩ := stB X214 hx hZ e214 Aro217 (j := (Int32.ofNat (u + 7))) (by rw [hszo217]; exact within rfl (show u + 7 < 20 by omega) (by decide)) (g := (mkF m 199 #[.val (.int i0), .val (.int i1), .val (.int i2), .val (.int (Int32.ofNat nl)), .val (.int (1 : Int32)), .val (.int (1 : Int32)), .val (.int (Int32.ofNat (u))), .val (.ref b195), .val (.int (Int32.ofNat (u + 4))), .unset, .unset, .unset, .unset, .unset] [(.int (44 : Int32)), (.int (Int32.ofNat (u + 7))), (.ref b195)])) rfl rfl (hb hby at_199)
      have N216 := Fr.snoc X216 N214 sz195
      have Zs216 : n0 ≤ h216.size := by rw [W216.size]; exact Zs214
      have V216 := BArr.set Aro217 hszo217 hato217 W216 (clamp_of rfl (by omega) : ((Int32.ofNat (u + 7))).toNatClampNeg = u + 7)
      obtain ⟨f216, hf216⟩ : ∃ f', f' = own_upd f214 (u + 7) ((44 : Int32).toInt8.toInt32) := ⟨_, rfl⟩
      rw [← hf216] at V216
      refine own_to T216 (mkF m 206 #[.val (.int i0), .val (.int i1), .val (.int i2), .val (.int (Int32.ofNat nl)), .val (.int (1 : Int32)), .val (.int (1 : Int32)), .val (.int (Int32.ofNat (u))), .val (.ref b195), .val (.int (Int32.ofNat (u + 4))), .unset, .unset, .unset, .unset, .unset] [(.int ((Int32.ofNat (u + 4)) + (4 : Int32))), (.ref b195)]) (fun tq kq => st216 _ (XS.aload X216.here hx rfl (hb hby at_200) rfl rfl (XS.iload X216.here hx rfl (hb hby at_202) rfl (XS.iconst X216.here hx rfl (hb hby at_204) (XS.iadd X216.here hx rfl (hb hby at_205) rfl kq))))) ?_
      rw [show ((Int32.ofNat (u + 4)) + (4 : Int32)) = (Int32.ofNat (u + 8)) from own_addn (u + 4) 4 (by omega) (by decide)]
      refine own_to T216 (mkF m 208 #[.val (.int i0), .val (.int i1), .val (.int i2), .val (.int (Int32.ofNat nl)), .val (.int (1 : Int32)), .val (.int (1 : Int32)), .val (.int (Int32.ofNat (u))), .val (.ref b195), .val (.int (Int32.ofNat (u + 4))), .unset, .unset, .unset, .unset, .unset] [(.int (44 : Int32)), (.int (Int32.ofNat (u + 8))), (.ref b195)]) (fun tq kq => XS.bipush X216.here hx rfl (hb hby at_206) kq) ?_
      obtain ⟨co219, Aro219, hszo219, hato219⟩ := id V216
      obtain ⟨T218, h218, X218, e218, W218, st218⟩ := stB X216 hx hZ e216 Aro219 (j := (Int32.ofNat (u + 8))) (by rw [hszo219]; exact within rfl (show u + 8 < 20 by omega) (by decide)) (g := (mkF m 208 #[.val (.int i0), .val (.int i1), .val (.int i2), .val (.int (Int32.ofNat nl)), .val (.int (1 : Int32)), .val (.int (1 : Int32)), .val (.int (Int32.ofNat (u))), .val (.ref b195), .val (.int (Int32.ofNat (u + 4))), .unset, .unset, .unset, .unset, .unset] [(.int (44 : Int32)), (.int (Int32.ofNat (u + 8))), (.ref b195)])) rfl rfl (hb hby at_208)
      have N218 := Fr.snoc X218 N216 sz195
      have Zs218 : n0 ≤ h218.size := by rw [W218.size]; exact Zs216
      have V218 := BArr.set Aro219 hszo219 hato219 W218 (clamp_of rfl (by omega) : ((Int32.ofNat (u + 8))).toNatClampNeg = u + 8)
      obtain ⟨f218, hf218⟩ : ∃ f', f' = own_upd f216 (u + 8) ((44 : Int32).toInt8.toInt32) := ⟨_, rfl⟩
      rw [← hf218] at V218
      refine own_to T218 (mkF m 215 #[.val (.int i0), .val (.int i1), .val (.int i2), .val (.int (Int32.ofNat nl)), .val (.int (1 : Int32)), .val (.int (1 : Int32)), .val (.int (Int32.ofNat (u))), .val (.ref b195), .val (.int (Int32.ofNat (u + 4))), .unset, .unset, .unset, .unset, .unset] [(.int ((Int32.ofNat (u + 4)) + (5 : Int32))), (.ref b195)]) (fun tq kq => st218 _ (XS.aload X218.here hx rfl (hb hby at_209) rfl rfl (XS.iload X218.here hx rfl (hb hby at_211) rfl (XS.iconst X218.here hx rfl (hb hby at_213) (XS.iadd X218.here hx rfl (hb hby at_214) rfl kq))))) ?_
      rw [show ((Int32.ofNat (u + 4)) + (5 : Int32)) = (Int32.ofNat (u + 9)) from own_addn (u + 4) 5 (by omega) (by decide)]
      refine own_to T218 (mkF m 217 #[.val (.int i0), .val (.int i1), .val (.int i2), .val (.int (Int32.ofNat nl)), .val (.int (1 : Int32)), .val (.int (1 : Int32)), .val (.int (Int32.ofNat (u))), .val (.ref b195), .val (.int (Int32.ofNat (u + 4))), .unset, .unset, .unset, .unset, .unset] [(.int (44 : Int32)), (.int (Int32.ofNat (u + 9))), (.ref b195)]) (fun tq kq => XS.bipush X218.here hx rfl (hb hby at_215) kq) ?_
      obtain ⟨co221, Aro221, hszo221, hato221⟩ := id V218
      obtain ⟨T220, h220, X220, e220, W220, st220⟩ := stB X218 hx hZ e218 Aro221 (j := (Int32.ofNat (u + 9))) (by rw [hszo221]; exact within rfl (show u + 9 < 20 by omega) (by decide)) (g := (mkF m 217 #[.val (.int i0), .val (.int i1), .val (.int i2), .val (.int (Int32.ofNat nl)), .val (.int (1 : Int32)), .val (.int (1 : Int32)), .val (.int (Int32.ofNat (u))), .val (.ref b195), .val (.int (Int32.ofNat (u + 4))), .unset, .unset, .unset, .unset, .unset] [(.int (44 : Int32)), (.int (Int32.ofNat (u + 9))), (.ref b195)])) rfl rfl (hb hby at_217)
      have N220 := Fr.snoc X220 N218 sz195
      have Zs220 : n0 ≤ h220.size := by rw [W220.size]; exact Zs218
      have V220 := BArr.set Aro221 hszo221 hato221 W220 (clamp_of rfl (by omega) : ((Int32.ofNat (u + 9))).toNatClampNeg = u + 9)
      obtain ⟨f220, hf220⟩ : ∃ f', f' = own_upd f218 (u + 9) ((44 : Int32).toInt8.toInt32) := ⟨_, rfl⟩
      rw [← hf220] at V220
      refine own_to T220 (mkF m 225 #[.val (.int i0), .val (.int i1), .val (.int i2), .val (.int (Int32.ofNat nl)), .val (.int (1 : Int32)), .val (.int (1 : Int32)), .val (.int (Int32.ofNat (u))), .val (.ref b195), .val (.int (Int32.ofNat (u + 4))), .unset, .unset, .unset, .unset, .unset] [(.int ((Int32.ofNat (u + 4)) + (6 : Int32))), (.ref b195)]) (fun tq kq => st220 _ (XS.aload X220.here hx rfl (hb hby at_218) rfl rfl (XS.iload X220.here hx rfl (hb hby at_220) rfl (XS.bipush X220.here hx rfl (hb hby at_222) (XS.iadd X220.here hx rfl (hb hby at_224) rfl kq))))) ?_
      rw [show ((Int32.ofNat (u + 4)) + (6 : Int32)) = (Int32.ofNat (u + 10)) from own_addn (u + 4) 6 (by omega) (by decide)]
      refine own_to T220 (mkF m 227 #[.val (.int i0), .val (.int i1), .val (.int i2), .val (.int (Int32.ofNat nl)), .val (.int (1 : Int32)), .val (.int (1 : Int32)), .val (.int (Int32.ofNat (u))), .val (.ref b195), .val (.int (Int32.ofNat (u + 4))), .unset, .unset, .unset, .unset, .unset] [(.int (44 : Int32)), (.int (Int32.ofNat (u + 10))), (.ref b195)]) (fun tq kq => XS.bipush X220.here hx rfl (hb hby at_225) kq) ?_
      obtain ⟨co223, Aro223, hszo223, hato223⟩ := id V220
      obtain ⟨T222, h222, X222, e222, W222, st222⟩ := stB X220 hx hZ e220 Aro223 (j := (Int32.ofNat (u + 10))) (by rw [hszo223]; exact within rfl (show u + 10 < 20 by omega) (by decide)) (g := (mkF m 227 #[.val (.int i0), .val (.int i1), .val (.int i2), .val (.int (Int32.ofNat nl)), .val (.int (1 : Int32)), .val (.int (1 : Int32)), .val (.int (Int32.ofNat (u))), .val (.ref b195), .val (.int (Int32.ofNat (u + 4))), .unset, .unset, .unset, .unset, .unset] [(.int (44 : Int32)), (.int (Int32.ofNat (u + 10))), (.ref b195)])) rfl rfl (hb hby at_227)
      have N222 := Fr.snoc X222 N220 sz195
      have Zs222 : n0 ≤ h222.size := by rw [W222.size]; exact Zs220
      have V222 := BArr.set Aro223 hszo223 hato223 W222 (clamp_of rfl (by omega) : ((Int32.ofNat (u + 10))).toNatClampNeg = u + 10)
      obtain ⟨f222, hf222⟩ : ∃ f', f' = own_upd f220 (u + 10) ((44 : Int32).toInt8.toInt32) := ⟨_, rfl⟩
      rw [← hf222] at V222
      refine own_to T222 (mkF m 235 #[.val (.int i0), .val (.int i1), .val (.int i2), .val (.int (Int32.ofNat nl)), .val (.int (1 : Int32)), .val (.int (1 : Int32)), .val (.int (Int32.ofNat (u))), .val (.ref b195), .val (.int (Int32.ofNat (u + 4))), .unset, .unset, .unset, .unset, .unset] [(.int ((Int32.ofNat (u + 4)) + (7 : Int32))), (.ref b195)]) (fun tq kq => st222 _ (XS.aload X222.here hx rfl (hb hby at_228) rfl rfl (XS.iload X222.here hx rfl (hb hby at_230) rfl (XS.bipush X222.here hx rfl (hb hby at_232) (XS.iadd X222.here hx rfl (hb hby at_234) rfl kq))))) ?_
      rw [show ((Int32.ofNat (u + 4)) + (7 : Int32)) = (Int32.ofNat (u + 11)) from own_addn (u + 4) 7 (by omega) (by decide)]
      refine own_to T222 (mkF m 237 #[.val (.int i0), .val (.int i1), .val (.int i2), .val (.int (Int32.ofNat nl)), .val (.int (1 : Int32)), .val (.int (1 : Int32)), .val (.int (Int32.ofNat (u))), .val (.ref b195), .val (.int (Int32.ofNat (u + 4))), .unset, .unset, .unset, .unset, .unset] [(.int (44 : Int32)), (.int (Int32.ofNat (u + 11))), (.ref b195)]) (fun tq kq => XS.bipush X222.here hx rfl (hb hby at_235) kq) ?_
      obtain ⟨co225, Aro225, hszo225, hato225⟩ := id V222
      obtain ⟨T224, h224, X224, e224, W224, st224⟩ := stB X222 hx hZ e222 Aro225 (j := (Int32.ofNat (u + 11))) (by rw [hszo225]; exact within rfl (show u + 11 < 20 by omega) (by decide)) (g := (mkF m 237 #[.val (.int i0), .val (.int i1), .val (.int i2), .val (.int (Int32.ofNat nl)), .val (.int (1 : Int32)), .val (.int (1 : Int32)), .val (.int (Int32.ofNat (u))), .val (.ref b195), .val (.int (Int32.ofNat (u + 4))), .unset, .unset, .unset, .unset, .unset] [(.int (44 : Int32)), (.int (Int32.ofNat (u + 11))), (.ref b195)])) rfl rfl (hb hby at_237)
      have N224 := Fr.snoc X224 N222 sz195
      have Zs224 : n0 ≤ h224.size := by rw [W224.size]; exact Zs222
      have V224 := BArr.set Aro225 hszo225 hato225 W224 (clamp_of rfl (by omega) : ((Int32.ofNat (u + 11))).toNatClampNeg = u + 11)
      obtain ⟨f224, hf224⟩ : ∃ f', f' = own_upd f222 (u + 11) ((44 : Int32).toInt8.toInt32) := ⟨_, rfl⟩
      rw [← hf224] at V224
      refine own_to T224 (mkF m 243 #[.val (.int i0), .val (.int i1), .val (.int i2), .val (.int (Int32.ofNat nl)), .val (.int (1 : Int32)), .val (.int (1 : Int32)), .val (.int (Int32.ofNat (u))), .val (.ref b195), .val (.int (Int32.ofNat (u + 4))), .unset, .unset, .unset, .unset, .unset] [(.int ((Int32.ofNat (u + 4)) + (8 : Int32)))]) (fun tq kq => st224 _ (XS.iload X224.here hx rfl (hb hby at_238) rfl (XS.bipush X224.here hx rfl (hb hby at_240) (XS.iadd X224.here hx rfl (hb hby at_242) rfl kq)))) ?_
      rw [show ((Int32.ofNat (u + 4)) + (8 : Int32)) = (Int32.ofNat (u + 12)) from own_addn (u + 4) 8 (by omega) (by decide)]
      refine own_to T224 (mkF m 338 #[.val (.int i0), .val (.int i1), .val (.int i2), .val (.int (Int32.ofNat nl)), .val (.int (1 : Int32)), .val (.int (1 : Int32)), .val (.int (Int32.ofNat (u))), .val (.ref b195), .val (.int (Int32.ofNat (u + 12))), .unset, .unset, .unset, .unset, .unset] []) (fun tq kq => XS.istore X224.here hx rfl (hb hby at_243) rfl (l' := #[.val (.int i0), .val (.int i1), .val (.int i2), .val (.int (Int32.ofNat nl)), .val (.int (1 : Int32)), .val (.int (1 : Int32)), .val (.int (Int32.ofNat (u))), .val (.ref b195), .val (.int (Int32.ofNat (u + 12))), .unset, .unset, .unset, .unset, .unset]) rfl (XS.goto X224.here hx rfl (pc0 := 245) (pc' := 338) rfl (hb hby at_245) (by decide) (by decide) kq)) ?_
      obtain ⟨T226, h226, X226, e226, E226, A226, D226, -, st226⟩ := newO X224 hx hZ hown (own_w hw 1 rfl) (own_w hw 2 rfl) (own_w hw 3 rfl) e224 (g := (mkF m 338 #[.val (.int i0), .val (.int i1), .val (.int i2), .val (.int (Int32.ofNat nl)), .val (.int (1 : Int32)), .val (.int (1 : Int32)), .val (.int (Int32.ofNat (u))), .val (.ref b195), .val (.int (Int32.ofNat (u + 12))), .unset, .unset, .unset, .unset, .unset] [])) rfl (hb hby at_338) (by decide) (by decide)
      obtain ⟨b226, g226⟩ : ∃ z, z = h224.size := ⟨_, rfl⟩
      rw [← g226] at A226 D226 st226
      have ne_b195_b226 : own_ne b195 b226 := Nat.ne_of_lt (Nat.lt_of_lt_of_le V224.lt (Nat.le_of_eq g226.symm))
      have f227 := V224.ext E226
      have sz226 : n0 ≤ b226 := Nat.le_trans Zs224 (Nat.le_of_eq g226.symm)
      have Zs226 : n0 ≤ h226.size := Nat.le_trans Zs224 E226.1
      have F226_packed : Fld Z h226 b226 "com/example/warmjoin/warmjoin/PackedFields$Cursor" "packed" "[B" .null := D226 (Or.inl (own_w hw 16 rfl)) (ty := (.array .byte)) (by decide)
      have F226_to : Fld Z h226 b226 "com/example/warmjoin/warmjoin/PackedFields$Cursor" "to" "I" (.int (0 : Int32)) := D226 (Or.inl (own_w hw 18 rfl)) (ty := .int) (by decide)
      have F226_at : Fld Z h226 b226 "com/example/warmjoin/warmjoin/PackedFields$Cursor" "at" "I" (.int (0 : Int32)) := D226 (Or.inl (own_w hw 20 rfl)) (ty := .int) (by decide)
      have F226_left : Fld Z h226 b226 "com/example/warmjoin/warmjoin/PackedFields$Cursor" "left" "I" (.int (0 : Int32)) := D226 (Or.inl (own_w hw 22 rfl)) (ty := .int) (by decide)
      have F226_text : Fld Z h226 b226 "com/example/warmjoin/warmjoin/PackedFields$Cursor" "text" "Z" (.int (0 : Int32)) := D226 (Or.inl (own_w hw 52 rfl)) (ty := .boolean) (by decide)
      have F226_textEnd : Fld Z h226 b226 "com/example/warmjoin/warmjoin/PackedFields$Cursor" "textEnd" "I" (.int (0 : Int32)) := D226 (Or.inl (own_w hw 57 rfl)) (ty := .int) (by decide)
      have F226_literals : Fld Z h226 b226 "com/example/warmjoin/warmjoin/PackedFields$Cursor" "literals" "I" (.int (0 : Int32)) := D226 (Or.inl (own_w hw 60 rfl)) (ty := .int) (by decide)
      have F226_index : Fld Z h226 b226 "com/example/warmjoin/warmjoin/PackedFields$Cursor" "index" "I" (.int (0 : Int32)) := D226 (Or.inl (own_w hw 62 rfl)) (ty := .int) (by decide)
      have F226_offset : Fld Z h226 b226 "com/example/warmjoin/warmjoin/PackedFields$Cursor" "offset" "I" (.int (0 : Int32)) := D226 (Or.inl (own_w hw 67 rfl)) (ty := .int) (by decide)
      have F226_length : Fld Z h226 b226 "com/example/warmjoin/warmjoin/PackedFields$Cursor" "length" "I" (.int (0 : Int32)) := D226 (Or.inl (own_w hw 69 rfl)) (ty := .int) (by decide)
      refine own_to T226 (mkF m 342 #[.val (.int i0), .val (.int i1), .val (.int i2), .val (.int (Int32.ofNat nl)), .val (.int (1 : Int32)), .val (.int (1 : Int32)), .val (.int (Int32.ofNat (u))), .val (.ref b195), .val (.int (Int32.ofNat (u + 12))), .unset, .unset, .unset, .unset, .unset] [(.ref b226), (.ref b226)]) (fun tq kq => st226 _ (XS.dup X226.here hx rfl (hb hby at_341) rfl rfl kq)) ?_
      obtain ⟨_, _, ⟨T228, L228, k228, n228⟩, -, X228, ⟨Lc228, hQ228, l228, y228, z228⟩, st228⟩ := X226.specialBack hx (y := (⟨"com/example/warmjoin/warmjoin/PackedFields$Cursor", "<init>", "()V"⟩ : MethodName)) rfl hown (mvT hZ (own_w hw 4 rfl)) (mvT hZ (own_w hw 5 rfl)) (mvT hZ (own_w hw 6 rfl)) (by decide) (backOf (W := 1) (rm_init l Z a0 hw [] b226 h226 n0 Zs226) hZ (own_w hw 6 rfl) (own_w hw 3 rfl) (by decide) (by decide)) (g := (mkF m 342 #[.val (.int i0), .val (.int i1), .val (.int i2), .val (.int (Int32.ofNat nl)), .val (.int (1 : Int32)), .val (.int (1 : Int32)), .val (.int (Int32.ofNat (u))), .val (.ref b195), .val (.int (Int32.ofNat (u + 12))), .unset, .unset, .unset, .unset, .unset] [(.ref b226), (.ref b226)])) rfl (by rw [hml]; rfl) (Steps.refl _) (a := b226) (argsL := []) (rest := [(.ref b226)]) (lenOf pd_0 rfl) rfl (by show 2 * 0 + _ ≤ _; exact Nat.le_of_eq rfl) (hb hby at_342) (fun _ _ => ⟨rfl, e226, (by decide : 2 + 0 ≤ _), (by decide : 30 + 0 ≤ _)⟩)
      dsimp only [Pt.U, Pt.locs, Pt.cells, Pt.slots] at X228 l228 y228 z228 st228 hQ228
      have l228y := l228.symm
      clear l228
      subst l228y
      obtain rfl : k228 = 2 := y228
      obtain rfl : n228 = 30 := z228
      obtain ⟨rfl, N228q, e228⟩ := hQ228
      have N228 := Fr.app N224 N228q
      refine own_to T228 (mkF m 351 #[.val (.int i0), .val (.int i1), .val (.int i2), .val (.int (Int32.ofNat nl)), .val (.int (1 : Int32)), .val (.int (1 : Int32)), .val (.int (Int32.ofNat (u))), .val (.ref b195), .val (.int (Int32.ofNat (u + 12))), .unset, .unset, .unset, .unset, .unset] [(.int (Int32.ofNat (u + 12))), (.int (Int32.ofNat (u))), (.ref b195), (.ref b226)]) (fun tq kq => st228.trans (XS.aload X228.here hx rfl (hb hby at_345) rfl rfl (XS.iload X228.here hx rfl (hb hby at_347) rfl (XS.iload X228.here hx rfl (hb hby at_349) rfl kq)))) ?_
      -- what the buffer holds
      have g_u : f224 (u) = (39 : Int32) := by simp [hf196, hf198, hf200, hf202, hf204, hf206, hf208, hf210, hf212, hf214, hf216, hf218, hf220, hf222, hf224, own_upd]; try decide
      have g_u_1 : f224 (u + 1) = (8 : Int32) := by simp [hf196, hf198, hf200, hf202, hf204, hf206, hf208, hf210, hf212, hf214, hf216, hf218, hf220, hf222, hf224, own_upd]; try decide
      have g_u_2 : f224 (u + 2) = ((Int32.ofNat nl).toInt8.toInt32).toInt8.toInt32 := by simp [hf196, hf198, hf200, hf202, hf204, hf206, hf208, hf210, hf212, hf214, hf216, hf218, hf220, hf222, hf224, own_upd]
      have g_u_3 : f224 (u + 3) = ((((Int32.ofNat nl).toUInt32 >>> ((8 : Int32) &&& 31).toUInt32).toInt32).toInt8.toInt32).toInt8.toInt32 := by simp [hf196, hf198, hf200, hf202, hf204, hf206, hf208, hf210, hf212, hf214, hf216, hf218, hf220, hf222, hf224, own_upd]
      have g_u_4 : f224 (u + 4) = (44 : Int32) := by simp [hf196, hf198, hf200, hf202, hf204, hf206, hf208, hf210, hf212, hf214, hf216, hf218, hf220, hf222, hf224, own_upd]; try decide
      have g_u_5 : f224 (u + 5) = (44 : Int32) := by simp [hf196, hf198, hf200, hf202, hf204, hf206, hf208, hf210, hf212, hf214, hf216, hf218, hf220, hf222, hf224, own_upd]; try decide
      have g_u_6 : f224 (u + 6) = (44 : Int32) := by simp [hf196, hf198, hf200, hf202, hf204, hf206, hf208, hf210, hf212, hf214, hf216, hf218, hf220, hf222, hf224, own_upd]; try decide
      have g_u_7 : f224 (u + 7) = (44 : Int32) := by simp [hf196, hf198, hf200, hf202, hf204, hf206, hf208, hf210, hf212, hf214, hf216, hf218, hf220, hf222, hf224, own_upd]; try decide
      have g_u_8 : f224 (u + 8) = (44 : Int32) := by simp [hf196, hf198, hf200, hf202, hf204, hf206, hf208, hf210, hf212, hf214, hf216, hf218, hf220, hf222, hf224, own_upd]; try decide
      have g_u_9 : f224 (u + 9) = (44 : Int32) := by simp [hf196, hf198, hf200, hf202, hf204, hf206, hf208, hf210, hf212, hf214, hf216, hf218, hf220, hf222, hf224, own_upd]; try decide
      have g_u_10 : f224 (u + 10) = (44 : Int32) := by simp [hf196, hf198, hf200, hf202, hf204, hf206, hf208, hf210, hf212, hf214, hf216, hf218, hf220, hf222, hf224, own_upd]; try decide
      have g_u_11 : f224 (u + 11) = (44 : Int32) := by simp [hf196, hf198, hf200, hf202, hf204, hf206, hf208, hf210, hf212, hf214, hf216, hf218, hf220, hf222, hf224, own_upd]; try decide
      obtain ⟨cq229, kq229, q229a, q229b, q229c⟩ := isOf hZ e228 A226
      obtain ⟨_, _, ⟨T229, L229, k229, n229⟩, -, X229, ⟨Lc229, hQ229, l229, y229, z229⟩, st229⟩ := X228.virtualBack hx (y := (⟨"com/example/warmjoin/warmjoin/PackedFields$Cursor", "over", "([BII)Lcom/example/warmjoin/warmjoin/PackedFields$Cursor;"⟩ : MethodName)) (z := (⟨"com/example/warmjoin/warmjoin/PackedFields$Cursor", "over", "([BII)Lcom/example/warmjoin/warmjoin/PackedFields$Cursor;"⟩ : MethodName)) hown (mvT hZ (own_w hw 10 rfl)) (mvT hZ (own_w hw 11 rfl)) (notFace_of_selects (args := #[]) (mvT hZ (own_w hw 13 rfl))) (mvT hZ (own_w hw 13 rfl)) (mvT hZ (own_w hw 12 rfl)) (by decide) (backOf (W := 0) (rm_over l Z a0 hw [] b226 b195 (Int32.ofNat (u)) (Int32.ofNat (u + 12)) h226 n0 Zs226 (show Cur Z h226 b226 .null (0 : Int32) (0 : Int32) (0 : Int32) (0 : Int32) (0 : Int32) (0 : Int32) (0 : Int32) (0 : Int32) (0 : Int32) from ⟨A226, F226_packed, F226_to, F226_at, F226_left, F226_text, F226_textEnd, F226_literals, F226_index, F226_offset, F226_length⟩) sz226) hZ (own_w hw 14 rfl) (own_w hw 3 rfl) (by decide) (by decide)) q229a q229c (g := (mkF m 351 #[.val (.int i0), .val (.int i1), .val (.int i2), .val (.int (Int32.ofNat nl)), .val (.int (1 : Int32)), .val (.int (1 : Int32)), .val (.int (Int32.ofNat (u))), .val (.ref b195), .val (.int (Int32.ofNat (u + 12))), .unset, .unset, .unset, .unset, .unset] [(.int (Int32.ofNat (u + 12))), (.int (Int32.ofNat (u))), (.ref b195), (.ref b226)])) rfl (by rw [hml]; rfl) (Steps.refl _) (argsL := [(.ref b195), (.int (Int32.ofNat (u))), (.int (Int32.ofNat (u + 12)))]) (rest := []) (lenOf pd_1 rfl) rfl (by show 2 * 0 + _ ≤ _; exact Nat.le_of_eq rfl) (hb hby at_351) (fun _ _ => ⟨rfl, e228, (by decide : 2 + 0 ≤ _), (by decide : 30 + 0 ≤ _)⟩)
      dsimp only [Pt.U, Pt.locs, Pt.cells, Pt.slots] at X229 l229 y229 z229 st229 hQ229
      have l229y := l229.symm
      clear l229
      subst l229y
      obtain rfl : k229 = 2 := y229
      obtain rfl : n229 = 30 := z229
      obtain ⟨rfl, N229q, K229q, U229⟩ := hQ229
      have N229 := Fr.app N228 N229q
      have f230 := f227.keep K229q (ninS ne_b195_b226 nin0)
      have f231 := A226.keep K229q
      have Zs229 : n0 ≤ T229.heap.size := Nat.le_trans Zs226 K229q.1
      refine own_to T229 (mkF m 358 #[.val (.int i0), .val (.int i1), .val (.int i2), .val (.int (Int32.ofNat nl)), .val (.int (1 : Int32)), .val (.int (1 : Int32)), .val (.int (Int32.ofNat (u))), .val (.ref b195), .val (.int (Int32.ofNat (u + 12))), .val (.ref b226), .unset, .unset, .unset, .unset] [(.ref b226)]) (fun tq kq => st229.trans (XS.astore X229.here hx rfl (hb hby at_354) rfl rfl (l' := #[.val (.int i0), .val (.int i1), .val (.int i2), .val (.int (Int32.ofNat nl)), .val (.int (1 : Int32)), .val (.int (1 : Int32)), .val (.int (Int32.ofNat (u))), .val (.ref b195), .val (.int (Int32.ofNat (u + 12))), .val (.ref b226), .unset, .unset, .unset, .unset]) rfl (XS.aload X229.here hx rfl (hb hby at_356) rfl rfl kq))) ?_
      obtain ⟨cq232, kq232, q232a, q232b, q232c⟩ := isOf hZ rfl f231
      obtain ⟨_, _, ⟨T232, L232, k232, n232⟩, -, X232, ⟨Lc232, hQ232, l232, y232, z232⟩, st232⟩ := X229.virtualBack hx (y := (⟨"com/example/warmjoin/warmjoin/PackedFields$Cursor", "next", "()Z"⟩ : MethodName)) (z := (⟨"com/example/warmjoin/warmjoin/PackedFields$Cursor", "next", "()Z"⟩ : MethodName)) hown (mvT hZ (own_w hw 23 rfl)) (mvT hZ (own_w hw 24 rfl)) (notFace_of_selects (args := #[]) (mvT hZ (own_w hw 26 rfl))) (mvT hZ (own_w hw 26 rfl)) (mvT hZ (own_w hw 25 rfl)) (by decide) (backOf (W := 0) (rm_next011 l Z a0 hw [] b226 b195 f224 u (u + 12) _ _ _ _ _ _ T229.heap n0 Zs229 U229 (Ne.symm ne_b195_b226) sz226 f230 hu4 (by omega) (by omega) (g_u.trans rfl) (g_u_1.trans rfl) (fun _ => g_u_4)) hZ (own_w hw 27 rfl) (own_w hw 3 rfl) (by decide) (by decide)) q232a q232c (g := (mkF m 358 #[.val (.int i0), .val (.int i1), .val (.int i2), .val (.int (Int32.ofNat nl)), .val (.int (1 : Int32)), .val (.int (1 : Int32)), .val (.int (Int32.ofNat (u))), .val (.ref b195), .val (.int (Int32.ofNat (u + 12))), .val (.ref b226), .unset, .unset, .unset, .unset] [(.ref b226)])) rfl (by rw [hml]; rfl) (Steps.refl _) (argsL := []) (rest := []) (lenOf pd_2 rfl) rfl (by show 2 * 0 + _ ≤ _; exact Nat.le_of_eq rfl) (hb hby at_358) (fun _ _ => ⟨rfl, rfl, (by decide : 2 + 0 ≤ _), (by decide : 30 + 0 ≤ _)⟩)
      dsimp only [Pt.U, Pt.locs, Pt.cells, Pt.slots] at X232 l232 y232 z232 st232 hQ232
      have l232y := l232.symm
      clear l232
      subst l232y
      obtain rfl : k232 = 2 := y232
      obtain rfl : n232 = 30 := z232
      obtain ⟨rfl, N232q, K232q, o232, l232, U232⟩ := hQ232
      have N232 := Fr.app N229 N232q
      have f233 := f230.keep K232q (ninS ne_b195_b226 nin0)
      have f234 := f231.keep K232q
      have Zs232 : n0 ≤ T232.heap.size := Nat.le_trans Zs229 K232q.1
      refine own_to T232 (mkF m 364 #[.val (.int i0), .val (.int i1), .val (.int i2), .val (.int (Int32.ofNat nl)), .val (.int (1 : Int32)), .val (.int (1 : Int32)), .val (.int (Int32.ofNat (u))), .val (.ref b195), .val (.int (Int32.ofNat (u + 12))), .val (.ref b226), .unset, .unset, .unset, .unset] [(.ref b226)]) (fun tq kq => st232.trans (XS.pop X232.here hx rfl (hb hby at_361) rfl rfl (XS.aload X232.here hx rfl (hb hby at_362) rfl rfl kq))) ?_
      obtain ⟨cq235, kq235, q235a, q235b, q235c⟩ := isOf hZ rfl f234
      obtain ⟨_, _, ⟨T235, L235, k235, n235⟩, -, X235, ⟨Lc235, hQ235, l235, y235, z235⟩, st235⟩ := X232.virtualBack hx (y := (⟨"com/example/warmjoin/warmjoin/PackedFields$Cursor", "next", "()Z"⟩ : MethodName)) (z := (⟨"com/example/warmjoin/warmjoin/PackedFields$Cursor", "next", "()Z"⟩ : MethodName)) hown (mvT hZ (own_w hw 23 rfl)) (mvT hZ (own_w hw 24 rfl)) (notFace_of_selects (args := #[]) (mvT hZ (own_w hw 26 rfl))) (mvT hZ (own_w hw 26 rfl)) (mvT hZ (own_w hw 25 rfl)) (by decide) (backOf (W := 0) (rm_next1T l Z a0 hw [] b226 b195 f224 (u + 5) 8 (u + 12) 0 _ _ _ _ T232.heap n0 Zs232 U232 (Ne.symm ne_b195_b226) sz226 f233 (by omega) (by omega) (by omega) (by omega) (by omega) (by omega) (fun _ => g_u_5)) hZ (own_w hw 27 rfl) (own_w hw 3 rfl) (by decide) (by decide)) q235a q235c (g := (mkF m 364 #[.val (.int i0), .val (.int i1), .val (.int i2), .val (.int (Int32.ofNat nl)), .val (.int (1 : Int32)), .val (.int (1 : Int32)), .val (.int (Int32.ofNat (u))), .val (.ref b195), .val (.int (Int32.ofNat (u + 12))), .val (.ref b226), .unset, .unset, .unset, .unset] [(.ref b226)])) rfl (by rw [hml]; rfl) (Steps.refl _) (argsL := []) (rest := []) (lenOf pd_2 rfl) rfl (by show 2 * 0 + _ ≤ _; exact Nat.le_of_eq rfl) (hb hby at_364) (fun _ _ => ⟨rfl, rfl, (by decide : 2 + 0 ≤ _), (by decide : 30 + 0 ≤ _)⟩)
      dsimp only [Pt.U, Pt.locs, Pt.cells, Pt.slots] at X235 l235 y235 z235 st235 hQ235
      have l235y := l235.symm
      clear l235
      subst l235y
      obtain rfl : k235 = 2 := y235
      obtain rfl : n235 = 30 := z235
      obtain ⟨rfl, N235q, K235q, o235, l235, U235⟩ := hQ235
      have N235 := Fr.app N232 N235q
      have f236 := f233.keep K235q (ninS ne_b195_b226 nin0)
      have f237 := f234.keep K235q
      have Zs235 : n0 ≤ T235.heap.size := Nat.le_trans Zs232 K235q.1
      refine own_to T235 (mkF m 370 #[.val (.int i0), .val (.int i1), .val (.int i2), .val (.int (Int32.ofNat nl)), .val (.int (1 : Int32)), .val (.int (1 : Int32)), .val (.int (Int32.ofNat (u))), .val (.ref b195), .val (.int (Int32.ofNat (u + 12))), .val (.ref b226), .unset, .unset, .unset, .unset] [(.ref b226)]) (fun tq kq => st235.trans (XS.pop X235.here hx rfl (hb hby at_367) rfl rfl (XS.aload X235.here hx rfl (hb hby at_368) rfl rfl kq))) ?_
      obtain ⟨cq238, kq238, q238a, q238b, q238c⟩ := isOf hZ rfl f237
      obtain ⟨_, _, ⟨T238, L238, k238, n238⟩, -, X238, ⟨Lc238, hQ238, l238, y238, z238⟩, st238⟩ := X235.virtualBack hx (y := (⟨"com/example/warmjoin/warmjoin/PackedFields$Cursor", "next", "()Z"⟩ : MethodName)) (z := (⟨"com/example/warmjoin/warmjoin/PackedFields$Cursor", "next", "()Z"⟩ : MethodName)) hown (mvT hZ (own_w hw 23 rfl)) (mvT hZ (own_w hw 24 rfl)) (notFace_of_selects (args := #[]) (mvT hZ (own_w hw 26 rfl))) (mvT hZ (own_w hw 26 rfl)) (mvT hZ (own_w hw 25 rfl)) (by decide) (backOf (W := 0) (rm_next1T l Z a0 hw [] b226 b195 f224 (u + 6) 7 (u + 12) 1 _ _ _ _ T235.heap n0 Zs235 U235 (Ne.symm ne_b195_b226) sz226 f236 (by omega) (by omega) (by omega) (by omega) (by omega) (by omega) (fun _ => g_u_6)) hZ (own_w hw 27 rfl) (own_w hw 3 rfl) (by decide) (by decide)) q238a q238c (g := (mkF m 370 #[.val (.int i0), .val (.int i1), .val (.int i2), .val (.int (Int32.ofNat nl)), .val (.int (1 : Int32)), .val (.int (1 : Int32)), .val (.int (Int32.ofNat (u))), .val (.ref b195), .val (.int (Int32.ofNat (u + 12))), .val (.ref b226), .unset, .unset, .unset, .unset] [(.ref b226)])) rfl (by rw [hml]; rfl) (Steps.refl _) (argsL := []) (rest := []) (lenOf pd_2 rfl) rfl (by show 2 * 0 + _ ≤ _; exact Nat.le_of_eq rfl) (hb hby at_370) (fun _ _ => ⟨rfl, rfl, (by decide : 2 + 0 ≤ _), (by decide : 30 + 0 ≤ _)⟩)
      dsimp only [Pt.U, Pt.locs, Pt.cells, Pt.slots] at X238 l238 y238 z238 st238 hQ238
      have l238y := l238.symm
      clear l238
      subst l238y
      obtain rfl : k238 = 2 := y238
      obtain rfl : n238 = 30 := z238
      obtain ⟨rfl, N238q, K238q, o238, l238, U238⟩ := hQ238
      have N238 := Fr.app N235 N238q
      have f239 := f236.keep K238q (ninS ne_b195_b226 nin0)
      have f240 := f237.keep K238q
      have Zs238 : n0 ≤ T238.heap.size := Nat.le_trans Zs235 K238q.1
      refine own_to T238 (mkF m 376 #[.val (.int i0), .val (.int i1), .val (.int i2), .val (.int (Int32.ofNat nl)), .val (.int (1 : Int32)), .val (.int (1 : Int32)), .val (.int (Int32.ofNat (u))), .val (.ref b195), .val (.int (Int32.ofNat (u + 12))), .val (.ref b226), .unset, .unset, .unset, .unset] [(.ref b226)]) (fun tq kq => st238.trans (XS.pop X238.here hx rfl (hb hby at_373) rfl rfl (XS.aload X238.here hx rfl (hb hby at_374) rfl rfl kq))) ?_
      obtain ⟨cq241, kq241, q241a, q241b, q241c⟩ := isOf hZ rfl f240
      obtain ⟨_, _, ⟨T241, L241, k241, n241⟩, -, X241, ⟨Lc241, hQ241, l241, y241, z241⟩, st241⟩ := X238.virtualBack hx (y := (⟨"com/example/warmjoin/warmjoin/PackedFields$Cursor", "next", "()Z"⟩ : MethodName)) (z := (⟨"com/example/warmjoin/warmjoin/PackedFields$Cursor", "next", "()Z"⟩ : MethodName)) hown (mvT hZ (own_w hw 23 rfl)) (mvT hZ (own_w hw 24 rfl)) (notFace_of_selects (args := #[]) (mvT hZ (own_w hw 26 rfl))) (mvT hZ (own_w hw 26 rfl)) (mvT hZ (own_w hw 25 rfl)) (by decide) (backOf (W := 0) (rm_next1T l Z a0 hw [] b226 b195 f224 (u + 7) 6 (u + 12) 2 _ _ _ _ T238.heap n0 Zs238 U238 (Ne.symm ne_b195_b226) sz226 f239 (by omega) (by omega) (by omega) (by omega) (by omega) (by omega) (fun _ => g_u_7)) hZ (own_w hw 27 rfl) (own_w hw 3 rfl) (by decide) (by decide)) q241a q241c (g := (mkF m 376 #[.val (.int i0), .val (.int i1), .val (.int i2), .val (.int (Int32.ofNat nl)), .val (.int (1 : Int32)), .val (.int (1 : Int32)), .val (.int (Int32.ofNat (u))), .val (.ref b195), .val (.int (Int32.ofNat (u + 12))), .val (.ref b226), .unset, .unset, .unset, .unset] [(.ref b226)])) rfl (by rw [hml]; rfl) (Steps.refl _) (argsL := []) (rest := []) (lenOf pd_2 rfl) rfl (by show 2 * 0 + _ ≤ _; exact Nat.le_of_eq rfl) (hb hby at_376) (fun _ _ => ⟨rfl, rfl, (by decide : 2 + 0 ≤ _), (by decide : 30 + 0 ≤ _)⟩)
      dsimp only [Pt.U, Pt.locs, Pt.cells, Pt.slots] at X241 l241 y241 z241 st241 hQ241
      have l241y := l241.symm
      clear l241
      subst l241y
      obtain rfl : k241 = 2 := y241
      obtain rfl : n241 = 30 := z241
      obtain ⟨rfl, N241q, K241q, o241, l241, U241⟩ := hQ241
      have N241 := Fr.app N238 N241q
      have f242 := f239.keep K241q (ninS ne_b195_b226 nin0)
      have f243 := f240.keep K241q
      have Zs241 : n0 ≤ T241.heap.size := Nat.le_trans Zs238 K241q.1
      refine own_to T241 (mkF m 382 #[.val (.int i0), .val (.int i1), .val (.int i2), .val (.int (Int32.ofNat nl)), .val (.int (1 : Int32)), .val (.int (1 : Int32)), .val (.int (Int32.ofNat (u))), .val (.ref b195), .val (.int (Int32.ofNat (u + 12))), .val (.ref b226), .unset, .unset, .unset, .unset] [(.ref b226)]) (fun tq kq => st241.trans (XS.pop X241.here hx rfl (hb hby at_379) rfl rfl (XS.aload X241.here hx rfl (hb hby at_380) rfl rfl kq))) ?_
      obtain ⟨cq244, kq244, q244a, q244b, q244c⟩ := isOf hZ rfl f243
      obtain ⟨_, _, ⟨T244, L244, k244, n244⟩, -, X244, ⟨Lc244, hQ244, l244, y244, z244⟩, st244⟩ := X241.virtualBack hx (y := (⟨"com/example/warmjoin/warmjoin/PackedFields$Cursor", "next", "()Z"⟩ : MethodName)) (z := (⟨"com/example/warmjoin/warmjoin/PackedFields$Cursor", "next", "()Z"⟩ : MethodName)) hown (mvT hZ (own_w hw 23 rfl)) (mvT hZ (own_w hw 24 rfl)) (notFace_of_selects (args := #[]) (mvT hZ (own_w hw 26 rfl))) (mvT hZ (own_w hw 26 rfl)) (mvT hZ (own_w hw 25 rfl)) (by decide) (backOf (W := 0) (rm_next1T l Z a0 hw [] b226 b195 f224 (u + 8) 5 (u + 12) 3 _ _ _ _ T241.heap n0 Zs241 U241 (Ne.symm ne_b195_b226) sz226 f242 (by omega) (by omega) (by omega) (by omega) (by omega) (by omega) (fun _ => g_u_8)) hZ (own_w hw 27 rfl) (own_w hw 3 rfl) (by decide) (by decide)) q244a q244c (g := (mkF m 382 #[.val (.int i0), .val (.int i1), .val (.int i2), .val (.int (Int32.ofNat nl)), .val (.int (1 : Int32)), .val (.int (1 : Int32)), .val (.int (Int32.ofNat (u))), .val (.ref b195), .val (.int (Int32.ofNat (u + 12))), .val (.ref b226), .unset, .unset, .unset, .unset] [(.ref b226)])) rfl (by rw [hml]; rfl) (Steps.refl _) (argsL := []) (rest := []) (lenOf pd_2 rfl) rfl (by show 2 * 0 + _ ≤ _; exact Nat.le_of_eq rfl) (hb hby at_382) (fun _ _ => ⟨rfl, rfl, (by decide : 2 + 0 ≤ _), (by decide : 30 + 0 ≤ _)⟩)
      dsimp only [Pt.U, Pt.locs, Pt.cells, Pt.slots] at X244 l244 y244 z244 st244 hQ244
      have l244y := l244.symm
      clear l244
      subst l244y
      obtain rfl : k244 = 2 := y244
      obtain rfl : n244 = 30 := z244
      obtain ⟨rfl, N244q, K244q, o244, l244, U244⟩ := hQ244
      have N244 := Fr.app N241 N244q
      have f245 := f242.keep K244q (ninS ne_b195_b226 nin0)
      have f246 := f243.keep K244q
      have Zs244 : n0 ≤ T244.heap.size := Nat.le_trans Zs241 K244q.1
      refine own_to T244 (mkF m 388 #[.val (.int i0), .val (.int i1), .val (.int i2), .val (.int (Int32.ofNat nl)), .val (.int (1 : Int32)), .val (.int (1 : Int32)), .val (.int (Int32.ofNat (u))), .val (.ref b195), .val (.int (Int32.ofNat (u + 12))), .val (.ref b226), .unset, .unset, .unset, .unset] [(.ref b226)]) (fun tq kq => st244.trans (XS.pop X244.here hx rfl (hb hby at_385) rfl rfl (XS.aload X244.here hx rfl (hb hby at_386) rfl rfl kq))) ?_
      obtain ⟨cq247, kq247, q247a, q247b, q247c⟩ := isOf hZ rfl f246
      obtain ⟨_, _, ⟨T247, L247, k247, n247⟩, -, X247, ⟨Lc247, hQ247, l247, y247, z247⟩, st247⟩ := X244.virtualBack hx (y := (⟨"com/example/warmjoin/warmjoin/PackedFields$Cursor", "next", "()Z"⟩ : MethodName)) (z := (⟨"com/example/warmjoin/warmjoin/PackedFields$Cursor", "next", "()Z"⟩ : MethodName)) hown (mvT hZ (own_w hw 23 rfl)) (mvT hZ (own_w hw 24 rfl)) (notFace_of_selects (args := #[]) (mvT hZ (own_w hw 26 rfl))) (mvT hZ (own_w hw 26 rfl)) (mvT hZ (own_w hw 25 rfl)) (by decide) (backOf (W := 0) (rm_next1T l Z a0 hw [] b226 b195 f224 (u + 9) 4 (u + 12) 4 _ _ _ _ T244.heap n0 Zs244 U244 (Ne.symm ne_b195_b226) sz226 f245 (by omega) (by omega) (by omega) (by omega) (by omega) (by omega) (fun _ => g_u_9)) hZ (own_w hw 27 rfl) (own_w hw 3 rfl) (by decide) (by decide)) q247a q247c (g := (mkF m 388 #[.val (.int i0), .val (.int i1), .val (.int i2), .val (.int (Int32.ofNat nl)), .val (.int (1 : Int32)), .val (.int (1 : Int32)), .val (.int (Int32.ofNat (u))), .val (.ref b195), .val (.int (Int32.ofNat (u + 12))), .val (.ref b226), .unset, .unset, .unset, .unset] [(.ref b226)])) rfl (by rw [hml]; rfl) (Steps.refl _) (argsL := []) (rest := []) (lenOf pd_2 rfl) rfl (by show 2 * 0 + _ ≤ _; exact Nat.le_of_eq rfl) (hb hby at_388) (fun _ _ => ⟨rfl, rfl, (by decide : 2 + 0 ≤ _), (by decide : 30 + 0 ≤ _)⟩)
      dsimp only [Pt.U, Pt.locs, Pt.cells, Pt.slots] at X247 l247 y247 z247 st247 hQ247
      have l247y := l247.symm
      clear l247
      subst l247y
      obtain rfl : k247 = 2 := y247
      obtain rfl : n247 = 30 := z247
      obtain ⟨rfl, N247q, K247q, o247, l247, U247⟩ := hQ247
      have N247 := Fr.app N244 N247q
      have f248 := f245.keep K247q (ninS ne_b195_b226 nin0)
      have f249 := f246.keep K247q
      have Zs247 : n0 ≤ T247.heap.size := Nat.le_trans Zs244 K247q.1
      refine own_to T247 (mkF m 394 #[.val (.int i0), .val (.int i1), .val (.int i2), .val (.int (Int32.ofNat nl)), .val (.int (1 : Int32)), .val (.int (1 : Int32)), .val (.int (Int32.ofNat (u))), .val (.ref b195), .val (.int (Int32.ofNat (u + 12))), .val (.ref b226), .unset, .unset, .unset, .unset] [(.ref b226)]) (fun tq kq => st247.trans (XS.pop X247.here hx rfl (hb hby at_391) rfl rfl (XS.aload X247.here hx rfl (hb hby at_392) rfl rfl kq))) ?_
      obtain ⟨cq250, kq250, q250a, q250b, q250c⟩ := isOf hZ rfl f249
      obtain ⟨_, _, ⟨T250, L250, k250, n250⟩, -, X250, ⟨Lc250, hQ250, l250, y250, z250⟩, st250⟩ := X247.virtualBack hx (y := (⟨"com/example/warmjoin/warmjoin/PackedFields$Cursor", "next", "()Z"⟩ : MethodName)) (z := (⟨"com/example/warmjoin/warmjoin/PackedFields$Cursor", "next", "()Z"⟩ : MethodName)) hown (mvT hZ (own_w hw 23 rfl)) (mvT hZ (own_w hw 24 rfl)) (notFace_of_selects (args := #[]) (mvT hZ (own_w hw 26 rfl))) (mvT hZ (own_w hw 26 rfl)) (mvT hZ (own_w hw 25 rfl)) (by decide) (backOf (W := 0) (rm_next1T l Z a0 hw [] b226 b195 f224 (u + 10) 3 (u + 12) 5 _ _ _ _ T247.heap n0 Zs247 U247 (Ne.symm ne_b195_b226) sz226 f248 (by omega) (by omega) (by omega) (by omega) (by omega) (by omega) (fun _ => g_u_10)) hZ (own_w hw 27 rfl) (own_w hw 3 rfl) (by decide) (by decide)) q250a q250c (g := (mkF m 394 #[.val (.int i0), .val (.int i1), .val (.int i2), .val (.int (Int32.ofNat nl)), .val (.int (1 : Int32)), .val (.int (1 : Int32)), .val (.int (Int32.ofNat (u))), .val (.ref b195), .val (.int (Int32.ofNat (u + 12))), .val (.ref b226), .unset, .unset, .unset, .unset] [(.ref b226)])) rfl (by rw [hml]; rfl) (Steps.refl _) (argsL := []) (rest := []) (lenOf pd_2 rfl) rfl (by show 2 * 0 + _ ≤ _; exact Nat.le_of_eq rfl) (hb hby at_394) (fun _ _ => ⟨rfl, rfl, (by decide : 2 + 0 ≤ _), (by decide : 30 + 0 ≤ _)⟩)
      dsimp only [Pt.U, Pt.locs, Pt.cells, Pt.slots] at X250 l250 y250 z250 st250 hQ250
      have l250y := l250.symm
      clear l250
      subst l250y
      obtain rfl : k250 = 2 := y250
      obtain rfl : n250 = 30 := z250
      obtain ⟨rfl, N250q, K250q, o250, l250, U250⟩ := hQ250
      have N250 := Fr.app N247 N250q
      have f251 := f248.keep K250q (ninS ne_b195_b226 nin0)
      have f252 := f249.keep K250q
      have Zs250 : n0 ≤ T250.heap.size := Nat.le_trans Zs247 K250q.1
      refine own_to T250 (mkF m 400 #[.val (.int i0), .val (.int i1), .val (.int i2), .val (.int (Int32.ofNat nl)), .val (.int (1 : Int32)), .val (.int (1 : Int32)), .val (.int (Int32.ofNat (u))), .val (.ref b195), .val (.int (Int32.ofNat (u + 12))), .val (.ref b226), .unset, .unset, .unset, .unset] [(.ref b226)]) (fun tq kq => st250.trans (XS.pop X250.here hx rfl (hb hby at_397) rfl rfl (XS.aload X250.here hx rfl (hb hby at_398) rfl rfl kq))) ?_
      obtain ⟨cq253, kq253, q253a, q253b, q253c⟩ := isOf hZ rfl f252
      obtain ⟨_, _, ⟨T253, L253, k253, n253⟩, -, X253, ⟨Lc253, hQ253, l253, y253, z253⟩, st253⟩ := X250.virtualBack hx (y := (⟨"com/example/warmjoin/warmjoin/PackedFields$Cursor", "next", "()Z"⟩ : MethodName)) (z := (⟨"com/example/warmjoin/warmjoin/PackedFields$Cursor", "next", "()Z"⟩ : MethodName)) hown (mvT hZ (own_w hw 23 rfl)) (mvT hZ (own_w hw 24 rfl)) (notFace_of_selects (args := #[]) (mvT hZ (own_w hw 26 rfl))) (mvT hZ (own_w hw 26 rfl)) (mvT hZ (own_w hw 25 rfl)) (by decide) (backOf (W := 0) (rm_next1T l Z a0 hw [] b226 b195 f224 (u + 11) 2 (u + 12) 6 _ _ _ _ T250.heap n0 Zs250 U250 (Ne.symm ne_b195_b226) sz226 f251 (by omega) (by omega) (by omega) (by omega) (by omega) (by omega) (fun _ => g_u_11)) hZ (own_w hw 27 rfl) (own_w hw 3 rfl) (by decide) (by decide)) q253a q253c (g := (mkF m 400 #[.val (.int i0), .val (.int i1), .val (.int i2), .val (.int (Int32.ofNat nl)), .val (.int (1 : Int32)), .val (.int (1 : Int32)), .val (.int (Int32.ofNat (u))), .val (.ref b195), .val (.int (Int32.ofNat (u + 12))), .val (.ref b226), .unset, .unset, .unset, .unset] [(.ref b226)])) rfl (by rw [hml]; rfl) (Steps.refl _) (argsL := []) (rest := []) (lenOf pd_2 rfl) rfl (by show 2 * 0 + _ ≤ _; exact Nat.le_of_eq rfl) (hb hby at_400) (fun _ _ => ⟨rfl, rfl, (by decide : 2 + 0 ≤ _), (by decide : 30 + 0 ≤ _)⟩)
      dsimp only [Pt.U, Pt.locs, Pt.cells, Pt.slots] at X253 l253 y253 z253 st253 hQ253
      have l253y := l253.symm
      clear l253
      subst l253y
      obtain rfl : k253 = 2 := y253
      obtain rfl : n253 = 30 := z253
      obtain ⟨rfl, N253q, K253q, o253, l253, U253⟩ := hQ253
      have N253 := Fr.app N250 N253q
      have f254 := f251.keep K253q (ninS ne_b195_b226 nin0)
      have f255 := f252.keep K253q
      have Zs253 : n0 ≤ T253.heap.size := Nat.le_trans Zs250 K253q.1
      refine own_to T253 (mkF m 406 #[.val (.int i0), .val (.int i1), .val (.int i2), .val (.int (Int32.ofNat nl)), .val (.int (1 : Int32)), .val (.int (1 : Int32)), .val (.int (Int32.ofNat (u))), .val (.ref b195), .val (.int (Int32.ofNat (u + 12))), .val (.ref b226), .unset, .unset, .unset, .unset] [(.ref b226)]) (fun tq kq => st253.trans (XS.pop X253.here hx rfl (hb hby at_403) rfl rfl (XS.aload X253.here hx rfl (hb hby at_404) rfl rfl kq))) ?_
      obtain ⟨cq256, kq256, q256a, q256b, q256c⟩ := isOf hZ rfl f255
      obtain ⟨_, _, ⟨T256, L256, k256, n256⟩, -, X256, ⟨Lc256, hQ256, l256, y256, z256⟩, st256⟩ := X253.virtualBack hx (y := (⟨"com/example/warmjoin/warmjoin/PackedFields$Cursor", "literal", "()Z"⟩ : MethodName)) (z := (⟨"com/example/warmjoin/warmjoin/PackedFields$Cursor", "literal", "()Z"⟩ : MethodName)) hown (mvT hZ (own_w hw 70 rfl)) (mvT hZ (own_w hw 71 rfl)) (notFace_of_selects (args := #[]) (mvT hZ (own_w hw 73 rfl))) (mvT hZ (own_w hw 73 rfl)) (mvT hZ (own_w hw 72 rfl)) (by decide) (backOf (W := 0) (rm_lit7 l Z a0 hw [] b226 b195 f224 (u + 2) _ _ _ _ _ _ _ T253.heap n0 Zs253 U253 f254 (by omega)) hZ (own_w hw 74 rfl) (own_w hw 3 rfl) (by decide) (by decide)) q256a q256c (g := (mkF m 406 #[.val (.int i0), .val (.int i1), .val (.int i2), .val (.int (Int32.ofNat nl)), .val (.int (1 : Int32)), .val (.int (1 : Int32)), .val (.int (Int32.ofNat (u))), .val (.ref b195), .val (.int (Int32.ofNat (u + 12))), .val (.ref b226), .unset, .unset, .unset, .unset] [(.ref b226)])) rfl (by rw [hml]; rfl) (Steps.refl _) (argsL := []) (rest := []) (lenOf pd_2 rfl) rfl (by show 2 * 0 + _ ≤ _; exact Nat.le_of_eq rfl) (hb hby at_406) (fun _ _ => ⟨rfl, rfl, (by decide : 2 + 0 ≤ _), (by decide : 30 + 0 ≤ _)⟩)
      dsimp only [Pt.U, Pt.locs, Pt.cells, Pt.slots] at X256 l256 y256 z256 st256 hQ256
      have l256y := l256.symm
      clear l256
      subst l256y
      obtain rfl : k256 = 2 := y256
      obtain rfl : n256 = 30 := z256
      obtain ⟨rfl, N256q, e256⟩ := hQ256
      have N256 := Fr.app N253 N256q
      refine own_to T256 (mkF m 413 #[.val (.int i0), .val (.int i1), .val (.int i2), .val (.int (Int32.ofNat nl)), .val (.int (1 : Int32)), .val (.int (1 : Int32)), .val (.int (Int32.ofNat (u))), .val (.ref b195), .val (.int (Int32.ofNat (u + 12))), .val (.ref b226), .val (.int (own_bit ((f224 (u + 2 + 0)) &&& ((1 : Int32) <<< ((Int32.ofNat (7) &&& (7 : Int32)) &&& 31))))), .unset, .unset, .unset] [(.ref b226)]) (fun tq kq => st256.trans (XS.istore X256.here hx rfl (hb hby at_409) rfl (l' := #[.val (.int i0), .val (.int i1), .val (.int i2), .val (.int (Int32.ofNat nl)), .val (.int (1 : Int32)), .val (.int (1 : Int32)), .val (.int (Int32.ofNat (u))), .val (.ref b195), .val (.int (Int32.ofNat (u + 12))), .val (.ref b226), .val (.int (own_bit ((f224 (u + 2 + 0)) &&& ((1 : Int32) <<< ((Int32.ofNat (7) &&& (7 : Int32)) &&& 31))))), .unset, .unset, .unset]) rfl (XS.aload X256.here hx rfl (hb hby at_411) rfl rfl kq))) ?_
      obtain ⟨cq257, kq257, q257a, q257b, q257c⟩ := isOf hZ e256 f255
      obtain ⟨_, _, ⟨T257, L257, k257, n257⟩, -, X257, ⟨Lc257, hQ257, l257, y257, z257⟩, st257⟩ := X256.virtualBack hx (y := (⟨"com/example/warmjoin/warmjoin/PackedFields$Cursor", "next", "()Z"⟩ : MethodName)) (z := (⟨"com/example/warmjoin/warmjoin/PackedFields$Cursor", "next", "()Z"⟩ : MethodName)) hown (mvT hZ (own_w hw 23 rfl)) (mvT hZ (own_w hw 24 rfl)) (notFace_of_selects (args := #[]) (mvT hZ (own_w hw 26 rfl))) (mvT hZ (own_w hw 26 rfl)) (mvT hZ (own_w hw 25 rfl)) (by decide) (backOf (W := 0) (rm_next1E l Z a0 hw [] b226 b195 f224 (u + 12) 1 (u + 12) 7 _ _ _ _ T253.heap n0 Zs253 U253 (Ne.symm ne_b195_b226) sz226 f254 (by omega) (by omega) (by omega) (by omega) (by omega) (fun q => absurd q (by omega)) (by omega)) hZ (own_w hw 27 rfl) (own_w hw 3 rfl) (by decide) (by decide)) q257a q257c (g := (mkF m 413 #[.val (.int i0), .val (.int i1), .val (.int i2), .val (.int (Int32.ofNat nl)), .val (.int (1 : Int32)), .val (.int (1 : Int32)), .val (.int (Int32.ofNat (u))), .val (.ref b195), .val (.int (Int32.ofNat (u + 12))), .val (.ref b226), .val (.int (own_bit ((f224 (u + 2 + 0)) &&& ((1 : Int32) <<< ((Int32.ofNat (7) &&& (7 : Int32)) &&& 31))))), .unset, .unset, .unset] [(.ref b226)])) rfl (by rw [hml]; rfl) (Steps.refl _) (argsL := []) (rest := []) (lenOf pd_2 rfl) rfl (by show 2 * 0 + _ ≤ _; exact Nat.le_of_eq rfl) (hb hby at_413) (fun _ _ => ⟨rfl, e256, (by decide : 2 + 0 ≤ _), (by decide : 30 + 0 ≤ _)⟩)
      dsimp only [Pt.U, Pt.locs, Pt.cells, Pt.slots] at X257 l257 y257 z257 st257 hQ257
      have l257y := l257.symm
      clear l257
      subst l257y
      obtain rfl : k257 = 2 := y257
      obtain rfl : n257 = 30 := z257
      obtain ⟨rfl, N257q, K257q, o257, l257, U257⟩ := hQ257
      have N257 := Fr.app N256 N257q
      have f258 := f254.keep K257q (ninS ne_b195_b226 nin0)
      have f259 := f255.keep K257q
      have Zs257 : n0 ≤ T257.heap.size := Nat.le_trans Zs253 K257q.1
      refine own_to T257 (mkF m 419 #[.val (.int i0), .val (.int i1), .val (.int i2), .val (.int (Int32.ofNat nl)), .val (.int (1 : Int32)), .val (.int (1 : Int32)), .val (.int (Int32.ofNat (u))), .val (.ref b195), .val (.int (Int32.ofNat (u + 12))), .val (.ref b226), .val (.int (own_bit ((f224 (u + 2 + 0)) &&& ((1 : Int32) <<< ((Int32.ofNat (7) &&& (7 : Int32)) &&& 31))))), .unset, .unset, .unset] [(.ref b226)]) (fun tq kq => st257.trans (XS.pop X257.here hx rfl (hb hby at_416) rfl rfl (XS.aload X257.here hx rfl (hb hby at_417) rfl rfl kq))) ?_
      obtain ⟨cq260, kq260, q260a, q260b, q260c⟩ := isOf hZ rfl f259
      obtain ⟨_, _, ⟨T260, L260, k260, n260⟩, -, X260, ⟨Lc260, hQ260, l260, y260, z260⟩, st260⟩ := X257.virtualBack hx (y := (⟨"com/example/warmjoin/warmjoin/PackedFields$Cursor", "literal", "()Z"⟩ : MethodName)) (z := (⟨"com/example/warmjoin/warmjoin/PackedFields$Cursor", "literal", "()Z"⟩ : MethodName)) hown (mvT hZ (own_w hw 70 rfl)) (mvT hZ (own_w hw 71 rfl)) (notFace_of_selects (args := #[]) (mvT hZ (own_w hw 73 rfl))) (mvT hZ (own_w hw 73 rfl)) (mvT hZ (own_w hw 72 rfl)) (by decide) (backOf (W := 0) (rm_lit8 l Z a0 hw [] b226 b195 f224 (u + 2) _ _ _ _ _ _ _ T257.heap n0 Zs257 U257 f258 (by omega)) hZ (own_w hw 74 rfl) (own_w hw 3 rfl) (by decide) (by decide)) q260a q260c (g := (mkF m 419 #[.val (.int i0), .val (.int i1), .val (.int i2), .val (.int (Int32.ofNat nl)), .val (.int (1 : Int32)), .val (.int (1 : Int32)), .val (.int (Int32.ofNat (u))), .val (.ref b195), .val (.int (Int32.ofNat (u + 12))), .val (.ref b226), .val (.int (own_bit ((f224 (u + 2 + 0)) &&& ((1 : Int32) <<< ((Int32.ofNat (7) &&& (7 : Int32)) &&& 31))))), .unset, .unset, .unset] [(.ref b226)])) rfl (by rw [hml]; rfl) (Steps.refl _) (argsL := []) (rest := []) (lenOf pd_2 rfl) rfl (by show 2 * 0 + _ ≤ _; exact Nat.le_of_eq rfl) (hb hby at_419) (fun _ _ => ⟨rfl, rfl, (by decide : 2 + 0 ≤ _), (by decide : 30 + 0 ≤ _)⟩)
      dsimp only [Pt.U, Pt.locs, Pt.cells, Pt.slots] at X260 l260 y260 z260 st260 hQ260
      have l260y := l260.symm
      clear l260
      subst l260y
      obtain rfl : k260 = 2 := y260
      obtain rfl : n260 = 30 := z260
      obtain ⟨rfl, N260q, e260⟩ := hQ260
      have N260 := Fr.app N257 N260q
      refine own_to T260 (mkF m 435 #[.val (.int i0), .val (.int i1), .val (.int i2), .val (.int (Int32.ofNat nl)), .val (.int (1 : Int32)), .val (.int (1 : Int32)), .val (.int (Int32.ofNat (u))), .val (.ref b195), .val (.int (Int32.ofNat (u + 12))), .val (.ref b226), .val (.int (own_bit ((f224 (u + 2 + 0)) &&& ((1 : Int32) <<< ((Int32.ofNat (7) &&& (7 : Int32)) &&& 31))))), .val (.int (own_bit ((f224 (u + 2 + 1)) &&& ((1 : Int32) <<< ((Int32.ofNat (8) &&& (7 : Int32)) &&& 31))))), .unset, .unset] [(.int ((((Int32.ofNat nl).toUInt32 >>> ((7 : Int32) &&& 31).toUInt32).toInt32) &&& (1 : Int32)))]) (fun tq kq => st260.trans (XS.istore X260.here hx rfl (hb hby at_422) rfl (l' := #[.val (.int i0), .val (.int i1), .val (.int i2), .val (.int (Int32.ofNat nl)), .val (.int (1 : Int32)), .val (.int (1 : Int32)), .val (.int (Int32.ofNat (u))), .val (.ref b195), .val (.int (Int32.ofNat (u + 12))), .val (.ref b226), .val (.int (own_bit ((f224 (u + 2 + 0)) &&& ((1 : Int32) <<< ((Int32.ofNat (7) &&& (7 : Int32)) &&& 31))))), .val (.int (own_bit ((f224 (u + 2 + 1)) &&& ((1 : Int32) <<< ((Int32.ofNat (8) &&& (7 : Int32)) &&& 31))))), .unset, .unset]) rfl (XS.iload X260.here hx rfl (hb hby at_424) rfl (XS.ifNo X260.here hx rfl (hb hby at_426) rfl ((if0 _ _).trans (feq (by decide : ¬ ((1 : Int32) = (0 : Int32)))).1) (XS.iloadN X260.here hx rfl (hb hby at_429) rfl (XS.bipush X260.here hx rfl (hb hby at_430) (XS.iushr X260.here hx rfl (hb hby at_432) rfl (XS.iconst X260.here hx rfl (hb hby at_433) (XS.iand X260.here hx rfl (hb hby at_434) rfl kq))))))))) ?_
      by_cases c435 : ((((Int32.ofNat nl).toUInt32 >>> ((7 : Int32) &&& 31).toUInt32).toInt32) &&& (1 : Int32)) = (0 : Int32)
      · skip
        refine own_to T260 (mkF m 456 #[.val (.int i0), .val (.int i1), .val (.int i2), .val (.int (Int32.ofNat nl)), .val (.int (1 : Int32)), .val (.int (1 : Int32)), .val (.int (Int32.ofNat (u))), .val (.ref b195), .val (.int (Int32.ofNat (u + 12))), .val (.ref b226), .val (.int (own_bit ((f224 (u + 2 + 0)) &&& ((1 : Int32) <<< ((Int32.ofNat (7) &&& (7 : Int32)) &&& 31))))), .val (.int (own_bit ((f224 (u + 2 + 1)) &&& ((1 : Int32) <<< ((Int32.ofNat (8) &&& (7 : Int32)) &&& 31))))), .val (.int (0 : Int32)), .unset] [(.int ((((Int32.ofNat nl).toUInt32 >>> ((8 : Int32) &&& 31).toUInt32).toInt32) &&& (1 : Int32)))]) (fun tq kq => XS.ifYes X260.here hx rfl (pc0 := 435) (pc' := 442) rfl (hb hby at_435) rfl ((if0 _ _).trans (teq c435).1) (by decide) (by decide) (XS.iconst X260.here hx rfl (hb hby at_442) (XS.istore X260.here hx rfl (hb hby at_443) rfl (l' := #[.val (.int i0), .val (.int i1), .val (.int i2), .val (.int (Int32.ofNat nl)), .val (.int (1 : Int32)), .val (.int (1 : Int32)), .val (.int (Int32.ofNat (u))), .val (.ref b195), .val (.int (Int32.ofNat (u + 12))), .val (.ref b226), .val (.int (own_bit ((f224 (u + 2 + 0)) &&& ((1 : Int32) <<< ((Int32.ofNat (7) &&& (7 : Int32)) &&& 31))))), .val (.int (own_bit ((f224 (u + 2 + 1)) &&& ((1 : Int32) <<< ((Int32.ofNat (8) &&& (7 : Int32)) &&& 31))))), .val (.int (0 : Int32)), .unset]) rfl (XS.iload X260.here hx rfl (hb hby at_445) rfl (XS.ifNo X260.here hx rfl (hb hby at_447) rfl ((if0 _ _).trans (feq (by decide : ¬ ((1 : Int32) = (0 : Int32)))).1) (XS.iloadN X260.here hx rfl (hb hby at_450) rfl (XS.bipush X260.here hx rfl (hb hby at_451) (XS.iushr X260.here hx rfl (hb hby at_453) rfl (XS.iconst X260.here hx rfl (hb hby at_454) (XS.iand X260.here hx rfl (hb hby at_455) rfl kq)))))))))) ?_
        by_cases c456 : ((((Int32.ofNat nl).toUInt32 >>> ((8 : Int32) &&& 31).toUInt32).toInt32) &&& (1 : Int32)) = (0 : Int32)
        · skip
          refine own_to T260 (mkF m 481 #[.val (.int i0), .val (.int i1), .val (.int i2), .val (.int (Int32.ofNat nl)), .val (.int (1 : Int32)), .val (.int (1 : Int32)), .val (.int (Int32.ofNat (u))), .val (.ref b195), .val (.int (Int32.ofNat (u + 12))), .val (.ref b226), .val (.int (own_bit ((f224 (u + 2 + 0)) &&& ((1 : Int32) <<< ((Int32.ofNat (7) &&& (7 : Int32)) &&& 31))))), .val (.int (own_bit ((f224 (u + 2 + 1)) &&& ((1 : Int32) <<< ((Int32.ofNat (8) &&& (7 : Int32)) &&& 31))))), .val (.int (0 : Int32)), .val (.int (0 : Int32))] [(.int (1 : Int32))]) (fun tq kq => XS.ifYes X260.here hx rfl (pc0 := 456) (pc' := 463) rfl (hb hby at_456) rfl ((if0 _ _).trans (teq c456).1) (by decide) (by decide) (XS.iconst X260.here hx rfl (hb hby at_463) (XS.istore X260.here hx rfl (hb hby at_464) rfl (l' := #[.val (.int i0), .val (.int i1), .val (.int i2), .val (.int (Int32.ofNat nl)), .val (.int (1 : Int32)), .val (.int (1 : Int32)), .val (.int (Int32.ofNat (u))), .val (.ref b195), .val (.int (Int32.ofNat (u + 12))), .val (.ref b226), .val (.int (own_bit ((f224 (u + 2 + 0)) &&& ((1 : Int32) <<< ((Int32.ofNat (7) &&& (7 : Int32)) &&& 31))))), .val (.int (own_bit ((f224 (u + 2 + 1)) &&& ((1 : Int32) <<< ((Int32.ofNat (8) &&& (7 : Int32)) &&& 31))))), .val (.int (0 : Int32)), .val (.int (0 : Int32))]) rfl (XS.iload X260.here hx rfl (hb hby at_466) rfl (XS.iload X260.here hx rfl (hb hby at_468) rfl (XS.icmpNo X260.here hx rfl (hb hby at_470) rfl (teq (by show own_bit _ = _; rw [g_u_2]; exact if_pos ((own_bits ⟨nl, hnl⟩).1.mpr c435))).2 (XS.iload X260.here hx rfl (hb hby at_473) rfl (XS.iload X260.here hx rfl (hb hby at_475) rfl (XS.icmpNo X260.here hx rfl (hb hby at_477) rfl (teq (by show own_bit _ = _; rw [g_u_3]; exact if_pos ((own_bits ⟨nl, hnl⟩).2.mpr c456))).2 (XS.iconst X260.here hx rfl (hb hby at_480) kq)))))))))) ?_
          refine own_to T260 (mkF m 485 #[.val (.int i0), .val (.int i1), .val (.int i2), .val (.int (Int32.ofNat nl)), .val (.int (1 : Int32)), .val (.int (1 : Int32)), .val (.int (Int32.ofNat (u))), .val (.ref b195), .val (.int (Int32.ofNat (u + 12))), .val (.ref b226), .val (.int (own_bit ((f224 (u + 2 + 0)) &&& ((1 : Int32) <<< ((Int32.ofNat (7) &&& (7 : Int32)) &&& 31))))), .val (.int (own_bit ((f224 (u + 2 + 1)) &&& ((1 : Int32) <<< ((Int32.ofNat (8) &&& (7 : Int32)) &&& 31))))), .val (.int (0 : Int32)), .val (.int (0 : Int32))] [(.int (1 : Int32))]) (fun tq kq => XS.goto X260.here hx rfl (pc0 := 481) (pc' := 485) rfl (hb hby at_481) (by decide) (by decide) kq) ?_
          exact own_retZ X260 hx hret hlk (hb hby at_485) (by decide) (by decide) (Or.inr rfl) ⟨rfl, N260⟩
        · skip
          refine own_to T260 (mkF m 480 #[.val (.int i0), .val (.int i1), .val (.int i2), .val (.int (Int32.ofNat nl)), .val (.int (1 : Int32)), .val (.int (1 : Int32)), .val (.int (Int32.ofNat (u))), .val (.ref b195), .val (.int (Int32.ofNat (u + 12))), .val (.ref b226), .val (.int (own_bit ((f224 (u + 2 + 0)) &&& ((1 : Int32) <<< ((Int32.ofNat (7) &&& (7 : Int32)) &&& 31))))), .val (.int (own_bit ((f224 (u + 2 + 1)) &&& ((1 : Int32) <<< ((Int32.ofNat (8) &&& (7 : Int32)) &&& 31))))), .val (.int (0 : Int32)), .val (.int (1 : Int32))] []) (fun tq kq => XS.ifNo X260.here hx rfl (hb hby at_456) rfl ((if0 _ _).trans (feq c456).1) (XS.iconst X260.here hx rfl (hb hby at_459) (XS.goto X260.here hx rfl (pc0 := 460) (pc' := 464) rfl (hb hby at_460) (by decide) (by decide) (XS.istore X260.here hx rfl (hb hby at_464) rfl (l' := #[.val (.int i0), .val (.int i1), .val (.int i2), .val (.int (Int32.ofNat nl)), .val (.int (1 : Int32)), .val (.int (1 : Int32)), .val (.int (Int32.ofNat (u))), .val (.ref b195), .val (.int (Int32.ofNat (u + 12))), .val (.ref b226), .val (.int (own_bit ((f224 (u + 2 + 0)) &&& ((1 : Int32) <<< ((Int32.ofNat (7) &&& (7 : Int32)) &&& 31))))), .val (.int (own_bit ((f224 (u + 2 + 1)) &&& ((1 : Int32) <<< ((Int32.ofNat (8) &&& (7 : Int32)) &&& 31))))), .val (.int (0 : Int32)), .val (.int (1 : Int32))]) rfl (XS.iload X260.here hx rfl (hb hby at_466) rfl (XS.iload X260.here hx rfl (hb hby at_468) rfl (XS.icmpNo X260.here hx rfl (hb hby at_470) rfl (teq (by show own_bit _ = _; rw [g_u_2]; exact if_pos ((own_bits ⟨nl, hnl⟩).1.mpr c435))).2 (XS.iload X260.here hx rfl (hb hby at_473) rfl (XS.iload X260.here hx rfl (hb hby at_475) rfl (XS.icmpNo X260.here hx rfl (hb hby at_477) rfl (teq (by show own_bit _ = _; rw [g_u_3]; exact if_neg (mt (own_bits ⟨nl, hnl⟩).2.mp c456))).2 kq)))))))))) ?_
          refine own_to T260 (mkF m 485 #[.val (.int i0), .val (.int i1), .val (.int i2), .val (.int (Int32.ofNat nl)), .val (.int (1 : Int32)), .val (.int (1 : Int32)), .val (.int (Int32.ofNat (u))), .val (.ref b195), .val (.int (Int32.ofNat (u + 12))), .val (.ref b226), .val (.int (own_bit ((f224 (u + 2 + 0)) &&& ((1 : Int32) <<< ((Int32.ofNat (7) &&& (7 : Int32)) &&& 31))))), .val (.int (own_bit ((f224 (u + 2 + 1)) &&& ((1 : Int32) <<< ((Int32.ofNat (8) &&& (7 : Int32)) &&& 31))))), .val (.int (0 : Int32)), .val (.int (1 : Int32))] [(.int (1 : Int32))]) (fun tq kq => XS.iconst X260.here hx rfl (hb hby at_480) (XS.goto X260.here hx rfl (pc0 := 481) (pc' := 485) rfl (hb hby at_481) (by decide) (by decide) kq)) ?_
          exact own_retZ X260 hx hret hlk (hb hby at_485) (by decide) (by decide) (Or.inr rfl) ⟨rfl, N260⟩
      · skip
        refine own_to T260 (mkF m 455 #[.val (.int i0), .val (.int i1), .val (.int i2), .val (.int (Int32.ofNat nl)), .val (.int (1 : Int32)), .val (.int (1 : Int32)), .val (.int (Int32.ofNat (u))), .val (.ref b195), .val (.int (Int32.ofNat (u + 12))), .val (.ref b226), .val (.int (own_bit ((f224 (u + 2 + 0)) &&& ((1 : Int32) <<< ((Int32.ofNat (7) &&& (7 : Int32)) &&& 31))))), .val (.int (own_bit ((f224 (u + 2 + 1)) &&& ((1 : Int32) <<< ((Int32.ofNat (8) &&& (7 : Int32)) &&& 31))))), .val (.int (1 : Int32)), .unset] [(.int (1 : Int32)), (.int (((Int32.ofNat nl).toUInt32 >>> ((8 : Int32) &&& 31).toUInt32).toInt32))]) (fun tq kq => XS.ifNo X260.here hx rfl (hb hby at_435) rfl ((if0 _ _).trans (feq c435).1) (XS.iconst X260.here hx rfl (hb hby at_438) (XS.goto X260.here hx rfl (pc0 := 439) (pc' := 443) rfl (hb hby at_439) (by decide) (by decide) (XS.istore X260.here hx rfl (hb hby at_443) rfl (l' := #[.val (.int i0), .val (.int i1), .val (.int i2), .val (.int (Int32.ofNat nl)), .val (.int (1 : Int32)), .val (.int (1 : Int32)), .val (.int (Int32.ofNat (u))), .val (.ref b195), .val (.int (Int32.ofNat (u + 12))), .val (.ref b226), .val (.int (own_bit ((f224 (u + 2 + 0)) &&& ((1 : Int32) <<< ((Int32.ofNat (7) &&& (7 : Int32)) &&& 31))))), .val (.int (own_bit ((f224 (u + 2 + 1)) &&& ((1 : Int32) <<< ((Int32.ofNat (8) &&& (7 : Int32)) &&& 31))))), .val (.int (1 : Int32)), .unset]) rfl (XS.iload X260.here hx rfl (hb hby at_445) rfl (XS.ifNo X260.here hx rfl (hb hby at_447) rfl ((if0 _ _).trans (feq (by decide : ¬ ((1 : Int32) = (0 : Int32)))).1) (XS.iloadN X260.here hx rfl (hb hby at_450) rfl (XS.bipush X260.here hx rfl (hb hby at_451) (XS.iushr X260.here hx rfl (hb hby at_453) rfl (XS.iconst X260.here hx rfl (hb hby at_454) kq)))))))))) ?_
        refine own_to T260 (mkF m 456 #[.val (.int i0), .val (.int i1), .val (.int i2), .val (.int (Int32.ofNat nl)), .val (.int (1 : Int32)), .val (.int (1 : Int32)), .val (.int (Int32.ofNat (u))), .val (.ref b195), .val (.int (Int32.ofNat (u + 12))), .val (.ref b226), .val (.int (own_bit ((f224 (u + 2 + 0)) &&& ((1 : Int32) <<< ((Int32.ofNat (7) &&& (7 : Int32)) &&& 31))))), .val (.int (own_bit ((f224 (u + 2 + 1)) &&& ((1 : Int32) <<< ((Int32.ofNat (8) &&& (7 : Int32)) &&& 31))))), .val (.int (1 : Int32)), .unset] [(.int ((((Int32.ofNat nl).toUInt32 >>> ((8 : Int32) &&& 31).toUInt32).toInt32) &&& (1 : Int32)))]) (fun tq kq => XS.iand X260.here hx rfl (hb hby at_455) rfl kq) ?_
        by_cases c456 : ((((Int32.ofNat nl).toUInt32 >>> ((8 : Int32) &&& 31).toUInt32).toInt32) &&& (1 : Int32)) = (0 : Int32)
        · skip
          refine own_to T260 (mkF m 481 #[.val (.int i0), .val (.int i1), .val (.int i2), .val (.int (Int32.ofNat nl)), .val (.int (1 : Int32)), .val (.int (1 : Int32)), .val (.int (Int32.ofNat (u))), .val (.ref b195), .val (.int (Int32.ofNat (u + 12))), .val (.ref b226), .val (.int (own_bit ((f224 (u + 2 + 0)) &&& ((1 : Int32) <<< ((Int32.ofNat (7) &&& (7 : Int32)) &&& 31))))), .val (.int (own_bit ((f224 (u + 2 + 1)) &&& ((1 : Int32) <<< ((Int32.ofNat (8) &&& (7 : Int32)) &&& 31))))), .val (.int (1 : Int32)), .val (.int (0 : Int32))] [(.int (1 : Int32))]) (fun tq kq => XS.ifYes X260.here hx rfl (pc0 := 456) (pc' := 463) rfl (hb hby at_456) rfl ((if0 _ _).trans (teq c456).1) (by decide) (by decide) (XS.iconst X260.here hx rfl (hb hby at_463) (XS.istore X260.here hx rfl (hb hby at_464) rfl (l' := #[.val (.int i0), .val (.int i1), .val (.int i2), .val (.int (Int32.ofNat nl)), .val (.int (1 : Int32)), .val (.int (1 : Int32)), .val (.int (Int32.ofNat (u))), .val (.ref b195), .val (.int (Int32.ofNat (u + 12))), .val (.ref b226), .val (.int (own_bit ((f224 (u + 2 + 0)) &&& ((1 : Int32) <<< ((Int32.ofNat (7) &&& (7 : Int32)) &&& 31))))), .val (.int (own_bit ((f224 (u + 2 + 1)) &&& ((1 : Int32) <<< ((Int32.ofNat (8) &&& (7 : Int32)) &&& 31))))), .val (.int (1 : Int32)), .val (.int (0 : Int32))]) rfl (XS.iload X260.here hx rfl (hb hby at_466) rfl (XS.iload X260.here hx rfl (hb hby at_468) rfl (XS.icmpNo X260.here hx rfl (hb hby at_470) rfl (teq (by show own_bit _ = _; rw [g_u_2]; exact if_neg (mt (own_bits ⟨nl, hnl⟩).1.mp c435))).2 (XS.iload X260.here hx rfl (hb hby at_473) rfl (XS.iload X260.here hx rfl (hb hby at_475) rfl (XS.icmpNo X260.here hx rfl (hb hby at_477) rfl (teq (by show own_bit _ = _; rw [g_u_3]; exact if_pos ((own_bits ⟨nl, hnl⟩).2.mpr c456))).2 (XS.iconst X260.here hx rfl (hb hby at_480) kq)))))))))) ?_
          refine own_to T260 (mkF m 485 #[.val (.int i0), .val (.int i1), .val (.int i2), .val (.int (Int32.ofNat nl)), .val (.int (1 : Int32)), .val (.int (1 : Int32)), .val (.int (Int32.ofNat (u))), .val (.ref b195), .val (.int (Int32.ofNat (u + 12))), .val (.ref b226), .val (.int (own_bit ((f224 (u + 2 + 0)) &&& ((1 : Int32) <<< ((Int32.ofNat (7) &&& (7 : Int32)) &&& 31))))), .val (.int (own_bit ((f224 (u + 2 + 1)) &&& ((1 : Int32) <<< ((Int32.ofNat (8) &&& (7 : Int32)) &&& 31))))), .val (.int (1 : Int32)), .val (.int (0 : Int32))] [(.int (1 : Int32))]) (fun tq kq => XS.goto X260.here hx rfl (pc0 := 481) (pc' := 485) rfl (hb hby at_481) (by decide) (by decide) kq) ?_
          exact own_retZ X260 hx hret hlk (hb hby at_485) (by decide) (by decide) (Or.inr rfl) ⟨rfl, N260⟩
        · skip
          refine own_to T260 (mkF m 480 #[.val (.int i0), .val (.int i1), .val (.int i2), .val (.int (Int32.ofNat nl)), .val (.int (1 : Int32)), .val (.int (1 : Int32)), .val (.int (Int32.ofNat (u))), .val (.ref b195), .val (.int (Int32.ofNat (u + 12))), .val (.ref b226), .val (.int (own_bit ((f224 (u + 2 + 0)) &&& ((1 : Int32) <<< ((Int32.ofNat (7) &&& (7 : Int32)) &&& 31))))), .val (.int (own_bit ((f224 (u + 2 + 1)) &&& ((1 : Int32) <<< ((Int32.ofNat (8) &&& (7 : Int32)) &&& 31))))), .val (.int (1 : Int32)), .val (.int (1 : Int32))] []) (fun tq kq => XS.ifNo X260.here hx rfl (hb hby at_456) rfl ((if0 _ _).trans (feq c456).1) (XS.iconst X260.here hx rfl (hb hby at_459) (XS.goto X260.here hx rfl (pc0 := 460) (pc' := 464) rfl (hb hby at_460) (by decide) (by decide) (XS.istore X260.here hx rfl (hb hby at_464) rfl (l' := #[.val (.int i0), .val (.int i1), .val (.int i2), .val (.int (Int32.ofNat nl)), .val (.int (1 : Int32)), .val (.int (1 : Int32)), .val (.int (Int32.ofNat (u))), .val (.ref b195), .val (.int (Int32.ofNat (u + 12))), .val (.ref b226), .val (.int (own_bit ((f224 (u + 2 + 0)) &&& ((1 : Int32) <<< ((Int32.ofNat (7) &&& (7 : Int32)) &&& 31))))), .val (.int (own_bit ((f224 (u + 2 + 1)) &&& ((1 : Int32) <<< ((Int32.ofNat (8) &&& (7 : Int32)) &&& 31))))), .val (.int (1 : Int32)), .val (.int (1 : Int32))]) rfl (XS.iload X260.here hx rfl (hb hby at_466) rfl (XS.iload X260.here hx rfl (hb hby at_468) rfl (XS.icmpNo X260.here hx rfl (hb hby at_470) rfl (teq (by show own_bit _ = _; rw [g_u_2]; exact if_neg (mt (own_bits ⟨nl, hnl⟩).1.mp c435))).2 (XS.iload X260.here hx rfl (hb hby at_473) rfl (XS.iload X260.here hx rfl (hb hby at_475) rfl (XS.icmpNo X260.here hx rfl (hb hby at_477) rfl (teq (by show own_bit _ = _; rw [g_u_3]; exact if_neg (mt (own_bits ⟨nl, hnl⟩).2.mp c456))).2 kq)))))))))) ?_
          refine own_to T260 (mkF m 485 #[.val (.int i0), .val (.int i1), .val (.int i2), .val (.int (Int32.ofNat nl)), .val (.int (1 : Int32)), .val (.int (1 : Int32)), .val (.int (Int32.ofNat (u))), .val (.ref b195), .val (.int (Int32.ofNat (u + 12))), .val (.ref b226), .val (.int (own_bit ((f224 (u + 2 + 0)) &&& ((1 : Int32) <<< ((Int32.ofNat (7) &&& (7 : Int32)) &&& 31))))), .val (.int (own_bit ((f224 (u + 2 + 1)) &&& ((1 : Int32) <<< ((Int32.ofNat (8) &&& (7 : Int32)) &&& 31))))), .val (.int (1 : Int32)), .val (.int (1 : Int32))] [(.int (1 : Int32))]) (fun tq kq => XS.iconst X260.here hx rfl (hb hby at_480) (XS.goto X260.here hx rfl (pc0 := 481) (pc' := 485) rfl (hb hby at_481) (by decide) (by decide) kq)) ?_
          exact own_retZ X260 hx hret hlk (hb hby at_485) (by decide) (by decide) (Or.inr rfl) ⟨rfl, N260⟩
  refine own_to s₁ (mkF m 5 #[.val (.int i0), .val (.int i1), .val (.int i2), .unset, .unset, .unset, .unset, .unset, .unset, .unset, .unset, .unset, .unset, .unset] [(.int (i0 &&& (511 : Int32)))]) (fun tq kq => XS.iloadN X0.here hx rfl (hb hby at_0) rfl (XS.sipush X0.here hx rfl (hb hby at_1) (XS.iand X0.here hx rfl (hb hby at_4) rfl kq))) ?_
  rw [hlo]
  refine own_to s₁ (mkF m 9 #[.val (.int i0), .val (.int i1), .val (.int i2), .val (.int (Int32.ofNat nl)), .unset, .unset, .unset, .unset, .unset, .unset, .unset, .unset, .unset, .unset] [(.int (i1 &&& (1 : Int32)))]) (fun tq kq => XS.istoreN X0.here hx rfl (hb hby at_5) rfl (l' := #[.val (.int i0), .val (.int i1), .val (.int i2), .val (.int (Int32.ofNat nl)), .unset, .unset, .unset, .unset, .unset, .unset, .unset, .unset, .unset, .unset]) rfl (XS.iloadN X0.here hx rfl (hb hby at_6) rfl (XS.iconst X0.here hx rfl (hb hby at_7) (XS.iand X0.here hx rfl (hb hby at_8) rfl kq)))) ?_
  by_cases c9 : (i1 &&& (1 : Int32)) = (0 : Int32)
  · skip
    refine own_to s₁ (mkF m 22 #[.val (.int i0), .val (.int i1), .val (.int i2), .val (.int (Int32.ofNat nl)), .val (.int (0 : Int32)), .unset, .unset, .unset, .unset, .unset, .unset, .unset, .unset, .unset] [(.int (i1 &&& (2 : Int32)))]) (fun tq kq => XS.ifYes X0.here hx rfl (pc0 := 9) (pc' := 16) rfl (hb hby at_9) rfl ((if0 _ _).trans (teq c9).1) (by decide) (by decide) (XS.iconst X0.here hx rfl (hb hby at_16) (XS.istore X0.here hx rfl (hb hby at_17) rfl (l' := #[.val (.int i0), .val (.int i1), .val (.int i2), .val (.int (Int32.ofNat nl)), .val (.int (0 : Int32)), .unset, .unset, .unset, .unset, .unset, .unset, .unset, .unset, .unset]) rfl (XS.iloadN X0.here hx rfl (hb hby at_19) rfl (XS.iconst X0.here hx rfl (hb hby at_20) (XS.iand X0.here hx rfl (hb hby at_21) rfl kq)))))) ?_
    by_cases c22 : (i1 &&& (2 : Int32)) = (0 : Int32)
    · skip
      refine own_to s₁ (mkF m 36 #[.val (.int i0), .val (.int i1), .val (.int i2), .val (.int (Int32.ofNat nl)), .val (.int (0 : Int32)), .val (.int (0 : Int32)), .unset, .unset, .unset, .unset, .unset, .unset, .unset, .unset] []) (fun tq kq => XS.ifYes X0.here hx rfl (pc0 := 22) (pc' := 33) rfl (hb hby at_22) rfl ((if0 _ _).trans (teq c22).1) (by decide) (by decide) (XS.iconst X0.here hx rfl (hb hby at_33) (XS.istore X0.here hx rfl (hb hby at_34) rfl (l' := #[.val (.int i0), .val (.int i1), .val (.int i2), .val (.int (Int32.ofNat nl)), .val (.int (0 : Int32)), .val (.int (0 : Int32)), .unset, .unset, .unset, .unset, .unset, .unset, .unset, .unset]) rfl kq))) ?_
      exact J36 _ _ (Or.inl rfl) (Or.inl rfl)
    · skip
      refine own_to s₁ (mkF m 26 #[.val (.int i0), .val (.int i1), .val (.int i2), .val (.int (Int32.ofNat nl)), .val (.int (0 : Int32)), .unset, .unset, .unset, .unset, .unset, .unset, .unset, .unset, .unset] [(.int (Int32.ofNat nl))]) (fun tq kq => XS.ifNo X0.here hx rfl (hb hby at_22) rfl ((if0 _ _).trans (feq c22).1) (XS.iloadN X0.here hx rfl (hb hby at_25) rfl kq)) ?_
      by_cases c26 : (Int32.ofNat nl) = (0 : Int32)
      · skip
        refine own_to s₁ (mkF m 36 #[.val (.int i0), .val (.int i1), .val (.int i2), .val (.int (Int32.ofNat nl)), .val (.int (0 : Int32)), .val (.int (0 : Int32)), .unset, .unset, .unset, .unset, .unset, .unset, .unset, .unset] []) (fun tq kq => XS.ifYes X0.here hx rfl (pc0 := 26) (pc' := 33) rfl (hb hby at_26) rfl ((if0 _ _).trans (teq c26).1) (by decide) (by decide) (XS.iconst X0.here hx rfl (hb hby at_33) (XS.istore X0.here hx rfl (hb hby at_34) rfl (l' := #[.val (.int i0), .val (.int i1), .val (.int i2), .val (.int (Int32.ofNat nl)), .val (.int (0 : Int32)), .val (.int (0 : Int32)), .unset, .unset, .unset, .unset, .unset, .unset, .unset, .unset]) rfl kq))) ?_
        exact J36 _ _ (Or.inl rfl) (Or.inl rfl)
      · skip
        refine own_to s₁ (mkF m 36 #[.val (.int i0), .val (.int i1), .val (.int i2), .val (.int (Int32.ofNat nl)), .val (.int (0 : Int32)), .val (.int (1 : Int32)), .unset, .unset, .unset, .unset, .unset, .unset, .unset, .unset] []) (fun tq kq => XS.ifNo X0.here hx rfl (hb hby at_26) rfl ((if0 _ _).trans (feq c26).1) (XS.iconst X0.here hx rfl (hb hby at_29) (XS.goto X0.here hx rfl (pc0 := 30) (pc' := 34) rfl (hb hby at_30) (by decide) (by decide) (XS.istore X0.here hx rfl (hb hby at_34) rfl (l' := #[.val (.int i0), .val (.int i1), .val (.int i2), .val (.int (Int32.ofNat nl)), .val (.int (0 : Int32)), .val (.int (1 : Int32)), .unset, .unset, .unset, .unset, .unset, .unset, .unset, .unset]) rfl kq)))) ?_
        exact J36 _ _ (Or.inl rfl) (Or.inr rfl)
  · skip
    refine own_to s₁ (mkF m 22 #[.val (.int i0), .val (.int i1), .val (.int i2), .val (.int (Int32.ofNat nl)), .val (.int (1 : Int32)), .unset, .unset, .unset, .unset, .unset, .unset, .unset, .unset, .unset] [(.int (i1 &&& (2 : Int32)))]) (fun tq kq => XS.ifNo X0.here hx rfl (hb hby at_9) rfl ((if0 _ _).trans (feq c9).1) (XS.iconst X0.here hx rfl (hb hby at_12) (XS.goto X0.here hx rfl (pc0 := 13) (pc' := 17) rfl (hb hby at_13) (by decide) (by decide) (XS.istore X0.here hx rfl (hb hby at_17) rfl (l' := #[.val (.int i0), .val (.int i1), .val (.int i2), .val (.int (Int32.ofNat nl)), .val (.int (1 : Int32)), .unset, .unset, .unset, .unset, .unset, .unset, .unset, .unset, .unset]) rfl (XS.iloadN X0.here hx rfl (hb hby at_19) rfl (XS.iconst X0.here hx rfl (hb hby at_20) (XS.iand X0.here hx rfl (hb hby at_21) rfl kq))))))) ?_
    by_cases c22 : (i1 &&& (2 : Int32)) = (0 : Int32)
    · skip
      refine own_to s₁ (mkF m 36 #[.val (.int i0), .val (.int i1), .val (.int i2), .val (.int (Int32.ofNat nl)), .val (.int (1 : Int32)), .val (.int (0 : Int32)), .unset, .unset, .unset, .unset, .unset, .unset, .unset, .unset] []) (fun tq kq => XS.ifYes X0.here hx rfl (pc0 := 22) (pc' := 33) rfl (hb hby at_22) rfl ((if0 _ _).trans (teq c22).1) (by decide) (by decide) (XS.iconst X0.here hx rfl (hb hby at_33) (XS.istore X0.here hx rfl (hb hby at_34) rfl (l' := #[.val (.int i0), .val (.int i1), .val (.int i2), .val (.int (Int32.ofNat nl)), .val (.int (1 : Int32)), .val (.int (0 : Int32)), .unset, .unset, .unset, .unset, .unset, .unset, .unset, .unset]) rfl kq))) ?_
      exact J36 _ _ (Or.inr rfl) (Or.inl rfl)
    · skip
      refine own_to s₁ (mkF m 26 #[.val (.int i0), .val (.int i1), .val (.int i2), .val (.int (Int32.ofNat nl)), .val (.int (1 : Int32)), .unset, .unset, .unset, .unset, .unset, .unset, .unset, .unset, .unset] [(.int (Int32.ofNat nl))]) (fun tq kq => XS.ifNo X0.here hx rfl (hb hby at_22) rfl ((if0 _ _).trans (feq c22).1) (XS.iloadN X0.here hx rfl (hb hby at_25) rfl kq)) ?_
      by_cases c26 : (Int32.ofNat nl) = (0 : Int32)
      · skip
        refine own_to s₁ (mkF m 36 #[.val (.int i0), .val (.int i1), .val (.int i2), .val (.int (Int32.ofNat nl)), .val (.int (1 : Int32)), .val (.int (0 : Int32)), .unset, .unset, .unset, .unset, .unset, .unset, .unset, .unset] []) (fun tq kq => XS.ifYes X0.here hx rfl (pc0 := 26) (pc' := 33) rfl (hb hby at_26) rfl ((if0 _ _).trans (teq c26).1) (by decide) (by decide) (XS.iconst X0.here hx rfl (hb hby at_33) (XS.istore X0.here hx rfl (hb hby at_34) rfl (l' := #[.val (.int i0), .val (.int i1), .val (.int i2), .val (.int (Int32.ofNat nl)), .val (.int (1 : Int32)), .val (.int (0 : Int32)), .unset, .unset, .unset, .unset, .unset, .unset, .unset, .unset]) rfl kq))) ?_
        exact J36 _ _ (Or.inr rfl) (Or.inl rfl)
      · skip
        refine own_to s₁ (mkF m 36 #[.val (.int i0), .val (.int i1), .val (.int i2), .val (.int (Int32.ofNat nl)), .val (.int (1 : Int32)), .val (.int (1 : Int32)), .unset, .unset, .unset, .unset, .unset, .unset, .unset, .unset] []) (fun tq kq => XS.ifNo X0.here hx rfl (hb hby at_26) rfl ((if0 _ _).trans (feq c26).1) (XS.iconst X0.here hx rfl (hb hby at_29) (XS.goto X0.here hx rfl (pc0 := 30) (pc' := 34) rfl (hb hby at_30) (by decide) (by decide) (XS.istore X0.here hx rfl (hb hby at_34) rfl (l' := #[.val (.int i0), .val (.int i1), .val (.int i2), .val (.int (Int32.ofNat nl)), .val (.int (1 : Int32)), .val (.int (1 : Int32)), .unset, .unset, .unset, .unset, .unset, .unset, .unset, .unset]) rfl kq)))) ?_
        exact J36 _ _ (Or.inr rfl) (Or.inr rfl)
set_option maxRecDepth 65536 in
set_option maxHeartbeats 40000000 in
theorem comes_1 {Post : Tables → Env → Array Value → State → Outcome → State → Prop} (hpost : ∀ tb e args s v u, (limb_1_1.after args s (.returned v) u = true ∧ limb_1_2.after args s (.returned v) u = true ∧ True) → FrameEnd s (.returned v) u (Jvm.fieldLocs frame_1_writes args s ++ Jvm.arrayLocs frame_1_arrays args s ++ Jvm.staticLocs frame_1_statics s) 16 128 → Post tb e args s (.returned v) u) :
    ArmFor flags0 classFile x code maxLocals ret World_1 tables_1 room_1 Calls_1 rest_1 Pre_1 Post := by
  intro l hfl _ _ p e ha hc hk s m args below hf hA hF happ hP
  obtain ⟨hcalls, hrest, hpre⟩ := hP
  obtain ⟨-, -, -, hnamed, -, -, -, hat⟩ := (Spec.applies_iff hf).mp happ
  obtain ⟨hg, hn⟩ := and_e (Cond.before_iff.mp (show (Jvm.Cond.and given_1 narrow_1).before args s = true from hpre))
  obtain ⟨q1, q2⟩ := and_e hg
  obtain ⟨q3, q4⟩ := and_e q2
  obtain ⟨q5, q6⟩ := and_e q4
  obtain ⟨w0, w1, w2, rfl⟩ : ∃ w0 w1 w2 : Value, args = #[w0, w1, w2] := by
    have hs : args.size = 3 := by simpa [Cond.value, given_1] using q1
    obtain ⟨L⟩ := args
    match L, hs with
    | [w0, w1, w2], _ => exact ⟨w0, w1, w2, rfl⟩
  have hw := fun d (hd : d ∈ tables_1) => atoms_spec (ws := Jvm.Cond.code x code maxLocals ret :: tables_1) hat d (List.mem_cons_of_mem _ hd)
  have hfit : Fit s := fun {y c} hc i hi => by
    obtain ⟨ha, rfl⟩ := Array.getElem?_eq_some_iff.mp hc
    have q := List.all_eq_true.mp ((Array.all_eq_true_iff_forall_mem.mp hF) _ (Array.getElem_mem ha)) i (List.mem_range.mpr hi)
    simpa [Array.getElem?_eq_getElem hi] using q
  obtain ⟨i0, ei0⟩ := is_v q3
  obtain rfl : w0 = (.int i0) := Option.some.inj ei0
  obtain ⟨i1, ei1⟩ := is_v q5
  obtain rfl : w1 = (.int i1) := Option.some.inj ei1
  obtain ⟨i2, ei2⟩ := is_v q6
  obtain rfl : w2 = (.int i2) := Option.some.inj ei2
  obtain ⟨n, o, h1, h2, h3, _, L, rfl, ⟨rfl, N⟩, hq⟩ := rm0 l s _ hw tables_1 i0 i1 i2 s.heap s.heap.size (Nat.le_refl _)  p e ha hc hk s m _ below hf ((Spec.applies_iff_loose hf).mp happ).1 ⟨rfl, State.Warmed39.refl s, rfl⟩ trivial
  refine ⟨n, _, h1, h2, h3, hpost _ _ _ _ _ _ ⟨Cond.after_iff.mpr rfl, Cond.after_iff.mpr (eq_i res_at (Term.int_eval (1)) rfl), trivial⟩ ⟨hq.1, hq.2.1, (hq.2.2.sift fun y hy => Or.inr (N y hy)).mono (by decide) (by decide)⟩⟩
theorem main_1_1 : Claimed_1_1 := comes_1 fun _ _ _ _ _ _ h hF => ⟨h.1, hF⟩
theorem main_1_2 : Claimed_1_2 := comes_1 fun _ _ _ _ _ _ h hF => ⟨h.2.1, hF⟩
end Jvm.Pilot.@@N@@
namespace Jvm.Pilot.@@N@@
open Jvm Jvm.ClassFile Sem Op Lib Jvm.Free Jvm.Stand Jvm.Pilot.@@N@@.Jvm.D
/-! MADE BY PROGRAM (witnessworld.py) out of the Statement's table words and the real class files: 10 classes; the members and pool entries that the words name. The judged class is class 1, her method 1. -/
namespace start1
open Jvm.ClassFile
def u (s : String) : CpInfo := .utf8 (stringToUtf16 s)
/-- a pool by its gaps: so many unusable entries, then the entry; so many at the end -/
def gap : Nat → List CpInfo → List CpInfo
  | 0, r => r
  | n + 1, r => .unusable :: gap n r
def poolList (es : List (Nat × CpInfo)) (last : Nat) : List CpInfo := es.foldr (fun e r => gap e.1 (e.2 :: r)) (gap last [])
def pool (es : List (Nat × CpInfo)) (last : Nat) : Array CpInfo := ⟨poolList es last⟩
def fileOf (pool : Array CpInfo) (this : Nat) (attrs : Array Attribute := #[]) (ms : Array MethodInfo := #[]) (fl : Nat := 33) (sup : Nat := 0) (ifs : Array Nat := #[]) (fds : Array FieldInfo := #[]) : ClassFile where
  minorVersion := 0
  majorVersion := 65
  constantPool := pool
  accessFlags := fl
  thisClass := this
  superClass := sup
  interfaces := ifs
  fields := fds
  methods := ms
  attributes := attrs
def plain (name : String) (sup : Option ClassId) : Class where
  name := name
  kind := .ordinary
  loader := none
  accessFlags := 33
  super := sup
  interfaces := #[]
  cf := none
  fields := #[]
  methods := #[]
  instanceTypes := #[]
  staticTypes := #[]
  resolved := #[]
  callSites := []
  init := .initialized
  statics := none
  mirror := none

def pool0 : Array CpInfo := pool [(5, u "<init>"), (0, u "()V"), (1, .class_ 10), (1, u "java/lang/Object")] 113

def k0c0 : Code := { maxStack := 0, maxLocals := 1, code := object_method_1_code, exceptionTable := #[], attributes := #[] }
def k0m0 : Method := { name := "<init>", desc := "()V", sig := { parameters := [], returnType := none }, accessFlags := 1, code := some k0c0 }
/-- java/lang/Object -/
def k0 : Class := { plain "java/lang/Object" none with
  accessFlags := 33
  interfaces := #[]
  cf := some (fileOf pool0 8 #[] #[{ accessFlags := 1, nameIndex := 5, descriptorIndex := 6, attributes := #[] }] 33 0 #[] #[])
  fields := #[]
  methods := #[k0m0]
  instanceTypes := #[]
  staticTypes := #[]
  resolved := Array.replicate 124 none
  statics := none }

def pool1 : Array CpInfo := pool [(2, .class_ 4), (0, .nameAndType 5 6), (0, u "java/lang/Object"), (0, u "<init>"), (0, u "()V"), (0, .class_ 8), (0, u "com/example/warmjoin/warmjoin/PackedFields$Cursor"), (0, .methodref 7 3), (0, .methodref 7 11), (0, .nameAndType 12 13), (0, u "over"), (0, u "([BII)Lcom/example/warmjoin/warmjoin/PackedFields$Cursor;"), (0, .methodref 7 15), (0, .nameAndType 16 17), (0, u "next"), (0, u "()Z"), (0, .methodref 7 19), (0, .nameAndType 20 17), (0, u "literal"), (0, .class_ 22), (0, u "com/example/warmjoin/warmjoin/CursorLiteralPinLaw"), (2, u "law"), (0, u "(III)Z")] 9

def k1m0 : Method := { name := "<init>", desc := "()V", sig := { parameters := [], returnType := none }, accessFlags := 1, code := none }
def k1c1 : Code := { maxStack := 4, maxLocals := 14, code := code, exceptionTable := #[], attributes := #[] }
def k1m1 : Method := { name := "law", desc := "(III)Z", sig := { parameters := [.int, .int, .int], returnType := some .boolean }, accessFlags := 9, code := some k1c1 }
/-- com/example/warmjoin/warmjoin/CursorLiteralPinLaw -/
def k1 : Class := { plain "com/example/warmjoin/warmjoin/CursorLiteralPinLaw" (some 0) with
  accessFlags := 49
  interfaces := #[]
  cf := some (fileOf pool1 21 #[] #[{ accessFlags := 1, nameIndex := 5, descriptorIndex := 6, attributes := #[] }, { accessFlags := 9, nameIndex := 25, descriptorIndex := 26, attributes := #[] }] 49 2 #[] #[])
  fields := #[]
  methods := #[k1m0, k1m1]
  instanceTypes := #[]
  staticTypes := #[]
  resolved := Array.replicate 36 none
  statics := none }

def pool2 : Array CpInfo := pool [(1, .methodref 2 3), (0, .class_ 4), (0, .nameAndType 5 6), (0, u "java/lang/Object"), (0, u "<init>"), (0, u "()V"), (0, .fieldref 8 9), (0, .class_ 10), (0, .nameAndType 11 12), (0, u "com/example/warmjoin/warmjoin/PackedFields$Cursor"), (0, u "packed"), (0, u "[B"), (0, .fieldref 8 14), (0, .nameAndType 15 16), (0, u "to"), (0, u "I"), (0, .fieldref 8 18), (0, .nameAndType 19 16), (0, u "at"), (0, .fieldref 8 21), (0, .nameAndType 22 16), (0, u "left"), (0, .methodref 24 25), (0, .class_ 26), (0, .nameAndType 27 28), (0, u "com/example/warmjoin/warmjoin/PackedFields"), (0, u "number"), (0, u "([BI)J"), (0, .methodref 24 30), (0, .nameAndType 31 32), (0, u "body"), (0, u "([BJ)J"), (0, .methodref 24 34), (0, .nameAndType 35 36), (0, u "fieldsOf"), (0, u "(J)I"), (0, .methodref 24 38), (0, .nameAndType 39 36), (0, u "start"), (0, .methodref 24 41), (0, .nameAndType 42 43), (0, u "isText"), (0, u "(J)Z"), (0, .fieldref 8 45), (0, .nameAndType 46 47), (0, u "text"), (0, u "Z"), (0, .methodref 24 49), (0, .nameAndType 50 36), (0, u "length"), (0, .fieldref 8 52), (0, .nameAndType 53 16), (0, u "textEnd"), (0, .methodref 24 55), (0, .nameAndType 56 43), (0, u "hasLiterals"), (0, .methodref 24 58), (0, .nameAndType 59 60), (0, u "literalBytes"), (0, u "(I)I"), (0, .fieldref 8 62), (0, .nameAndType 63 16), (0, u "literals"), (0, .fieldref 8 65), (0, .nameAndType 66 16), (0, u "index"), (0, .methodref 24 68), (0, .nameAndType 69 70), (0, u "comma"), (0, u "([BII)I"), (0, .fieldref 8 72), (0, .nameAndType 73 16), (0, u "offset"), (0, .fieldref 8 75), (0, .nameAndType 50 16), (2, u "over"), (0, u "([BII)Lcom/example/warmjoin/warmjoin/PackedFields$Cursor;"), (0, u "next"), (0, u "()Z"), (1, u "literal")] 6

def k2c0 : Code := { maxStack := 1, maxLocals := 1, code := prog_100_method_1_code, exceptionTable := #[], attributes := #[] }
def k2m0 : Method := { name := "<init>", desc := "()V", sig := { parameters := [], returnType := none }, accessFlags := 0, code := some k2c0 }
def k2c1 : Code := { maxStack := 2, maxLocals := 4, code := prog_100_method_2_code, exceptionTable := #[], attributes := #[] }
def k2m1 : Method := { name := "over", desc := "([BII)Lcom/example/warmjoin/warmjoin/PackedFields$Cursor;", sig := { parameters := [(.array .byte), .int, .int], returnType := some (.object "com/example/warmjoin/warmjoin/PackedFields$Cursor") }, accessFlags := 0, code := some k2c1 }
def k2c2 : Code := { maxStack := 4, maxLocals := 5, code := prog_100_method_3_code, exceptionTable := #[], attributes := #[] }
def k2m2 : Method := { name := "next", desc := "()Z", sig := { parameters := [], returnType := some .boolean }, accessFlags := 0, code := some k2c2 }
def k2c3 : Code := { maxStack := 4, maxLocals := 1, code := prog_100_method_4_code, exceptionTable := #[], attributes := #[] }
def k2m3 : Method := { name := "literal", desc := "()Z", sig := { parameters := [], returnType := some .boolean }, accessFlags := 0, code := some k2c3 }
/-- com/example/warmjoin/warmjoin/PackedFields$Cursor -/
def k2 : Class := { plain "com/example/warmjoin/warmjoin/PackedFields$Cursor" (some 0) with
  accessFlags := 48
  interfaces := #[]
  cf := some (fileOf pool2 8 #[.nestHost 24] #[{ accessFlags := 0, nameIndex := 5, descriptorIndex := 6, attributes := #[] }, { accessFlags := 0, nameIndex := 78, descriptorIndex := 79, attributes := #[] }, { accessFlags := 0, nameIndex := 80, descriptorIndex := 81, attributes := #[] }, { accessFlags := 0, nameIndex := 83, descriptorIndex := 81, attributes := #[] }] 48 2 #[] #[{ accessFlags := 2, nameIndex := 11, descriptorIndex := 12, attributes := #[] }, { accessFlags := 2, nameIndex := 15, descriptorIndex := 16, attributes := #[] }, { accessFlags := 2, nameIndex := 19, descriptorIndex := 16, attributes := #[] }, { accessFlags := 2, nameIndex := 22, descriptorIndex := 16, attributes := #[] }, { accessFlags := 2, nameIndex := 46, descriptorIndex := 47, attributes := #[] }, { accessFlags := 2, nameIndex := 53, descriptorIndex := 16, attributes := #[] }, { accessFlags := 2, nameIndex := 63, descriptorIndex := 16, attributes := #[] }, { accessFlags := 2, nameIndex := 66, descriptorIndex := 16, attributes := #[] }, { accessFlags := 2, nameIndex := 73, descriptorIndex := 16, attributes := #[] }, { accessFlags := 2, nameIndex := 50, descriptorIndex := 16, attributes := #[] }])
  fields := #[{ name := "packed", type := (.array .byte), accessFlags := 2, slot := 0, constantValue := 0 }, { name := "to", type := .int, accessFlags := 2, slot := 1, constantValue := 0 }, { name := "at", type := .int, accessFlags := 2, slot := 2, constantValue := 0 }, { name := "left", type := .int, accessFlags := 2, slot := 3, constantValue := 0 }, { name := "text", type := .boolean, accessFlags := 2, slot := 4, constantValue := 0 }, { name := "textEnd", type := .int, accessFlags := 2, slot := 5, constantValue := 0 }, { name := "literals", type := .int, accessFlags := 2, slot := 6, constantValue := 0 }, { name := "index", type := .int, accessFlags := 2, slot := 7, constantValue := 0 }, { name := "offset", type := .int, accessFlags := 2, slot := 8, constantValue := 0 }, { name := "length", type := .int, accessFlags := 2, slot := 9, constantValue := 0 }]
  methods := #[k2m0, k2m1, k2m2, k2m3]
  instanceTypes := #[(.array .byte), .int, .int, .int, .boolean, .int, .int, .int, .int, .int]
  staticTypes := #[]
  resolved := Array.replicate 90 none
  statics := none }

def pool3 : Array CpInfo := pool [(2, .class_ 4), (1, u "java/lang/Object"), (0, u "<init>"), (0, u "()V"), (1, .class_ 10), (1, u "com/example/warmjoin/warmjoin/PackedFields"), (2, .class_ 14), (0, u "com/example/warmjoin/warmjoin/PackedFields$Packer"), (3, u "start"), (11, u "length"), (20, u "(I)I"), (0, .methodref 8 53), (0, .nameAndType 54 51), (0, u "literalBytes"), (2, .methodref 8 58), (0, .nameAndType 59 60), (0, u "number"), (0, u "([BI)J"), (2, u "body"), (0, u "([BJ)J"), (0, .methodref 8 66), (0, .nameAndType 18 67), (0, u "(J)I"), (0, .methodref 8 69), (0, .nameAndType 70 71), (0, u "isText"), (0, u "(J)Z"), (2, .methodref 8 75), (0, .nameAndType 76 67), (0, u "fieldsOf"), (2, u "QUOTED"), (0, u "[Z"), (6, .class_ 88), (0, u "com/example/warmjoin/warmjoin/PackedFields$Cursor"), (36, u "comma"), (0, u "([BII)I"), (15, .methodref 8 143), (0, .nameAndType 144 71), (0, u "hasLiterals"), (3, .long 4294967295), (7, u "NONE"), (0, u "[B"), (0, u "TEXT"), (0, u "I"), (2, u "LITERALS"), (1, u "MOST_NUMBER_BYTES")] 39

def k3m0 : Method := { name := "<init>", desc := "()V", sig := { parameters := [], returnType := none }, accessFlags := 2, code := none }
def k3c1 : Code := { maxStack := 3, maxLocals := 2, code := prog_99_method_13_code, exceptionTable := #[], attributes := #[] }
def k3m1 : Method := { name := "start", desc := "(J)I", sig := { parameters := [.long], returnType := some .int }, accessFlags := 8, code := some k3c1 }
def k3c2 : Code := { maxStack := 2, maxLocals := 2, code := prog_99_method_14_code, exceptionTable := #[], attributes := #[] }
def k3m2 : Method := { name := "length", desc := "(J)I", sig := { parameters := [.long], returnType := some .int }, accessFlags := 8, code := some k3c2 }
def k3c3 : Code := { maxStack := 5, maxLocals := 5, code := prog_99_method_19_code, exceptionTable := #[], attributes := #[] }
def k3m3 : Method := { name := "body", desc := "([BJ)J", sig := { parameters := [(.array .byte), .long], returnType := some .long }, accessFlags := 10, code := some k3c3 }
def k3c4 : Code := { maxStack := 2, maxLocals := 2, code := prog_99_method_20_code, exceptionTable := #[], attributes := #[] }
def k3m4 : Method := { name := "isText", desc := "(J)Z", sig := { parameters := [.long], returnType := some .boolean }, accessFlags := 10, code := some k3c4 }
def k3c5 : Code := { maxStack := 2, maxLocals := 2, code := prog_99_method_21_code, exceptionTable := #[], attributes := #[] }
def k3m5 : Method := { name := "hasLiterals", desc := "(J)Z", sig := { parameters := [.long], returnType := some .boolean }, accessFlags := 10, code := some k3c5 }
def k3c6 : Code := { maxStack := 2, maxLocals := 2, code := prog_99_method_22_code, exceptionTable := #[], attributes := #[] }
def k3m6 : Method := { name := "fieldsOf", desc := "(J)I", sig := { parameters := [.long], returnType := some .int }, accessFlags := 10, code := some k3c6 }
def k3c7 : Code := { maxStack := 2, maxLocals := 1, code := prog_99_method_23_code, exceptionTable := #[], attributes := #[] }
def k3m7 : Method := { name := "literalBytes", desc := "(I)I", sig := { parameters := [.int], returnType := some .int }, accessFlags := 10, code := some k3c7 }
def k3c8 : Code := { maxStack := 2, maxLocals := 4, code := prog_99_method_24_code, exceptionTable := #[], attributes := #[] }
def k3m8 : Method := { name := "comma", desc := "([BII)I", sig := { parameters := [(.array .byte), .int, .int], returnType := some .int }, accessFlags := 10, code := some k3c8 }
def k3c9 : Code := { maxStack := 6, maxLocals := 6, code := prog_99_method_33_code, exceptionTable := #[], attributes := #[] }
def k3m9 : Method := { name := "number", desc := "([BI)J", sig := { parameters := [(.array .byte), .int], returnType := some .long }, accessFlags := 10, code := some k3c9 }
/-- com/example/warmjoin/warmjoin/PackedFields -/
def k3 : Class := { plain "com/example/warmjoin/warmjoin/PackedFields" (some 0) with
  accessFlags := 48
  interfaces := #[]
  cf := some (fileOf pool3 8 #[.nestMembers #[87, 13]] #[{ accessFlags := 2, nameIndex := 5, descriptorIndex := 6, attributes := #[] }, { accessFlags := 8, nameIndex := 18, descriptorIndex := 67, attributes := #[] }, { accessFlags := 8, nameIndex := 30, descriptorIndex := 67, attributes := #[] }, { accessFlags := 10, nameIndex := 63, descriptorIndex := 64, attributes := #[] }, { accessFlags := 10, nameIndex := 70, descriptorIndex := 71, attributes := #[] }, { accessFlags := 10, nameIndex := 144, descriptorIndex := 71, attributes := #[] }, { accessFlags := 10, nameIndex := 76, descriptorIndex := 67, attributes := #[] }, { accessFlags := 10, nameIndex := 54, descriptorIndex := 51, attributes := #[] }, { accessFlags := 10, nameIndex := 125, descriptorIndex := 126, attributes := #[] }, { accessFlags := 10, nameIndex := 59, descriptorIndex := 60, attributes := #[] }] 48 2 #[] #[{ accessFlags := 26, nameIndex := 79, descriptorIndex := 80, attributes := #[] }, { accessFlags := 26, nameIndex := 158, descriptorIndex := 159, attributes := #[] }, { accessFlags := 26, nameIndex := 162, descriptorIndex := 159, attributes := #[] }, { accessFlags := 26, nameIndex := 156, descriptorIndex := 157, attributes := #[] }, { accessFlags := 26, nameIndex := 164, descriptorIndex := 159, attributes := #[] }])
  fields := #[{ name := "QUOTED", type := (.array .boolean), accessFlags := 26, slot := 0, constantValue := 0 }, { name := "TEXT", type := .int, accessFlags := 26, slot := 1, constantValue := 0 }, { name := "LITERALS", type := .int, accessFlags := 26, slot := 2, constantValue := 0 }, { name := "NONE", type := (.array .byte), accessFlags := 26, slot := 3, constantValue := 0 }, { name := "MOST_NUMBER_BYTES", type := .int, accessFlags := 26, slot := 4, constantValue := 0 }]
  methods := #[k3m0, k3m1, k3m2, k3m3, k3m4, k3m5, k3m6, k3m7, k3m8, k3m9]
  instanceTypes := #[]
  staticTypes := #[(.array .boolean), .int, .int, (.array .byte), .int]
  resolved := Array.replicate 204 none
  statics := none }

def pool4 : Array CpInfo := pool [(1, u "java/lang/Cloneable"), (0, .class_ 1), (0, u "java/lang/Object"), (0, .class_ 3)] 3

/-- java/lang/Cloneable -/
def k4 : Class := { plain "java/lang/Cloneable" (some 0) with
  accessFlags := 1537
  interfaces := #[]
  cf := some (fileOf pool4 2 #[] #[] 1537 4 #[] #[])
  fields := #[]
  methods := #[]
  instanceTypes := #[]
  staticTypes := #[]
  resolved := Array.replicate 8 none
  statics := none }

def pool5 : Array CpInfo := pool [(1, u "java/io/Serializable"), (0, .class_ 1), (0, u "java/lang/Object"), (0, .class_ 3)] 3

/-- java/io/Serializable -/
def k5 : Class := { plain "java/io/Serializable" (some 0) with
  accessFlags := 1537
  interfaces := #[]
  cf := some (fileOf pool5 2 #[] #[] 1537 4 #[] #[])
  fields := #[]
  methods := #[]
  instanceTypes := #[]
  staticTypes := #[]
  resolved := Array.replicate 8 none
  statics := none }

/-- the primitive byte -/
def k6 : Class := { plain "byte" none with kind := .primitive 'B', accessFlags := 0x411 }
/-- [B -/
def k7 : Class := { plain "[B" (some 0) with kind := .array 6 .byte, interfaces := #[4, 5], accessFlags := 1041 }

/-- the primitive int -/
def k8 : Class := { plain "int" none with kind := .primitive 'I', accessFlags := 0x411 }
/-- [I -/
def k9 : Class := { plain "[I" (some 0) with kind := .array 8 .int, interfaces := #[4, 5], accessFlags := 1041 }

def heap : Heap := #[]
def classes : Array Class := #[k0, k1, k2, k3, k4, k5, k6, k7, k8, k9]
def interned : List (Array UInt16 × Addr) := []
def slotsUsed : Nat := 0
def theMethod : MethodId := ⟨1, 1⟩
def args0 : Array Value := #[.int 5, .int 5, .int 5]
def aboutOver (below : List Frame) : State where
  vm := { classes := classes, interned := interned.toArray }
  heap := heap
  slotsUsed := slotsUsed
  threads := #[{ frames := .invoking theMethod args0 :: below }]
def below0 : List Frame := [.native { method := ⟨0, 0⟩, args := #[] }]
def about1 : State := aboutOver below0
def p0 : Program := .bare "" "" ""
def e0 : Env := launch0.env 0 0 0
theorem w_frames : about1.frames = Frame.invoking theMethod args0 :: below0 := rfl
set_option maxRecDepth 65536 in
theorem w_args : argsFit about1.vm theMethod args0 = true := by decide +kernel
set_option maxRecDepth 65536 in
theorem w_heap : heapFits about1 = true := by decide +kernel
set_option maxRecDepth 65536 in
theorem w_runnable : about1.curStatus? = some .runnable := by decide +kernel
set_option maxRecDepth 65536 in
theorem w_alone : about1.alone = true := by decide +kernel
set_option maxRecDepth 65536 in
theorem w_named : about1.methodNamed? x = some theMethod := by decide +kernel
set_option maxRecDepth 65536 in
theorem w_hears : about1.hears theMethod below0 = true := by decide +kernel
set_option maxRecDepth 65536 in
theorem w_ripe : about1.ripe theMethod args0 below0 = true := by decide +kernel
theorem w_running : about1.status = .running := rfl
set_option maxRecDepth 65536 in
theorem w_room : about1.hasRoom e0.platform room_1 = true :=
  launch0.hasRoom_least _ room_1 (by decide +kernel) (by decide +kernel) (by decide +kernel) (by decide +kernel) (by decide +kernel) (by decide +kernel)
theorem allAtoms_all (ts : List Jvm.Cond) (a : Array Jvm.Value) (st : Jvm.State) : (allAtoms ts).before a st = ts.all (fun c => c.before a st) := by
  induction ts with
  | nil => rfl
  | cons c t ih =>
    show (Jvm.Cond.and c (allAtoms t)).before a st = _
    rw [Jvm.Cond.before_and, ih, List.all_cons]
def words1 : List Jvm.Cond := Jvm.Cond.code x code maxLocals ret :: tables_1
/-- a 'code' word, met by the world's own term for the bytes: nothing is compared byte by byte -/
theorem code_word {y : MethodName} {bytes : ByteArray} {mx : Nat} {rt : Option FieldType} {a : Array Value} {s : State} {m : MethodId} {meth : Method} {c : Code} (h1 : s.methodNamed? y = some m) (h2 : s.vm.method? m = some meth) (h3 : meth.code = some c) (h4 : c.code = bytes)
    (h5 : (c.maxLocals == mx && c.exceptionTable.isEmpty && decide (c.maxStack ≤ mostOperands) && decide (meth.sig.returnType = rt) && !meth.locks && decide (parseMethodDescriptor y.desc = some meth.sig)) = true) : (Jvm.Cond.code y bytes mx rt).before a s = true := by
  simp only [Bool.and_eq_true, beq_iff_eq, Bool.not_eq_true', decide_eq_true_eq] at h5
  obtain ⟨⟨⟨⟨⟨g1, g2⟩, g3⟩, g4⟩, g5⟩, g6⟩ := h5
  simp [Cond.before, Cond.holds, Cond.value, h1, h2, h3, h4, g1, g2, g3, g4, g5, g6]
def isCode : Jvm.Cond → Bool
  | .code _ _ _ _ => true
  | _ => false
theorem all_split {L : List Jvm.Cond} {P : Jvm.Cond → Bool} (h1 : L.all (fun c => isCode c || P c) = true) (h2 : ∀ c ∈ L.filter isCode, P c = true) : L.all P = true := by
  refine List.all_eq_true.mpr fun c hc => ?_
  have h := List.all_eq_true.mp h1 c hc
  rcases Bool.eq_false_or_eq_true (isCode c) with hi | hi
  · exact h2 c (List.mem_filter.mpr ⟨hc, hi⟩)
  · simpa [hi] using h
set_option maxRecDepth 65536 in
theorem w_c0 : (Jvm.Cond.code x code maxLocals ret).before args0 about1 = true := code_word (m := ⟨1, 1⟩) (meth := k1m1) (c := k1c1) (by decide +kernel) rfl rfl rfl (by decide +kernel)
set_option maxRecDepth 65536 in
theorem w_c1 : (Jvm.Cond.code ({ cls := "com/example/warmjoin/warmjoin/PackedFields$Cursor", name := "<init>", desc := "()V" } : Jvm.MethodName) prog_100_method_1_code (1 : Nat) (Option.none : Option Jvm.ClassFile.FieldType)).before args0 about1 = true := code_word (m := ⟨2, 0⟩) (meth := k2m0) (c := k2c0) (by decide +kernel) rfl rfl rfl (by decide +kernel)
set_option maxRecDepth 65536 in
theorem w_c2 : (Jvm.Cond.code ({ cls := "java/lang/Object", name := "<init>", desc := "()V" } : Jvm.MethodName) object_method_1_code (1 : Nat) (Option.none : Option Jvm.ClassFile.FieldType)).before args0 about1 = true := code_word (m := ⟨0, 0⟩) (meth := k0m0) (c := k0c0) (by decide +kernel) rfl rfl rfl (by decide +kernel)
set_option maxRecDepth 65536 in
theorem w_c3 : (Jvm.Cond.code ({ cls := "com/example/warmjoin/warmjoin/PackedFields$Cursor", name := "over", desc := "([BII)Lcom/example/warmjoin/warmjoin/PackedFields$Cursor;" } : Jvm.MethodName) prog_100_method_2_code (4 : Nat) (Option.some (Jvm.ClassFile.FieldType.object "com/example/warmjoin/warmjoin/PackedFields$Cursor"))).before args0 about1 = true := code_word (m := ⟨2, 1⟩) (meth := k2m1) (c := k2c1) (by decide +kernel) rfl rfl rfl (by decide +kernel)
set_option maxRecDepth 65536 in
theorem w_c4 : (Jvm.Cond.code ({ cls := "com/example/warmjoin/warmjoin/PackedFields$Cursor", name := "next", desc := "()Z" } : Jvm.MethodName) prog_100_method_3_code (5 : Nat) (Option.some Jvm.ClassFile.FieldType.boolean)).before args0 about1 = true := code_word (m := ⟨2, 2⟩) (meth := k2m2) (c := k2c2) (by decide +kernel) rfl rfl rfl (by decide +kernel)
set_option maxRecDepth 65536 in
theorem w_c5 : (Jvm.Cond.code ({ cls := "com/example/warmjoin/warmjoin/PackedFields", name := "number", desc := "([BI)J" } : Jvm.MethodName) prog_99_method_33_code (6 : Nat) (Option.some Jvm.ClassFile.FieldType.long)).before args0 about1 = true := code_word (m := ⟨3, 9⟩) (meth := k3m9) (c := k3c9) (by decide +kernel) rfl rfl rfl (by decide +kernel)
set_option maxRecDepth 65536 in
theorem w_c6 : (Jvm.Cond.code ({ cls := "com/example/warmjoin/warmjoin/PackedFields", name := "body", desc := "([BJ)J" } : Jvm.MethodName) prog_99_method_19_code (5 : Nat) (Option.some Jvm.ClassFile.FieldType.long)).before args0 about1 = true := code_word (m := ⟨3, 3⟩) (meth := k3m3) (c := k3c3) (by decide +kernel) rfl rfl rfl (by decide +kernel)
set_option maxRecDepth 65536 in
theorem w_c7 : (Jvm.Cond.code ({ cls := "com/example/warmjoin/warmjoin/PackedFields", name := "isText", desc := "(J)Z" } : Jvm.MethodName) prog_99_method_20_code (2 : Nat) (Option.some Jvm.ClassFile.FieldType.boolean)).before args0 about1 = true := code_word (m := ⟨3, 4⟩) (meth := k3m4) (c := k3c4) (by decide +kernel) rfl rfl rfl (by decide +kernel)
set_option maxRecDepth 65536 in
theorem w_c8 : (Jvm.Cond.code ({ cls := "com/example/warmjoin/warmjoin/PackedFields", name := "start", desc := "(J)I" } : Jvm.MethodName) prog_99_method_13_code (2 : Nat) (Option.some Jvm.ClassFile.FieldType.int)).before args0 about1 = true := code_word (m := ⟨3, 1⟩) (meth := k3m1) (c := k3c1) (by decide +kernel) rfl rfl rfl (by decide +kernel)
set_option maxRecDepth 65536 in
theorem w_c9 : (Jvm.Cond.code ({ cls := "com/example/warmjoin/warmjoin/PackedFields", name := "hasLiterals", desc := "(J)Z" } : Jvm.MethodName) prog_99_method_21_code (2 : Nat) (Option.some Jvm.ClassFile.FieldType.boolean)).before args0 about1 = true := code_word (m := ⟨3, 5⟩) (meth := k3m5) (c := k3c5) (by decide +kernel) rfl rfl rfl (by decide +kernel)
set_option maxRecDepth 65536 in
theorem w_c10 : (Jvm.Cond.code ({ cls := "com/example/warmjoin/warmjoin/PackedFields", name := "fieldsOf", desc := "(J)I" } : Jvm.MethodName) prog_99_method_22_code (2 : Nat) (Option.some Jvm.ClassFile.FieldType.int)).before args0 about1 = true := code_word (m := ⟨3, 6⟩) (meth := k3m6) (c := k3c6) (by decide +kernel) rfl rfl rfl (by decide +kernel)
set_option maxRecDepth 65536 in
theorem w_c11 : (Jvm.Cond.code ({ cls := "com/example/warmjoin/warmjoin/PackedFields", name := "length", desc := "(J)I" } : Jvm.MethodName) prog_99_method_14_code (2 : Nat) (Option.some Jvm.ClassFile.FieldType.int)).before args0 about1 = true := code_word (m := ⟨3, 2⟩) (meth := k3m2) (c := k3c2) (by decide +kernel) rfl rfl rfl (by decide +kernel)
set_option maxRecDepth 65536 in
theorem w_c12 : (Jvm.Cond.code ({ cls := "com/example/warmjoin/warmjoin/PackedFields", name := "comma", desc := "([BII)I" } : Jvm.MethodName) prog_99_method_24_code (4 : Nat) (Option.some Jvm.ClassFile.FieldType.int)).before args0 about1 = true := code_word (m := ⟨3, 8⟩) (meth := k3m8) (c := k3c8) (by decide +kernel) rfl rfl rfl (by decide +kernel)
set_option maxRecDepth 65536 in
theorem w_c13 : (Jvm.Cond.code ({ cls := "com/example/warmjoin/warmjoin/PackedFields$Cursor", name := "literal", desc := "()Z" } : Jvm.MethodName) prog_100_method_4_code (1 : Nat) (Option.some Jvm.ClassFile.FieldType.boolean)).before args0 about1 = true := code_word (m := ⟨2, 3⟩) (meth := k2m3) (c := k2c3) (by decide +kernel) rfl rfl rfl (by decide +kernel)
set_option maxRecDepth 65536 in
theorem w_c14 : (Jvm.Cond.code ({ cls := "com/example/warmjoin/warmjoin/PackedFields", name := "literalBytes", desc := "(I)I" } : Jvm.MethodName) prog_99_method_23_code (1 : Nat) (Option.some Jvm.ClassFile.FieldType.int)).before args0 about1 = true := code_word (m := ⟨3, 7⟩) (meth := k3m7) (c := k3c7) (by decide +kernel) rfl rfl rfl (by decide +kernel)
def codes1 : List Jvm.Cond := [Jvm.Cond.code x code maxLocals ret, Jvm.Cond.code ({ cls := "com/example/warmjoin/warmjoin/PackedFields$Cursor", name := "<init>", desc := "()V" } : Jvm.MethodName) prog_100_method_1_code (1 : Nat) (Option.none : Option Jvm.ClassFile.FieldType), Jvm.Cond.code ({ cls := "java/lang/Object", name := "<init>", desc := "()V" } : Jvm.MethodName) object_method_1_code (1 : Nat) (Option.none : Option Jvm.ClassFile.FieldType), Jvm.Cond.code ({ cls := "com/example/warmjoin/warmjoin/PackedFields$Cursor", name := "over", desc := "([BII)Lcom/example/warmjoin/warmjoin/PackedFields$Cursor;" } : Jvm.MethodName) prog_100_method_2_code (4 : Nat) (Option.some (Jvm.ClassFile.FieldType.object "com/example/warmjoin/warmjoin/PackedFields$Cursor")), Jvm.Cond.code ({ cls := "com/example/warmjoin/warmjoin/PackedFields$Cursor", name := "next", desc := "()Z" } : Jvm.MethodName) prog_100_method_3_code (5 : Nat) (Option.some Jvm.ClassFile.FieldType.boolean), Jvm.Cond.code ({ cls := "com/example/warmjoin/warmjoin/PackedFields", name := "number", desc := "([BI)J" } : Jvm.MethodName) prog_99_method_33_code (6 : Nat) (Option.some Jvm.ClassFile.FieldType.long), Jvm.Cond.code ({ cls := "com/example/warmjoin/warmjoin/PackedFields", name := "body", desc := "([BJ)J" } : Jvm.MethodName) prog_99_method_19_code (5 : Nat) (Option.some Jvm.ClassFile.FieldType.long), Jvm.Cond.code ({ cls := "com/example/warmjoin/warmjoin/PackedFields", name := "isText", desc := "(J)Z" } : Jvm.MethodName) prog_99_method_20_code (2 : Nat) (Option.some Jvm.ClassFile.FieldType.boolean), Jvm.Cond.code ({ cls := "com/example/warmjoin/warmjoin/PackedFields", name := "start", desc := "(J)I" } : Jvm.MethodName) prog_99_method_13_code (2 : Nat) (Option.some Jvm.ClassFile.FieldType.int), Jvm.Cond.code ({ cls := "com/example/warmjoin/warmjoin/PackedFields", name := "hasLiterals", desc := "(J)Z" } : Jvm.MethodName) prog_99_method_21_code (2 : Nat) (Option.some Jvm.ClassFile.FieldType.boolean), Jvm.Cond.code ({ cls := "com/example/warmjoin/warmjoin/PackedFields", name := "fieldsOf", desc := "(J)I" } : Jvm.MethodName) prog_99_method_22_code (2 : Nat) (Option.some Jvm.ClassFile.FieldType.int), Jvm.Cond.code ({ cls := "com/example/warmjoin/warmjoin/PackedFields", name := "length", desc := "(J)I" } : Jvm.MethodName) prog_99_method_14_code (2 : Nat) (Option.some Jvm.ClassFile.FieldType.int), Jvm.Cond.code ({ cls := "com/example/warmjoin/warmjoin/PackedFields", name := "comma", desc := "([BII)I" } : Jvm.MethodName) prog_99_method_24_code (4 : Nat) (Option.some Jvm.ClassFile.FieldType.int), Jvm.Cond.code ({ cls := "com/example/warmjoin/warmjoin/PackedFields$Cursor", name := "literal", desc := "()Z" } : Jvm.MethodName) prog_100_method_4_code (1 : Nat) (Option.some Jvm.ClassFile.FieldType.boolean), Jvm.Cond.code ({ cls := "com/example/warmjoin/warmjoin/PackedFields", name := "literalBytes", desc := "(I)I" } : Jvm.MethodName) prog_99_method_23_code (1 : Nat) (Option.some Jvm.ClassFile.FieldType.int)]
set_option maxRecDepth 65536 in
theorem codes_eq : words1.filter isCode = codes1 := rfl
theorem w_codes : ∀ c ∈ words1.filter isCode, c.before args0 about1 = true := by
  rw [codes_eq]
  intro c hc
  simp only [codes1, List.mem_cons, List.not_mem_nil, or_false] at hc
  rcases hc with rfl | rfl | rfl | rfl | rfl | rfl | rfl | rfl | rfl | rfl | rfl | rfl | rfl | rfl | rfl
  · exact w_c0
  · exact w_c1
  · exact w_c2
  · exact w_c3
  · exact w_c4
  · exact w_c5
  · exact w_c6
  · exact w_c7
  · exact w_c8
  · exact w_c9
  · exact w_c10
  · exact w_c11
  · exact w_c12
  · exact w_c13
  · exact w_c14
set_option maxRecDepth 65536 in
theorem w_t1 : (words1.take 24).all (fun c => isCode c || c.before args0 about1) = true := by decide +kernel
set_option maxRecDepth 65536 in
theorem w_t2 : ((words1.drop 24).take 24).all (fun c => isCode c || c.before args0 about1) = true := by decide +kernel
set_option maxRecDepth 65536 in
theorem w_t3 : (((words1.drop 24).drop 24).take 24).all (fun c => isCode c || c.before args0 about1) = true := by decide +kernel
set_option maxRecDepth 65536 in
theorem w_t4 : (((words1.drop 24).drop 24).drop 24).all (fun c => isCode c || c.before args0 about1) = true := by decide +kernel
theorem w_tables : (allAtoms (Jvm.Cond.code x code maxLocals ret :: tables_1)).before args0 about1 = true := by
  rw [allAtoms_all]
  show words1.all (fun c => c.before args0 about1) = true
  refine all_split ?_ w_codes
  rw [← List.take_append_drop 24 words1, List.all_append, w_t1, ← List.take_append_drop 24 (words1.drop 24), List.all_append, w_t2, ← List.take_append_drop 24 ((words1.drop 24).drop 24), List.all_append, w_t3, w_t4]
  rfl
set_option maxRecDepth 65536 in
theorem w_case : (Jvm.Cond.and given_1 narrow_1).before args0 about1 = true := by decide +kernel
theorem w_applies : (headSpec (Jvm.Cond.code x code maxLocals ret :: tables_1) room_1).applies x e0.platform about1 = true :=
  (Spec.applies_iff w_frames).mpr ⟨w_running, w_runnable, w_alone, w_named, w_hears, w_ripe, w_room, w_tables⟩
theorem atStart : AtStart classFile x code maxLocals ret World_1 tables_1 room_1 Calls_1 rest_1 Pre_1 launch0 p0 e0 about1 theMethod args0 below0 :=
  ⟨lists_1, trivial, launch0.admits_env _ _ _, launch0.least_env, fairChoices_fair.cas, fairChoices_fair.clock, w_frames, w_args, w_heap, w_applies, trivial, trivial, w_case⟩
end start1
theorem witness_1 : WitnessClaimed_1 := ⟨start1.p0, start1.e0, start1.about1, start1.theMethod, start1.args0, start1.below0, start1.atStart⟩
end Jvm.Pilot.@@N@@
