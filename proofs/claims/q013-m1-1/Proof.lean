import JvmDerived
import JvmDerived.Pilot.@@N@@Statement
import JvmDerived.Pilot.@@N@@Code
set_option linter.unusedVariables false
set_option linter.unusedSimpArgs false
namespace Jvm.Pilot.@@N@@
open Jvm Jvm.ClassFile Sem Op Lib Jvm.Free Jvm.Stand Jvm.LawKit Jvm.RoadKit Bundle Jvm.Pilot.@@N@@.Jvm.D
/-! own kit: a walk as a chain of "from here the run ends well" -/
section OwnKit
/-- from T with the frame g on top the run goes on and ends as Q says -/
def Own (p : Program) (e : Env) (below : List Frame) (s : State) (kc ks : Nat) (Q : Option Value → Heap → List Loc → Prop) (T : State) (g : JFrame) : Prop :=
  ∃ s₂ o, Steps p.tables e below (T.setTop g) s₂ ∧ s₂.status = .running ∧ Ended s₂ below o ∧ ∃ v L, o = .returned v ∧ Q v s₂.heap L ∧ FrameEnd s o s₂ L kc ks
variable {p : Program} {l : Launch} {e : Env} {R : Room} {s : State} {m : MethodId} {args : Array Value} {below : List Frame} {meth : Method} {c : Code} {T T' : State} {locs : List Loc} {cells slots kc ks : Nat} {Q : Option Value → Heap → List Loc → Prop}
/-- unlike addresses, hidden from omega -/
def own_ne (a b : Addr) : Prop := a ≠ b
theorem own_staK {Z : State} {h h' : Heap} {C n d : String} {v : Value} (F : Sta Z h C n d v) (K : Keep h h' []) : Sta Z h' C n d v := by
  obtain ⟨cf, i, k, f, st, cell, h1, h2, h3, h4, h5, r⟩ := F
  exact ⟨cf, i, k, f, st, cell, h1, h2, h3, h4, K.2.1 _ _ h5 (by simp), r⟩
theorem own_go {g g' : JFrame} (h : ∀ t, Steps p.tables e below (T'.setTop g') t → Steps p.tables e below (T.setTop g) t) (k : Own p e below s kc ks Q T' g') : Own p e below s kc ks Q T g := by
  obtain ⟨s₂, o, h1, r⟩ := k
  exact ⟨s₂, o, h _ h1, r⟩
theorem own_to (T' : State) (g' : JFrame) {g : JFrame} (h : ∀ t, Steps p.tables e below (T'.setTop g') t → Steps p.tables e below (T.setTop g) t) (k : Own p e below s kc ks Q T' g') : Own p e below s kc ks Q T g := own_go h k
theorem own_ret (X : Stand p l e R s m args below meth c T locs cells slots) (hx : p.tables.exec = Jvm.exec) {pc : Nat} {Ls : Array Slot} {w : Value} {t : FieldType} {i : Instr} {rest : List Value} (hret : meth.sig.returnType = some t) (hlk : meth.locks = false) (hn : narrow t w = w)
    (hi : (i = .ireturn ∧ (t = .int ∨ t = .boolean ∨ t = .byte ∨ t = .char ∨ t = .short) ∧ ∃ z, w = .int z) ∨ (i = .lreturn ∧ t = .long ∧ ∃ z, w = .long z) ∨ (i = .dreturn ∧ t = .double ∧ ∃ z, w = .double z) ∨ (i = .freturn ∧ t = .float ∧ ∃ z, w = .float z) ∨ (i = .areturn ∧ t.isReference = true ∧ w.isRef = true))
    (hd : decode c.code pc = .ok (i, 1)) (hc : cells ≤ kc) (hs : slots ≤ ks) (q : Q (some w) T.heap locs) : Own p e below s kc ks Q T (mkF m pc Ls (w :: rest)) := by
  obtain ⟨fs, hr, hrun, hended, hW, hsame⟩ := X.leave (v := some w) (fun h => by rw [hret] at h; cases h) hlk
  exact ⟨_, _, retOut X hx hret hn hi hd hr, hrun, hended, _, locs, rfl, q, ⟨_, rfl⟩, hW, hsame.mono hc hs⟩
theorem own_retI (X : Stand p l e R s m args below meth c T locs cells slots) (hx : p.tables.exec = Jvm.exec) {pc : Nat} {Ls : Array Slot} {z : Int32} {rest : List Value} (hret : meth.sig.returnType = some .int) (hlk : meth.locks = false)
    (hd : decode c.code pc = .ok (.ireturn, 1)) (hc : cells ≤ kc) (hs : slots ≤ ks) (q : Q (some (.int z)) T.heap locs) : Own p e below s kc ks Q T (mkF m pc Ls (.int z :: rest)) :=
  own_ret X hx hret hlk rfl (Or.inl ⟨rfl, Or.inl rfl, _, rfl⟩) hd hc hs q
theorem own_retZ (X : Stand p l e R s m args below meth c T locs cells slots) (hx : p.tables.exec = Jvm.exec) {pc : Nat} {Ls : Array Slot} {z : Int32} {rest : List Value} (hret : meth.sig.returnType = some .boolean) (hlk : meth.locks = false)
    (hd : decode c.code pc = .ok (.ireturn, 1)) (hc : cells ≤ kc) (hs : slots ≤ ks) (hz : z = 0 ∨ z = 1) (q : Q (some (.int z)) T.heap locs) : Own p e below s kc ks Q T (mkF m pc Ls (.int z :: rest)) :=
  own_ret X hx hret hlk (by rcases hz with rfl | rfl <;> rfl) (Or.inl ⟨rfl, Or.inr (Or.inl rfl), _, rfl⟩) hd hc hs q
theorem own_retC (X : Stand p l e R s m args below meth c T locs cells slots) (hx : p.tables.exec = Jvm.exec) {pc : Nat} {Ls : Array Slot} {z : Int32} {rest : List Value} (hret : meth.sig.returnType = some .char) (hlk : meth.locks = false)
    (hd : decode c.code pc = .ok (.ireturn, 1)) (hc : cells ≤ kc) (hs : slots ≤ ks) (hz : z.toUInt32.toUInt16.toUInt32.toInt32 = z) (q : Q (some (.int z)) T.heap locs) : Own p e below s kc ks Q T (mkF m pc Ls (.int z :: rest)) :=
  own_ret X hx hret hlk (congrArg Value.int hz) (Or.inl ⟨rfl, Or.inr (Or.inr (Or.inr (Or.inl rfl))), _, rfl⟩) hd hc hs q
theorem own_retJ (X : Stand p l e R s m args below meth c T locs cells slots) (hx : p.tables.exec = Jvm.exec) {pc : Nat} {Ls : Array Slot} {z : Int64} {rest : List Value} (hret : meth.sig.returnType = some .long) (hlk : meth.locks = false)
    (hd : decode c.code pc = .ok (.lreturn, 1)) (hc : cells ≤ kc) (hs : slots ≤ ks) (q : Q (some (.long z)) T.heap locs) : Own p e below s kc ks Q T (mkF m pc Ls (.long z :: rest)) :=
  own_ret X hx hret hlk rfl (Or.inr (Or.inl ⟨rfl, rfl, _, rfl⟩)) hd hc hs q
theorem own_retD (X : Stand p l e R s m args below meth c T locs cells slots) (hx : p.tables.exec = Jvm.exec) {pc : Nat} {Ls : Array Slot} {z : UInt64} {rest : List Value} (hret : meth.sig.returnType = some .double) (hlk : meth.locks = false)
    (hd : decode c.code pc = .ok (.dreturn, 1)) (hc : cells ≤ kc) (hs : slots ≤ ks) (q : Q (some (.double z)) T.heap locs) : Own p e below s kc ks Q T (mkF m pc Ls (.double z :: rest)) :=
  own_ret X hx hret hlk rfl (Or.inr (Or.inr (Or.inl ⟨rfl, rfl, _, rfl⟩))) hd hc hs q
theorem own_retA (X : Stand p l e R s m args below meth c T locs cells slots) (hx : p.tables.exec = Jvm.exec) {pc : Nat} {Ls : Array Slot} {w : Value} {t : FieldType} {rest : List Value} (hret : meth.sig.returnType = some t) (hlk : meth.locks = false)
    (ht : t.isReference = true) (hw : w.isRef = true) (hd : decode c.code pc = .ok (.areturn, 1)) (hc : cells ≤ kc) (hs : slots ≤ ks) (q : Q (some w) T.heap locs) : Own p e below s kc ks Q T (mkF m pc Ls (w :: rest)) :=
  own_ret X hx hret hlk (by cases t <;> cases w <;> first | rfl | (cases ht; done) | (cases hw; done)) (Or.inr (Or.inr (Or.inr (Or.inr ⟨rfl, ht, hw⟩)))) hd hc hs q
theorem own_retV (X : Stand p l e R s m args below meth c T locs cells slots) (hx : p.tables.exec = Jvm.exec) {pc : Nat} {Ls : Array Slot} (hret : meth.sig.returnType = none) (hlk : meth.locks = false)
    (hd : decode c.code pc = .ok (.return_, 1)) (hc : cells ≤ kc) (hs : slots ≤ ks) (q : Q none T.heap locs) : Own p e below s kc ks Q T (mkF m pc Ls []) := by
  obtain ⟨fs, hr, hrun, hended, hW, hsame⟩ := X.leave (v := none) (fun _ => rfl) hlk
  exact ⟨_, _, X.returnOut hx hret hd hr, hrun, hended, _, locs, rfl, q, ⟨_, rfl⟩, hW, hsame.mono hc hs⟩
/-- a body's contract out of its walk -/
theorem own_met {Z : State} {h0 : Heap} {y : MethodName} {bytes : ByteArray} {ml : Nat} {ret : Option FieldType} {ws : List Jvm.Cond} {rm : Room} {as' : Array Value} (hp : plainFor y = true)
    (body : ∀ (p : Program) (e : Env) (s : State) (m : MethodId) (below : List Frame) (meth : Method) (c : Code) (s₁ : State), Stand p l e rm s m as' below meth c s₁ [] 0 0 → p.tables.exec = Jvm.exec → c.code = bytes → c.maxLocals = ml → meth.sig.returnType = ret → meth.locks = false →
      s.vm.findClass y.cls = some m.cls → meth.name = y.name → Z.Warmed39 s.vm → s₁.heap = h0 → Own p e below s rm.cells rm.slots Q s₁ (entryFrame m as' ml)) :
    MetFree l y (head1 (Jvm.Cond.code y bytes ml ret :: ws) rm) (fun a U => a = as' ∧ Z.Warmed39 U.vm ∧ U.heap = h0) (fun _ _ _ _ _ => True) (fun _ U o U' => ∃ v L, o = .returned v ∧ Q v U'.heap L ∧ FrameEnd U o U' L rm.cells rm.slots) := by
  refine MetFree.of_bodySF hp hisR ?_
  intro p e s m args below meth c s₁ Bd hml0 hP hK
  obtain ⟨rfl, hZ, hh⟩ := hP
  exact body p e s m below meth c s₁ (Stand.of_body Bd) Bd.exec Bd.bytes hml0 Bd.returns Bd.notSynchronized (findClass_of_methodNamed Bd.named) (name_of_methodNamed Bd.named Bd.method).1 hZ (by rw [← hh, Bd.state]; rfl)
theorem own_entry {g g' : JFrame} (q : g = g') (k : Own p e below s kc ks Q T g') : Own p e below s kc ks Q T g := q ▸ k
theorem own_mvMN {Z s : State} {a0 args : Array Value} {own host : String} {index : Nat} {y : MethodName} (hZ : Z.Warmed39 s.vm) (w : (Jvm.Cond.methodLinkNest own index y host).before a0 Z = true) : (Jvm.Cond.methodLinkNest own index y host).before args s = true := (Jvm.Cond.methodLinkNest_wide hZ w :)
theorem own_w {Z : State} {a0 : Array Value} (hw : ∀ d ∈ tables_1, d.before a0 Z = true) (i : Nat) {d : Jvm.Cond} (h : tables_1[i]? = some d) : d.before a0 Z = true := hw _ (List.mem_of_getElem? h)
end OwnKit
theorem own_eqR {args : Array Value} {s : State} {t u : Term} {w : Addr} (h : (Jvm.Cond.eq t u).value args s none s [] = some true) (hb : u.eval args s none [] s = some (.ref w)) : t.eval args s none [] s = some (.ref w) := by
  obtain ⟨x, y, ha, hb', k1, k2⟩ := cmp_v (Or.inl h)
  rw [hb] at hb'
  cases hb'
  have hx : x.isRef = true := by cases x <;> simp_all [Kin, Value.isRef]
  have q := gotT (eq_R ha hb hx rfl) h
  rw [ha, q]
theorem own_eqI {args : Array Value} {s : State} {t : Term} {n : Int32} (h : (Jvm.Cond.eq t (.int n)).value args s none s [] = some true) : t.eval args s none [] s = some (.int n) := by
  obtain ⟨x, y, ha, hb', k1, k2⟩ := cmp_v (Or.inl h)
  have hb : (Term.int n).eval args s none [] s = some (.int n) := Term.int_eval n
  rw [hb] at hb'
  cases hb'
  obtain ⟨z, rfl⟩ := k2
  have q : (Jvm.Cond.eq t (.int n)).value args s none s [] = some (decide (z = n)) := by simp [Jvm.Cond.value, ha, hb]
  have q' : z = n := gotT q h
  rw [ha, q']

section Dyadic
open Jvm.FP Jvm.FP.Core
/-- a datum times 2^k -/
def own_sh (k : Nat) : Datum → Datum
  | .nan => .nan
  | .inf t => .inf t
  | .fin t c q => .fin t c (q + k)
/-- the double a is i / 2^k -/
def Dy (i : Int) (k : Nat) (a : UInt64) : Prop := Whole i (own_sh k (val64 a))
theorem own_sum (k : Nat) (x y : Datum) : exactSum (own_sh k x) (own_sh k y) = own_sh k (exactSum x y) := by
  cases x <;> cases y <;> try rfl
  · rename_i a b; simp only [own_sh, exactSum]; split <;> rfl
  · rename_i t c q t' c' q'
    have hm : min (q + (k : Int)) (q' + (k : Int)) = min q q' + k := by omega
    have h1 : q + (k : Int) - (min q q' + k) = q - min q q' := by omega
    have h2 : q' + (k : Int) - (min q q' + k) = q' - min q q' := by omega
    simp only [own_sh, exactSum, sumUnits, inUnits, hm, h1, h2]
theorem own_neg (k : Nat) (x : Datum) : negate (own_sh k x) = own_sh k (negate x) := by cases x <;> rfl
theorem own_prod (k l : Nat) (x y : Datum) : exactProduct (own_sh k x) (own_sh l y) = own_sh (k + l) (exactProduct x y) := by
  cases x <;> cases y <;> try rfl
  · simp only [own_sh, exactProduct]; split <;> rfl
  · simp only [own_sh, exactProduct]; split <;> rfl
  · rename_i t c q t' c' q'
    simp only [own_sh, exactProduct]
    congr 1
    omega
theorem own_order (k : Nat) (x y : Datum) : order (own_sh k x) (own_sh k y) = order x y := by
  cases x <;> cases y <;> try rfl
  rename_i t c q t' c' q'
  have hm : min (q + (k : Int)) (q' + (k : Int)) = min q q' + k := by omega
  have h1 : q + (k : Int) - (min q q' + k) = q - min q q' := by omega
  have h2 : q' + (k : Int) - (min q q' + k) = q' - min q q' := by omega
  simp only [own_sh, order, inUnits, hm, h1, h2]
/-- cancel a common power -/
theorem own_cancel {a b A B A' B' : Nat} (h : a * 2 ^ A = b * 2 ^ B) (e : A + B' = A' + B) (z : A' = 0 ∨ B' = 0) : a * 2 ^ A' = b * 2 ^ B' := by
  rcases z with z | z
  · subst z
    rw [show B = A + B' by omega, Nat.pow_add, Nat.mul_comm (2 ^ A), ← Nat.mul_assoc] at h
    rw [Nat.pow_zero, Nat.mul_one]
    exact Nat.eq_of_mul_eq_mul_right (Nat.two_pow_pos A) h
  · subst z
    rw [show A = A' + B by omega, Nat.pow_add, ← Nat.mul_assoc] at h
    rw [Nat.pow_zero, Nat.mul_one]
    exact Nat.eq_of_mul_eq_mul_right (Nat.two_pow_pos B) h
/-- the format's own writing of n, n > 0 and small: her last digit isn't far below 1 -/
theorem own_fit (t : Bool) {n : Nat} (hn : n ≤ 2 ^ 53) (h0 : n ≠ 0) {k : Nat} (hk : k ≤ 64) :
    ∃ c q, Jvm.FP.Core.fits b64 (.fin t c q) ∧ Jvm.FP.Core.fits b64 (.fin t c (q - k)) ∧ n * 2 ^ (-q).toNat = c * 2 ^ q.toNat := by
  obtain ⟨c, q, hf, hv⟩ := natFit good_b64 wide_b64 t (n := n) hn
  rw [show (0 - q).toNat = (-q).toNat by omega, show (q - 0).toNat = q.toNat by omega, Nat.mul_one] at hv
  have hlo : -53 ≤ q := by
    refine Int.not_lt.mp fun hlt => ?_
    have hc : c < 2 ^ 53 := hf.1
    rw [show q.toNat = 0 by omega, Nat.pow_zero, Nat.mul_one] at hv
    have h1 : 2 ^ 53 ≤ 2 ^ (-q).toNat := Nat.pow_le_pow_right (by decide) (by omega)
    have h2 : 1 * 2 ^ (-q).toNat ≤ n * 2 ^ (-q).toNat := Nat.mul_le_mul_right _ (by omega)
    omega
  have hq : b64.qmin = -1074 := by decide
  obtain ⟨f1, f2, f3, f4⟩ := hf
  refine ⟨c, q, ⟨f1, f2, f3, f4⟩, ⟨f1, by omega, by omega, ?_⟩, hv⟩
  rcases f4 with f4 | f4
  · omega
  · exact Or.inr f4
theorem own_whole0 (t : Bool) (q : Int) : Whole 0 (.fin t 0 q) := by
  show signed t (0 * _) = 0 * _
  rw [Nat.zero_mul, Int.zero_mul]; exact signed_zero t
theorem own_round {i : Int} {k : Nat} {d : Datum} (hi : i.natAbs ≤ 2 ^ 53) (hk : k ≤ 64) (h : Whole i (own_sh k d)) : Whole i (own_sh k (round b64 d)) := by
  cases d with
  | nan => exact h.elim
  | inf => exact h.elim
  | fin t c q =>
    have h' : Whole i (.fin t c (q + k)) := h
    by_cases h0 : i = 0
    · subst h0
      have hc : c = 0 := (whole_zero h').mpr rfl
      subst hc
      exact own_whole0 t _
    · have hW := whole_round good_b64 wide_b64 hi h'
      have hn := whole_natAbs h'
      obtain ⟨c', q', f1, f2, hv⟩ := own_fit t hi (show i.natAbs ≠ 0 by omega) hk
      have key : c * 2 ^ ((q + k) - q').toNat = c' * 2 ^ (q' - (q + k)).toNat := by
        refine own_cancel (A := (q + k).toNat + (-q').toNat) (B := q'.toNat + (-(q + k)).toNat) ?_ (by omega) (by omega)
        rw [Nat.pow_add, ← Nat.mul_assoc, hn, Nat.mul_assoc, Nat.mul_comm (2 ^ (-(q + (k : Int))).toNat), ← Nat.mul_assoc, hv, Nat.mul_assoc, ← Nat.pow_add]
      have e1 : round b64 (.fin t c (q + k)) = .fin t c' q' := roundRatio_exact good_b64 (by decide) f1 (by rw [Nat.mul_one]; exact key)
      have e2 : round b64 (.fin t c q) = .fin t c' (q' - k) := roundRatio_exact good_b64 (by decide) f2 (by rw [Nat.mul_one, show (q - (q' - (k : Int))).toNat = ((q + k) - q').toNat by omega, show (q' - (k : Int) - q).toNat = (q' - (q + k)).toNat by omega]; exact key)
      rw [e1] at hW
      rw [e2]
      show Whole i (.fin t c' (q' - k + k))
      rw [Int.sub_add_cancel]; exact hW
theorem own_quot {i : Int} {k m : Nat} {x y : Datum} (hi : i.natAbs ≤ 2 ^ 53) (hm : m ≤ 64) (hx : Whole i (own_sh k x)) (hy : Whole ((2 ^ m : Nat) : Int) (own_sh k y)) : Whole i (own_sh m (quotient b64 x y)) := by
  cases x with
  | nan => exact hx.elim
  | inf => exact hx.elim
  | fin t c q =>
  cases y with
  | nan => exact hy.elim
  | inf => exact hy.elim
  | fin t' d r =>
    have hx' : Whole i (.fin t c (q + k)) := hx
    have hy' : Whole ((2 ^ m : Nat) : Int) (.fin t' d (r + k)) := hy
    have hp := Nat.two_pow_pos m
    have hd : d ≠ 0 := fun z => by have := (whole_zero hy').mp z; omega
    have ht : t' = false := by
      have := whole_sign hy' (by omega)
      rw [this]; exact decide_eq_false (by omega)
    subst ht
    have hb : (t != false) = t := by cases t <;> rfl
    simp only [quotient]
    rw [if_neg hd, hb]
    have hny := whole_natAbs hy'
    rw [Int.natAbs_natCast] at hny
    by_cases h0 : i = 0
    · subst h0
      have hc : c = 0 := (whole_zero hx').mpr rfl
      subst hc
      exact own_whole0 t _
    · have hW := whole_round good_b64 wide_b64 hi hx'
      have hn := whole_natAbs hx'
      obtain ⟨c', q', f1, f2, hv⟩ := own_fit t hi (show i.natAbs ≠ 0 by omega) hm
      have key : c * 2 ^ ((q + k) - q').toNat = c' * 2 ^ (q' - (q + k)).toNat := by
        refine own_cancel (A := (q + k).toNat + (-q').toNat) (B := q'.toNat + (-(q + k)).toNat) ?_ (by omega) (by omega)
        rw [Nat.pow_add, ← Nat.mul_assoc, hn, Nat.mul_assoc, Nat.mul_comm (2 ^ (-(q + (k : Int))).toNat), ← Nat.mul_assoc, hv, Nat.mul_assoc, ← Nat.pow_add]
      have e1 : round b64 (.fin t c (q + k)) = .fin t c' q' := roundRatio_exact good_b64 (by decide) f1 (by rw [Nat.mul_one]; exact key)
      have e2 : roundRatio b64 t c d (q - r) = .fin t c' (q' - m) := by
        refine roundRatio_exact good_b64 (by omega) f2 ?_
        refine own_cancel (A := (q + k).toNat + (-q').toNat + (m + (-(r + k)).toNat)) (B := q'.toNat + (-(q + k)).toNat + (r + k).toNat) ?_ (by omega) (by omega)
        calc c * 2 ^ ((q + k).toNat + (-q').toNat + (m + (-(r + k)).toNat))
            = (c * 2 ^ (q + k).toNat) * 2 ^ (-q').toNat * (2 ^ m * 2 ^ (-(r + k)).toNat) := by simp only [Nat.pow_add]; ac_rfl
          _ = (i.natAbs * 2 ^ (-q').toNat) * 2 ^ (-(q + k)).toNat * (d * 2 ^ (r + k).toNat) := by rw [hn, hny]; ac_rfl
          _ = c' * d * 2 ^ (q'.toNat + (-(q + k)).toNat + (r + k).toNat) := by rw [hv]; simp only [Nat.pow_add]; ac_rfl
      rw [e1] at hW
      rw [e2]
      show Whole i (.fin t c' (q' - m + m))
      rw [Int.sub_add_cancel]; exact hW
theorem own_scale {i : Int} {d : Datum} (j : Nat) (h : Whole i d) : Whole (i * ((2 ^ j : Nat) : Int)) (own_sh j d) := by
  cases d with
  | nan => exact h.elim
  | inf => exact h.elim
  | fin t c q =>
    have h' : signed t (c * 2 ^ q.toNat) = i * ((2 ^ (-q).toNat : Nat) : Int) := h
    show signed t (c * 2 ^ (q + j).toNat) = i * ((2 ^ j : Nat) : Int) * ((2 ^ (-(q + j)).toNat : Nat) : Int)
    have p2 : ((2 ^ (-q).toNat : Nat) : Int) ≠ 0 := by have := Nat.two_pow_pos (-q).toNat; omega
    refine Int.eq_of_mul_eq_mul_right p2 ?_
    have hx : (q + j).toNat + (-q).toNat = q.toNat + (j + (-(q + j)).toNat) := by omega
    rw [← signed_mul, Nat.mul_assoc, ← Nat.pow_add, hx, Nat.pow_add 2 q.toNat, ← Nat.mul_assoc, signed_mul, h', Nat.pow_add, Int.natCast_mul]
    ac_rfl
theorem own_shsh (k j : Nat) (d : Datum) : own_sh j (own_sh k d) = own_sh (k + j) d := by
  cases d <;> try rfl
  simp only [own_sh]; congr 1; omega
theorem own_sh0 (d : Datum) : own_sh 0 d = d := by
  cases d <;> try rfl
  simp only [own_sh]; congr 1; omega
theorem Dy.up {i : Int} {k : Nat} {a : UInt64} (j : Nat) (h : Dy i k a) : Dy (i * ((2 ^ j : Nat) : Int)) (k + j) a := by
  unfold Dy
  rw [← own_shsh]; exact own_scale j h
theorem Dy.of_l2d (a : Int64) (h : a.toInt.natAbs ≤ 2 ^ 53) : Dy a.toInt 0 (FP.l2d a) := by
  unfold Dy
  rw [own_sh0]; exact l2d_int h
theorem Dy.of_i2d (a : Int32) : Dy a.toInt 0 (FP.i2d a) := by
  unfold Dy
  rw [own_sh0]; exact i2d_int a
theorem Dy.add {i j : Int} {k : Nat} {a b : UInt64} (ha : Dy i k a) (hb : Dy j k b) (hk : k ≤ 64) (h : (i + j).natAbs ≤ 2 ^ 53) : Dy (i + j) k (FP.dadd a b) := by
  unfold Dy
  rw [show val64 (FP.dadd a b) = round b64 (exactSum (val64 a) (val64 b)) from val64_dadd a b]
  exact own_round h hk (by rw [← own_sum]; exact whole_sum ha hb)
theorem Dy.sub {i j : Int} {k : Nat} {a b : UInt64} (ha : Dy i k a) (hb : Dy j k b) (hk : k ≤ 64) (h : (i - j).natAbs ≤ 2 ^ 53) : Dy (i - j) k (FP.dsub a b) := by
  unfold Dy
  rw [show val64 (FP.dsub a b) = round b64 (exactSum (val64 a) (negate (val64 b))) from val64_dsub a b]
  refine own_round h hk ?_
  rw [← own_sum, ← own_neg]; exact whole_sum ha (whole_negate hb)
theorem Dy.mul {i j : Int} {k l : Nat} {a b : UInt64} (ha : Dy i k a) (hb : Dy j l b) (hk : k + l ≤ 64) (h : (i * j).natAbs ≤ 2 ^ 53) : Dy (i * j) (k + l) (FP.dmul a b) := by
  unfold Dy
  rw [show val64 (FP.dmul a b) = round b64 (exactProduct (val64 a) (val64 b)) from val64_dmul a b]
  exact own_round h hk (by rw [← own_prod]; exact whole_product ha hb)
theorem Dy.div {i : Int} {k m : Nat} {a b : UInt64} (ha : Dy i k a) (hb : Dy ((2 ^ m : Nat) : Int) k b) (hm : m ≤ 64) (h : i.natAbs ≤ 2 ^ 53) : Dy i m (FP.ddiv a b) := by
  unfold Dy
  rw [show val64 (FP.ddiv a b) = quotient b64 (val64 a) (val64 b) from val64_ddiv a b]
  exact own_quot h hm ha hb
theorem Dy.cmp {i j : Int} {k : Nat} {a b : UInt64} (ha : Dy i k a) (hb : Dy j k b) : FP.dcmp a b = some (compare i j) := by
  show order (val64 a) (val64 b) = _
  rw [← own_order k]; exact order_whole ha hb
theorem Dy.nn {i : Int} {k : Nat} {a : UInt64} (h : Dy i k a) : Jvm.Free.Fl.NoNaN64 a := by
  refine (Jvm.Free.Fl.fin64_core.mpr ?_).noNaN
  unfold Dy at h
  cases hv : val64 a with
  | nan => rw [hv] at h; exact h.elim
  | inf => rw [hv] at h; exact h.elim
  | fin t c q => exact ⟨t, c, q, hv⟩
theorem own_zero : Dy 0 0 (0 : UInt64) := by
  have h : val64 (0 : UInt64) = .fin false 0 (-1074) := by decide +kernel
  unfold Dy
  rw [h]
  show signed false (0 * 2 ^ ((-1074 : Int) + ((0 : Nat) : Int)).toNat) = 0 * ((2 ^ (-((-1074 : Int) + ((0 : Nat) : Int))).toNat : Nat) : Int)
  decide +kernel
theorem own_threeq : Dy 3 2 (4604930618986332160 : UInt64) := by
  have h : val64 (4604930618986332160 : UInt64) = .fin false 6755399441055744 (-53) := by decide +kernel
  unfold Dy
  rw [h]
  show signed false (6755399441055744 * 2 ^ ((-53 : Int) + ((2 : Nat) : Int)).toNat) = 3 * ((2 ^ (-((-53 : Int) + ((2 : Nat) : Int))).toNat : Nat) : Int)
  decide +kernel
theorem own_32 : Dy 32 0 (4629700416936869888 : UInt64) := by
  have h : val64 (4629700416936869888 : UInt64) = .fin false 4503599627370496 (-47) := by decide +kernel
  unfold Dy
  rw [h]
  show signed false (4503599627370496 * 2 ^ ((-47 : Int) + ((0 : Nat) : Int)).toNat) = 32 * ((2 ^ (-((-47 : Int) + ((0 : Nat) : Int))).toNat : Nat) : Int)
  decide +kernel
theorem own_1024 : Dy 1024 0 (4652218415073722368 : UInt64) := by
  have h : val64 (4652218415073722368 : UInt64) = .fin false 4503599627370496 (-42) := by decide +kernel
  unfold Dy
  rw [h]
  show signed false (4503599627370496 * 2 ^ ((-42 : Int) + ((0 : Nat) : Int)).toNat) = 1024 * ((2 ^ (-((-42 : Int) + ((0 : Nat) : Int))).toNat : Nat) : Int)
  decide +kernel
end Dyadic
theorem Dy.cast {i j : Int} {k : Nat} {a : UInt64} (h : i = j) (H : Dy i k a) : Dy j k a := h ▸ H
theorem own_nm {x y : Int} (hx : x.natAbs ≤ 67108864) (hy : y.natAbs ≤ 134217728) : (x * y).natAbs ≤ 2 ^ 53 := by
  rw [Int.natAbs_mul]
  exact Nat.le_trans (Nat.mul_le_mul hx hy) (by decide)
theorem own_cv (i j : Int) : (0 : Int32) < cmpValue (some (compare i j)) .l ↔ j < i := by
  by_cases h1 : i < j
  · rw [show compare i j = .lt from by simp [compare, compareOfLessAndEq, h1]]
    exact ⟨fun q => absurd q (by decide), fun q => by omega⟩
  · by_cases h2 : i = j
    · rw [show compare i j = .eq from by simp [compare, compareOfLessAndEq, h2]]
      exact ⟨fun q => absurd q (by decide), fun q => by omega⟩
    · rw [show compare i j = .gt from by simp [compare, compareOfLessAndEq, h1, h2]]
      exact ⟨fun _ => by omega, fun _ => by decide⟩
theorem own_c4 {r w q X Y Z : Int} (hr : r = 4 * X) (hw : w = 4 * Y) (hq : q = Z) : w * 1024 * 16 < (r - w) * q ↔ 16384 * Y < (X - Y) * Z := by
  subst hr hw hq
  have e : (4 * X - 4 * Y) * q = 4 * ((X - Y) * q) := by rw [← Int.mul_sub, Int.mul_assoc]
  rw [e]
  generalize (X - Y) * q = g
  omega
theorem own_c6 {r w q X Y Z : Int} (hr : r = 4 * X) (hw : w = 4 * Y) (hq : q = 4 * Z) : w * 1024 * 64 < (r - w) * q ↔ 16384 * Y < (X - Y) * Z := by
  subst hr hw hq
  have e : (4 * X - 4 * Y) * (4 * Z) = 4 * (4 * ((X - Y) * Z)) := by rw [← Int.mul_sub, Int.mul_assoc, Int.mul_left_comm (X - Y) 4 Z]
  rw [e]
  generalize (X - Y) * Z = g
  omega
theorem own_m20 (x : Int64) : 0 ≤ ((x &&& (1048575 : Int64)).toInt32).toInt ∧ ((x &&& (1048575 : Int64)).toInt32).toInt ≤ 1048575 := by
  rw [Int64.toInt32_and, show (1048575 : Int64).toInt32 = (1048575 : Int32) from rfl]
  have b := c_and x.toInt32 (1048575 : Int32) (by decide)
  have z : (1048575 : Int32).toInt = 1048575 := by decide
  omega
theorem own_i20 (x : Int32) : 0 ≤ (x &&& (1048575 : Int32)).toInt ∧ (x &&& (1048575 : Int32)).toInt ≤ 1048575 := by
  have b := c_and x (1048575 : Int32) (by decide)
  have z : (1048575 : Int32).toInt = 1048575 := by decide
  omega
theorem own_i12 (x : Int32) : 0 ≤ (x &&& (4095 : Int32)).toInt ∧ (x &&& (4095 : Int32)).toInt ≤ 4095 := by
  have b := c_and x (4095 : Int32) (by decide)
  have z : (4095 : Int32).toInt = 4095 := by decide
  omega
theorem own_mod3 (x : Int32) : ((x &&& (2147483647 : Int32)) % (3 : Int32)) = 0 ∨ ((x &&& (2147483647 : Int32)) % (3 : Int32)) = 1 ∨ ((x &&& (2147483647 : Int32)) % (3 : Int32)) = 2 := by
  have b := c_and x (2147483647 : Int32) (by decide)
  generalize x &&& (2147483647 : Int32) = y at *
  have e : (y % (3 : Int32)).toInt = y.toInt % 3 := by
    rw [Int32.toInt_mod, show (3 : Int32).toInt = 3 from by decide]
    exact Int.tmod_eq_emod_of_nonneg (by omega)
  have z0 : (0 : Int32).toInt = 0 := by decide
  have z1 : (1 : Int32).toInt = 1 := by decide
  have z2 : (2 : Int32).toInt = 2 := by decide
  rw [← Int32.toInt_inj, ← Int32.toInt_inj, ← Int32.toInt_inj]
  omega
theorem own_l (x : Int32) : x.toInt64.toInt = x.toInt := Int32.toInt_toInt64 x
theorem own_ladd {a b : Int64} (h : (a.toInt + b.toInt).natAbs < 4611686018427387904) : (a + b).toInt = a.toInt + b.toInt := by
  rw [Int64.toInt_add]; exact Int.bmod_eq_of_le (by omega) (by omega)
theorem own_lsub {a b : Int64} (h : (a.toInt - b.toInt).natAbs < 4611686018427387904) : (a - b).toInt = a.toInt - b.toInt := by
  rw [Int64.toInt_sub]; exact Int.bmod_eq_of_le (by omega) (by omega)
theorem own_lmul {a b : Int64} (h : (a.toInt * b.toInt).natAbs < 4611686018427387904) : (a * b).toInt = a.toInt * b.toInt := by
  rw [Int64.toInt_mul]; exact Int.bmod_eq_of_le (by omega) (by omega)
/-- k a + j c, of small numbers -/
theorem own_lin {k j : Int64} {a c : Int32} {ki ji : Int} (hk : k.toInt = ki) (hj : j.toInt = ji) (bk : 0 ≤ ki ∧ ki ≤ 512) (bj : 0 ≤ ji ∧ ji ≤ 512) (ba : 0 ≤ a.toInt ∧ a.toInt ≤ 1048575) (bc : 0 ≤ c.toInt ∧ c.toInt ≤ 1048575) (ha : ∀ z : Int, 0 ≤ z → z ≤ 1048575 → 0 ≤ ki * z ∧ ki * z ≤ 536870400) (hc : ∀ z : Int, 0 ≤ z → z ≤ 1048575 → 0 ≤ ji * z ∧ ji * z ≤ 536870400) : (k * a.toInt64 + j * c.toInt64).toInt = ki * a.toInt + ji * c.toInt := by
  have h1 := ha _ ba.1 ba.2
  have h2 := hc _ bc.1 bc.2
  have e1 : (k * a.toInt64).toInt = ki * a.toInt := by rw [own_lmul (by rw [hk, own_l]; omega), hk, own_l]
  have e2 : (j * c.toInt64).toInt = ji * c.toInt := by rw [own_lmul (by rw [hj, own_l]; omega), hj, own_l]
  rw [own_ladd (by rw [e1, e2]; omega), e1, e2]
theorem own_law {X Y W : Int64} (hX : 0 ≤ X.toInt ∧ X.toInt ≤ 8388608) (hY : 0 ≤ Y.toInt ∧ Y.toInt ≤ 8388608) (hW : 0 ≤ W.toInt ∧ W.toInt ≤ 134217728) : (16384 : Int64) * Y < (X - Y) * W ↔ 16384 * Y.toInt < (X.toInt - Y.toInt) * W.toInt := by
  have e1 : (X - Y).toInt = X.toInt - Y.toInt := own_lsub (by omega)
  have e2 : ((16384 : Int64) * Y).toInt = 16384 * Y.toInt := own_lmul (by rw [show (16384 : Int64).toInt = 16384 from by decide]; omega)
  have e3 : ((X - Y) * W).toInt = (X.toInt - Y.toInt) * W.toInt := by
    rw [own_lmul, e1]
    rw [e1, Int.natAbs_mul]
    have h1 : (X.toInt - Y.toInt).natAbs ≤ 8388608 := by omega
    have h2 : W.toInt.natAbs ≤ 134217728 := by omega
    exact Nat.lt_of_le_of_lt (Nat.mul_le_mul h1 h2) (by decide)
  rw [Int64.lt_iff_toInt_lt, e2, e3]
def PRd (Z : State) (h : Heap) (a kk ro : Addr) (vl tk : Int32) (bs : Int64) (rt vb rr rw : UInt64) : Prop := Exa Z h a "com/example/warmjoin/warmjoin/PageReadings" ∧ Fld Z h a "com/example/warmjoin/warmjoin/PageReadings" "values" "I" (.int vl) ∧ Fld Z h a "com/example/warmjoin/warmjoin/PageReadings" "only" "Lcom/example/warmjoin/warmjoin/PageReadings$Way;" .null ∧ Fld Z h a "com/example/warmjoin/warmjoin/PageReadings" "rowsTaken" "D" (.double rt) ∧ Fld Z h a "com/example/warmjoin/warmjoin/PageReadings" "valueBytes" "D" (.double vb) ∧ Fld Z h a "com/example/warmjoin/warmjoin/PageReadings" "rowsRead" "D" (.double rr) ∧ Fld Z h a "com/example/warmjoin/warmjoin/PageReadings" "rowsWanted" "D" (.double rw) ∧ Fld Z h a "com/example/warmjoin/warmjoin/PageReadings" "takenSince" "I" (.int tk) ∧ Fld Z h a "com/example/warmjoin/warmjoin/PageReadings" "bytesSince" "J" (.long bs) ∧ Sta Z h "com/example/warmjoin/warmjoin/PageReadings$Way" "KEYS" "Lcom/example/warmjoin/warmjoin/PageReadings$Way;" (.ref kk) ∧ Sta Z h "com/example/warmjoin/warmjoin/PageReadings$Way" "ROWS" "Lcom/example/warmjoin/warmjoin/PageReadings$Way;" (.ref ro)
theorem d1_0 : decode prog_102_method_1_code 0 = .ok (.aload_n 0, 1) := by decide +kernel
theorem d1_1 : decode prog_102_method_1_code 1 = .ok (.invokespecial 1, 3) := by decide +kernel
theorem d1_4 : decode prog_102_method_1_code 4 = .ok (.aload_n 0, 1) := by decide +kernel
theorem d1_5 : decode prog_102_method_1_code 5 = .ok (.iload_n 1, 1) := by decide +kernel
theorem d1_6 : decode prog_102_method_1_code 6 = .ok (.putfield 7, 3) := by decide +kernel
theorem d1_9 : decode prog_102_method_1_code 9 = .ok (.aload_n 0, 1) := by decide +kernel
theorem d1_10 : decode prog_102_method_1_code 10 = .ok (.aload_n 2, 1) := by decide +kernel
theorem d1_11 : decode prog_102_method_1_code 11 = .ok (.putfield 13, 3) := by decide +kernel
theorem d1_14 : decode prog_102_method_1_code 14 = .ok (.return_, 1) := by decide +kernel
theorem pn_1 : plainName "com/example/warmjoin/warmjoin/PageReadings" = true := by first | (simp [plainName, overriddenIn]; done) | decide +kernel
theorem ef_1_RIRn (m : MethodId) (x0 : Addr) (x1 : Int32) : entryFrame m #[(.ref x0), (.int x1), .null] 3 = mkF m 0 #[.val (.ref x0), .val (.int x1), .val .null] [] := by first | (simp [entryFrame, mkF, argsToLocals, Value.category]; done) | rfl
def Q_rm_init (Z : State) (a1 kk ro : Addr) (x1 : Int32) (h0 : Heap) (n0 : Nat) (v : Option Value) (h : Heap) (L : List Loc) : Prop := v = none ∧ Fr n0 L ∧ Keep h0 h [a1] ∧ PRd Z h a1 kk ro x1 (0 : Int32) (0 : Int64) (0 : UInt64) (0 : UInt64) (0 : UInt64) (0 : UInt64)
theorem sn_only_values {Z : State} {a0 : Array Value} (hw : ∀ d ∈ tables_1, d.before a0 Z = true) : Jvm.RoadKit.slotOf Z "com/example/warmjoin/warmjoin/PageReadings" "only" "Lcom/example/warmjoin/warmjoin/PageReadings$Way;" ≠ Jvm.RoadKit.slotOf Z "com/example/warmjoin/warmjoin/PageReadings" "values" "I" := Jvm.RoadKit.slot_ne (a0 := a0) (Or.inr (own_w hw 15 rfl)) (Or.inr (own_w hw 13 rfl)) (by decide) (t := (.object "com/example/warmjoin/warmjoin/PageReadings$Way")) (t' := .int) (by decide) (by decide)
theorem sn_rowsTaken_values {Z : State} {a0 : Array Value} (hw : ∀ d ∈ tables_1, d.before a0 Z = true) : Jvm.RoadKit.slotOf Z "com/example/warmjoin/warmjoin/PageReadings" "rowsTaken" "D" ≠ Jvm.RoadKit.slotOf Z "com/example/warmjoin/warmjoin/PageReadings" "values" "I" := Jvm.RoadKit.slot_ne (a0 := a0) (Or.inl (own_w hw 36 rfl)) (Or.inr (own_w hw 13 rfl)) (by decide) (t := .double) (t' := .int) (by decide) (by decide)
theorem sn_valueBytes_values {Z : State} {a0 : Array Value} (hw : ∀ d ∈ tables_1, d.before a0 Z = true) : Jvm.RoadKit.slotOf Z "com/example/warmjoin/warmjoin/PageReadings" "valueBytes" "D" ≠ Jvm.RoadKit.slotOf Z "com/example/warmjoin/warmjoin/PageReadings" "values" "I" := Jvm.RoadKit.slot_ne (a0 := a0) (Or.inl (own_w hw 38 rfl)) (Or.inr (own_w hw 13 rfl)) (by decide) (t := .double) (t' := .int) (by decide) (by decide)
theorem sn_rowsRead_values {Z : State} {a0 : Array Value} (hw : ∀ d ∈ tables_1, d.before a0 Z = true) : Jvm.RoadKit.slotOf Z "com/example/warmjoin/warmjoin/PageReadings" "rowsRead" "D" ≠ Jvm.RoadKit.slotOf Z "com/example/warmjoin/warmjoin/PageReadings" "values" "I" := Jvm.RoadKit.slot_ne (a0 := a0) (Or.inl (own_w hw 31 rfl)) (Or.inr (own_w hw 13 rfl)) (by decide) (t := .double) (t' := .int) (by decide) (by decide)
theorem sn_rowsWanted_values {Z : State} {a0 : Array Value} (hw : ∀ d ∈ tables_1, d.before a0 Z = true) : Jvm.RoadKit.slotOf Z "com/example/warmjoin/warmjoin/PageReadings" "rowsWanted" "D" ≠ Jvm.RoadKit.slotOf Z "com/example/warmjoin/warmjoin/PageReadings" "values" "I" := Jvm.RoadKit.slot_ne (a0 := a0) (Or.inl (own_w hw 34 rfl)) (Or.inr (own_w hw 13 rfl)) (by decide) (t := .double) (t' := .int) (by decide) (by decide)
theorem sn_takenSince_values {Z : State} {a0 : Array Value} (hw : ∀ d ∈ tables_1, d.before a0 Z = true) : Jvm.RoadKit.slotOf Z "com/example/warmjoin/warmjoin/PageReadings" "takenSince" "I" ≠ Jvm.RoadKit.slotOf Z "com/example/warmjoin/warmjoin/PageReadings" "values" "I" := Jvm.RoadKit.slot_ne (a0 := a0) (Or.inl (own_w hw 22 rfl)) (Or.inr (own_w hw 13 rfl)) (by decide) (t := .int) (t' := .int) (by decide) (by decide)
theorem sn_bytesSince_values {Z : State} {a0 : Array Value} (hw : ∀ d ∈ tables_1, d.before a0 Z = true) : Jvm.RoadKit.slotOf Z "com/example/warmjoin/warmjoin/PageReadings" "bytesSince" "J" ≠ Jvm.RoadKit.slotOf Z "com/example/warmjoin/warmjoin/PageReadings" "values" "I" := Jvm.RoadKit.slot_ne (a0 := a0) (Or.inl (own_w hw 24 rfl)) (Or.inr (own_w hw 13 rfl)) (by decide) (t := .long) (t' := .int) (by decide) (by decide)
theorem sn_values_only {Z : State} {a0 : Array Value} (hw : ∀ d ∈ tables_1, d.before a0 Z = true) : Jvm.RoadKit.slotOf Z "com/example/warmjoin/warmjoin/PageReadings" "values" "I" ≠ Jvm.RoadKit.slotOf Z "com/example/warmjoin/warmjoin/PageReadings" "only" "Lcom/example/warmjoin/warmjoin/PageReadings$Way;" := Jvm.RoadKit.slot_ne (a0 := a0) (Or.inr (own_w hw 13 rfl)) (Or.inr (own_w hw 15 rfl)) (by decide) (t := .int) (t' := (.object "com/example/warmjoin/warmjoin/PageReadings$Way")) (by decide) (by decide)
theorem sn_rowsTaken_only {Z : State} {a0 : Array Value} (hw : ∀ d ∈ tables_1, d.before a0 Z = true) : Jvm.RoadKit.slotOf Z "com/example/warmjoin/warmjoin/PageReadings" "rowsTaken" "D" ≠ Jvm.RoadKit.slotOf Z "com/example/warmjoin/warmjoin/PageReadings" "only" "Lcom/example/warmjoin/warmjoin/PageReadings$Way;" := Jvm.RoadKit.slot_ne (a0 := a0) (Or.inl (own_w hw 36 rfl)) (Or.inr (own_w hw 15 rfl)) (by decide) (t := .double) (t' := (.object "com/example/warmjoin/warmjoin/PageReadings$Way")) (by decide) (by decide)
theorem sn_valueBytes_only {Z : State} {a0 : Array Value} (hw : ∀ d ∈ tables_1, d.before a0 Z = true) : Jvm.RoadKit.slotOf Z "com/example/warmjoin/warmjoin/PageReadings" "valueBytes" "D" ≠ Jvm.RoadKit.slotOf Z "com/example/warmjoin/warmjoin/PageReadings" "only" "Lcom/example/warmjoin/warmjoin/PageReadings$Way;" := Jvm.RoadKit.slot_ne (a0 := a0) (Or.inl (own_w hw 38 rfl)) (Or.inr (own_w hw 15 rfl)) (by decide) (t := .double) (t' := (.object "com/example/warmjoin/warmjoin/PageReadings$Way")) (by decide) (by decide)
theorem sn_rowsRead_only {Z : State} {a0 : Array Value} (hw : ∀ d ∈ tables_1, d.before a0 Z = true) : Jvm.RoadKit.slotOf Z "com/example/warmjoin/warmjoin/PageReadings" "rowsRead" "D" ≠ Jvm.RoadKit.slotOf Z "com/example/warmjoin/warmjoin/PageReadings" "only" "Lcom/example/warmjoin/warmjoin/PageReadings$Way;" := Jvm.RoadKit.slot_ne (a0 := a0) (Or.inl (own_w hw 31 rfl)) (Or.inr (own_w hw 15 rfl)) (by decide) (t := .double) (t' := (.object "com/example/warmjoin/warmjoin/PageReadings$Way")) (by decide) (by decide)
theorem sn_rowsWanted_only {Z : State} {a0 : Array Value} (hw : ∀ d ∈ tables_1, d.before a0 Z = true) : Jvm.RoadKit.slotOf Z "com/example/warmjoin/warmjoin/PageReadings" "rowsWanted" "D" ≠ Jvm.RoadKit.slotOf Z "com/example/warmjoin/warmjoin/PageReadings" "only" "Lcom/example/warmjoin/warmjoin/PageReadings$Way;" := Jvm.RoadKit.slot_ne (a0 := a0) (Or.inl (own_w hw 34 rfl)) (Or.inr (own_w hw 15 rfl)) (by decide) (t := .double) (t' := (.object "com/example/warmjoin/warmjoin/PageReadings$Way")) (by decide) (by decide)
theorem sn_takenSince_only {Z : State} {a0 : Array Value} (hw : ∀ d ∈ tables_1, d.before a0 Z = true) : Jvm.RoadKit.slotOf Z "com/example/warmjoin/warmjoin/PageReadings" "takenSince" "I" ≠ Jvm.RoadKit.slotOf Z "com/example/warmjoin/warmjoin/PageReadings" "only" "Lcom/example/warmjoin/warmjoin/PageReadings$Way;" := Jvm.RoadKit.slot_ne (a0 := a0) (Or.inl (own_w hw 22 rfl)) (Or.inr (own_w hw 15 rfl)) (by decide) (t := .int) (t' := (.object "com/example/warmjoin/warmjoin/PageReadings$Way")) (by decide) (by decide)
theorem sn_bytesSince_only {Z : State} {a0 : Array Value} (hw : ∀ d ∈ tables_1, d.before a0 Z = true) : Jvm.RoadKit.slotOf Z "com/example/warmjoin/warmjoin/PageReadings" "bytesSince" "J" ≠ Jvm.RoadKit.slotOf Z "com/example/warmjoin/warmjoin/PageReadings" "only" "Lcom/example/warmjoin/warmjoin/PageReadings$Way;" := Jvm.RoadKit.slot_ne (a0 := a0) (Or.inl (own_w hw 24 rfl)) (Or.inr (own_w hw 15 rfl)) (by decide) (t := .long) (t' := (.object "com/example/warmjoin/warmjoin/PageReadings$Way")) (by decide) (by decide)
set_option maxRecDepth 65536 in
set_option maxHeartbeats 40000000 in
theorem rm_init (l : Launch) (Z : State) (a0 : Array Value) (hw : ∀ d ∈ tables_1, d.before a0 Z = true) (ws : List Jvm.Cond) (a1 kk ro : Addr) (x1 : Int32) (h0 : Heap) (n0 : Nat) (Z0 : n0 ≤ h0.size) (U : PRd Z h0 a1 kk ro (0 : Int32) (0 : Int32) (0 : Int64) (0 : UInt64) (0 : UInt64) (0 : UInt64) (0 : UInt64)) (g_a1 : n0 ≤ a1) :
    MetFree l (⟨"com/example/warmjoin/warmjoin/PageReadings", "<init>", "(ILcom/example/warmjoin/warmjoin/PageReadings$Way;)V"⟩ : MethodName) (head1 (Jvm.Cond.code (⟨"com/example/warmjoin/warmjoin/PageReadings", "<init>", "(ILcom/example/warmjoin/warmjoin/PageReadings$Way;)V"⟩ : MethodName) prog_102_method_1_code 3 none :: ws) ({ frames := 1, cells := 0, slots := 0, locals := 12 } : Room)) (fun a U => a = #[(.ref a1), (.int x1), .null] ∧ Z.Warmed39 U.vm ∧ U.heap = h0) (fun _ _ _ _ _ => True) (fun _ U o U' => ∃ v L, o = .returned v ∧ Q_rm_init Z a1 kk ro x1 h0 n0 v U'.heap L ∧ FrameEnd U o U' L ({ frames := 1, cells := 0, slots := 0, locals := 12 } : Room).cells ({ frames := 1, cells := 0, slots := 0, locals := 12 } : Room).slots) := by
  refine own_met (y := (⟨"com/example/warmjoin/warmjoin/PageReadings", "<init>", "(ILcom/example/warmjoin/warmjoin/PageReadings$Way;)V"⟩ : MethodName)) (Q := (Q_rm_init Z a1 kk ro x1 h0 n0)) (plainFor_of_name pn_1) fun p e s m below meth c s₁ X0 hx hby hml hret hlk hown hnm hZ e0 => ?_
  refine own_entry (ef_1_RIRn m a1 x1) ?_
  obtain ⟨E1, F0, F1, F2, F3, F4, F5, F6, F7, SK, SR⟩ := U
  have K0 := Keep.refl h0 [a1]
  refine own_to s₁ (mkF m 1 #[.val (.ref a1), .val (.int x1), .val .null] [(.ref a1)]) (fun tq kq => XS.aloadN X0.here hx rfl (hb hby d1_0) rfl rfl kq) ?_
  obtain ⟨T1, X1, e1, st1⟩ := initO X0 hx hZ hown (own_w hw 9 rfl) (own_w hw 10 rfl) (own_w hw 11 rfl) e0 (g := (mkF m 1 #[.val (.ref a1), .val (.int x1), .val .null] [(.ref a1)])) rfl (by rw [hml]; rfl) rfl (hb hby d1_1) (by decide) (W := 0) (by show 2 * 0 + _ ≤ _; exact Nat.le_of_eq rfl) (by decide)
  refine own_to T1 (mkF m 6 #[.val (.ref a1), .val (.int x1), .val .null] [(.int x1), (.ref a1)]) (fun tq kq => st1 _ (XS.aloadN X1.here hx rfl (hb hby d1_4) rfl rfl (XS.iloadN X1.here hx rfl (hb hby d1_5) rfl kq))) ?_
  obtain ⟨T2, h2, X2, e2, W2, st2⟩ := putF X1 hx hZ hown (host := "") (Or.inl (own_w hw 12 rfl)) Via.refl e1 F0 E1 (Or.inr ⟨(own_w hw 13 rfl), rfl, hnm⟩) (own_w hw 4 rfl) (ty := .int) (by decide) rfl rfl (g := (mkF m 6 #[.val (.ref a1), .val (.int x1), .val .null] [(.int x1), (.ref a1)])) rfl rfl (hb hby d1_6)
  have f3 := E1.wr W2
  have f4 := F1.other W2 (Or.inr (sn_only_values hw))
  have f5 := F2.other W2 (Or.inr (sn_rowsTaken_values hw))
  have f6 := F3.other W2 (Or.inr (sn_valueBytes_values hw))
  have f7 := F4.other W2 (Or.inr (sn_rowsRead_values hw))
  have f8 := F5.other W2 (Or.inr (sn_rowsWanted_values hw))
  have f9 := F6.other W2 (Or.inr (sn_takenSince_values hw))
  have f10 := F7.other W2 (Or.inr (sn_bytesSince_values hw))
  have f11 := SK.wr W2
  have f12 := SR.wr W2
  have f13 := F0.same W2
  have N2 := Fr.snoc X2 (Fr.nil n0) g_a1
  have Zs2 : n0 ≤ h2.size := by rw [W2.size]; exact Z0
  have K2 := K0.wr W2 (Or.inl (List.mem_of_getElem? (i := 0) rfl))
  refine own_to T2 (mkF m 11 #[.val (.ref a1), .val (.int x1), .val .null] [.null, (.ref a1)]) (fun tq kq => st2 _ (XS.aloadN X2.here hx rfl (hb hby d1_9) rfl rfl (XS.aloadN X2.here hx rfl (hb hby d1_10) rfl rfl kq))) ?_
  obtain ⟨T14, h14, X14, e14, W14, st14⟩ := putF X2 hx hZ hown (host := "") (Or.inl (own_w hw 14 rfl)) Via.refl e2 f4 f3 (Or.inr ⟨(own_w hw 15 rfl), rfl, hnm⟩) (own_w hw 4 rfl) (ty := (.object "com/example/warmjoin/warmjoin/PageReadings$Way")) (by decide) rfl rfl (g := (mkF m 11 #[.val (.ref a1), .val (.int x1), .val .null] [.null, (.ref a1)])) rfl rfl (hb hby d1_11)
  have f15 := f3.wr W14
  have f16 := f13.other W14 (Or.inr (sn_values_only hw))
  have f17 := f5.other W14 (Or.inr (sn_rowsTaken_only hw))
  have f18 := f6.other W14 (Or.inr (sn_valueBytes_only hw))
  have f19 := f7.other W14 (Or.inr (sn_rowsRead_only hw))
  have f20 := f8.other W14 (Or.inr (sn_rowsWanted_only hw))
  have f21 := f9.other W14 (Or.inr (sn_takenSince_only hw))
  have f22 := f10.other W14 (Or.inr (sn_bytesSince_only hw))
  have f23 := f11.wr W14
  have f24 := f12.wr W14
  have f25 := f4.same W14
  have N14 := Fr.snoc X14 N2 g_a1
  have Zs14 : n0 ≤ h14.size := by rw [W14.size]; exact Zs2
  have K14 := K2.wr W14 (Or.inl (List.mem_of_getElem? (i := 0) rfl))
  refine own_to T14 (mkF m 14 #[.val (.ref a1), .val (.int x1), .val .null] []) (fun tq kq => st14 _ kq) ?_
  exact own_retV X14 hx hret hlk (hb hby d1_14) (by decide) (by decide) (by rw [e14]; exact ⟨rfl, N14, K14, ⟨f15, f16, f25, f17, f18, f19, f20, f21, f22, f23, f24⟩⟩)
theorem d3_0 : decode prog_102_method_3_code 0 = .ok (.aload_n 0, 1) := by decide +kernel
theorem d3_1 : decode prog_102_method_3_code 1 = .ok (.dup, 1) := by decide +kernel
theorem d3_2 : decode prog_102_method_3_code 2 = .ok (.getfield 42, 3) := by decide +kernel
theorem d3_5 : decode prog_102_method_3_code 5 = .ok (.iconst 1, 1) := by decide +kernel
theorem d3_6 : decode prog_102_method_3_code 6 = .ok (.iadd, 1) := by decide +kernel
theorem d3_7 : decode prog_102_method_3_code 7 = .ok (.putfield 42, 3) := by decide +kernel
theorem d3_10 : decode prog_102_method_3_code 10 = .ok (.aload_n 0, 1) := by decide +kernel
theorem d3_11 : decode prog_102_method_3_code 11 = .ok (.dup, 1) := by decide +kernel
theorem d3_12 : decode prog_102_method_3_code 12 = .ok (.getfield 45, 3) := by decide +kernel
theorem d3_15 : decode prog_102_method_3_code 15 = .ok (.iload_n 1, 1) := by decide +kernel
theorem d3_16 : decode prog_102_method_3_code 16 = .ok (.i2l, 1) := by decide +kernel
theorem d3_17 : decode prog_102_method_3_code 17 = .ok (.ladd, 1) := by decide +kernel
theorem d3_18 : decode prog_102_method_3_code 18 = .ok (.putfield 45, 3) := by decide +kernel
theorem d3_21 : decode prog_102_method_3_code 21 = .ok (.return_, 1) := by decide +kernel
theorem ef_3_RI (m : MethodId) (x0 : Addr) (x1 : Int32) : entryFrame m #[(.ref x0), (.int x1)] 2 = mkF m 0 #[.val (.ref x0), .val (.int x1)] [] := by first | (simp [entryFrame, mkF, argsToLocals, Value.category]; done) | rfl
def Q_rm_took (Z : State) (a1 kk ro : Addr) (vl tk : Int32) (bs : Int64) (rt vb rr rw : UInt64) (x1 tk' : Int32) (bs' : Int64) (h0 : Heap) (n0 : Nat) (v : Option Value) (h : Heap) (L : List Loc) : Prop := v = none ∧ Fr n0 L ∧ Keep h0 h [a1] ∧ PRd Z h a1 kk ro vl tk' bs' rt vb rr rw
theorem sn_values_takenSince {Z : State} {a0 : Array Value} (hw : ∀ d ∈ tables_1, d.before a0 Z = true) : Jvm.RoadKit.slotOf Z "com/example/warmjoin/warmjoin/PageReadings" "values" "I" ≠ Jvm.RoadKit.slotOf Z "com/example/warmjoin/warmjoin/PageReadings" "takenSince" "I" := Jvm.RoadKit.slot_ne (a0 := a0) (Or.inr (own_w hw 13 rfl)) (Or.inl (own_w hw 22 rfl)) (by decide) (t := .int) (t' := .int) (by decide) (by decide)
theorem sn_only_takenSince {Z : State} {a0 : Array Value} (hw : ∀ d ∈ tables_1, d.before a0 Z = true) : Jvm.RoadKit.slotOf Z "com/example/warmjoin/warmjoin/PageReadings" "only" "Lcom/example/warmjoin/warmjoin/PageReadings$Way;" ≠ Jvm.RoadKit.slotOf Z "com/example/warmjoin/warmjoin/PageReadings" "takenSince" "I" := Jvm.RoadKit.slot_ne (a0 := a0) (Or.inr (own_w hw 15 rfl)) (Or.inl (own_w hw 22 rfl)) (by decide) (t := (.object "com/example/warmjoin/warmjoin/PageReadings$Way")) (t' := .int) (by decide) (by decide)
theorem sn_rowsTaken_takenSince {Z : State} {a0 : Array Value} (hw : ∀ d ∈ tables_1, d.before a0 Z = true) : Jvm.RoadKit.slotOf Z "com/example/warmjoin/warmjoin/PageReadings" "rowsTaken" "D" ≠ Jvm.RoadKit.slotOf Z "com/example/warmjoin/warmjoin/PageReadings" "takenSince" "I" := Jvm.RoadKit.slot_ne (a0 := a0) (Or.inl (own_w hw 36 rfl)) (Or.inl (own_w hw 22 rfl)) (by decide) (t := .double) (t' := .int) (by decide) (by decide)
theorem sn_valueBytes_takenSince {Z : State} {a0 : Array Value} (hw : ∀ d ∈ tables_1, d.before a0 Z = true) : Jvm.RoadKit.slotOf Z "com/example/warmjoin/warmjoin/PageReadings" "valueBytes" "D" ≠ Jvm.RoadKit.slotOf Z "com/example/warmjoin/warmjoin/PageReadings" "takenSince" "I" := Jvm.RoadKit.slot_ne (a0 := a0) (Or.inl (own_w hw 38 rfl)) (Or.inl (own_w hw 22 rfl)) (by decide) (t := .double) (t' := .int) (by decide) (by decide)
theorem sn_rowsRead_takenSince {Z : State} {a0 : Array Value} (hw : ∀ d ∈ tables_1, d.before a0 Z = true) : Jvm.RoadKit.slotOf Z "com/example/warmjoin/warmjoin/PageReadings" "rowsRead" "D" ≠ Jvm.RoadKit.slotOf Z "com/example/warmjoin/warmjoin/PageReadings" "takenSince" "I" := Jvm.RoadKit.slot_ne (a0 := a0) (Or.inl (own_w hw 31 rfl)) (Or.inl (own_w hw 22 rfl)) (by decide) (t := .double) (t' := .int) (by decide) (by decide)
theorem sn_rowsWanted_takenSince {Z : State} {a0 : Array Value} (hw : ∀ d ∈ tables_1, d.before a0 Z = true) : Jvm.RoadKit.slotOf Z "com/example/warmjoin/warmjoin/PageReadings" "rowsWanted" "D" ≠ Jvm.RoadKit.slotOf Z "com/example/warmjoin/warmjoin/PageReadings" "takenSince" "I" := Jvm.RoadKit.slot_ne (a0 := a0) (Or.inl (own_w hw 34 rfl)) (Or.inl (own_w hw 22 rfl)) (by decide) (t := .double) (t' := .int) (by decide) (by decide)
theorem sn_bytesSince_takenSince {Z : State} {a0 : Array Value} (hw : ∀ d ∈ tables_1, d.before a0 Z = true) : Jvm.RoadKit.slotOf Z "com/example/warmjoin/warmjoin/PageReadings" "bytesSince" "J" ≠ Jvm.RoadKit.slotOf Z "com/example/warmjoin/warmjoin/PageReadings" "takenSince" "I" := Jvm.RoadKit.slot_ne (a0 := a0) (Or.inl (own_w hw 24 rfl)) (Or.inl (own_w hw 22 rfl)) (by decide) (t := .long) (t' := .int) (by decide) (by decide)
theorem sn_values_bytesSince {Z : State} {a0 : Array Value} (hw : ∀ d ∈ tables_1, d.before a0 Z = true) : Jvm.RoadKit.slotOf Z "com/example/warmjoin/warmjoin/PageReadings" "values" "I" ≠ Jvm.RoadKit.slotOf Z "com/example/warmjoin/warmjoin/PageReadings" "bytesSince" "J" := Jvm.RoadKit.slot_ne (a0 := a0) (Or.inr (own_w hw 13 rfl)) (Or.inl (own_w hw 24 rfl)) (by decide) (t := .int) (t' := .long) (by decide) (by decide)
theorem sn_only_bytesSince {Z : State} {a0 : Array Value} (hw : ∀ d ∈ tables_1, d.before a0 Z = true) : Jvm.RoadKit.slotOf Z "com/example/warmjoin/warmjoin/PageReadings" "only" "Lcom/example/warmjoin/warmjoin/PageReadings$Way;" ≠ Jvm.RoadKit.slotOf Z "com/example/warmjoin/warmjoin/PageReadings" "bytesSince" "J" := Jvm.RoadKit.slot_ne (a0 := a0) (Or.inr (own_w hw 15 rfl)) (Or.inl (own_w hw 24 rfl)) (by decide) (t := (.object "com/example/warmjoin/warmjoin/PageReadings$Way")) (t' := .long) (by decide) (by decide)
theorem sn_rowsTaken_bytesSince {Z : State} {a0 : Array Value} (hw : ∀ d ∈ tables_1, d.before a0 Z = true) : Jvm.RoadKit.slotOf Z "com/example/warmjoin/warmjoin/PageReadings" "rowsTaken" "D" ≠ Jvm.RoadKit.slotOf Z "com/example/warmjoin/warmjoin/PageReadings" "bytesSince" "J" := Jvm.RoadKit.slot_ne (a0 := a0) (Or.inl (own_w hw 36 rfl)) (Or.inl (own_w hw 24 rfl)) (by decide) (t := .double) (t' := .long) (by decide) (by decide)
theorem sn_valueBytes_bytesSince {Z : State} {a0 : Array Value} (hw : ∀ d ∈ tables_1, d.before a0 Z = true) : Jvm.RoadKit.slotOf Z "com/example/warmjoin/warmjoin/PageReadings" "valueBytes" "D" ≠ Jvm.RoadKit.slotOf Z "com/example/warmjoin/warmjoin/PageReadings" "bytesSince" "J" := Jvm.RoadKit.slot_ne (a0 := a0) (Or.inl (own_w hw 38 rfl)) (Or.inl (own_w hw 24 rfl)) (by decide) (t := .double) (t' := .long) (by decide) (by decide)
theorem sn_rowsRead_bytesSince {Z : State} {a0 : Array Value} (hw : ∀ d ∈ tables_1, d.before a0 Z = true) : Jvm.RoadKit.slotOf Z "com/example/warmjoin/warmjoin/PageReadings" "rowsRead" "D" ≠ Jvm.RoadKit.slotOf Z "com/example/warmjoin/warmjoin/PageReadings" "bytesSince" "J" := Jvm.RoadKit.slot_ne (a0 := a0) (Or.inl (own_w hw 31 rfl)) (Or.inl (own_w hw 24 rfl)) (by decide) (t := .double) (t' := .long) (by decide) (by decide)
theorem sn_rowsWanted_bytesSince {Z : State} {a0 : Array Value} (hw : ∀ d ∈ tables_1, d.before a0 Z = true) : Jvm.RoadKit.slotOf Z "com/example/warmjoin/warmjoin/PageReadings" "rowsWanted" "D" ≠ Jvm.RoadKit.slotOf Z "com/example/warmjoin/warmjoin/PageReadings" "bytesSince" "J" := Jvm.RoadKit.slot_ne (a0 := a0) (Or.inl (own_w hw 34 rfl)) (Or.inl (own_w hw 24 rfl)) (by decide) (t := .double) (t' := .long) (by decide) (by decide)
theorem sn_takenSince_bytesSince {Z : State} {a0 : Array Value} (hw : ∀ d ∈ tables_1, d.before a0 Z = true) : Jvm.RoadKit.slotOf Z "com/example/warmjoin/warmjoin/PageReadings" "takenSince" "I" ≠ Jvm.RoadKit.slotOf Z "com/example/warmjoin/warmjoin/PageReadings" "bytesSince" "J" := Jvm.RoadKit.slot_ne (a0 := a0) (Or.inl (own_w hw 22 rfl)) (Or.inl (own_w hw 24 rfl)) (by decide) (t := .int) (t' := .long) (by decide) (by decide)
set_option maxRecDepth 65536 in
set_option maxHeartbeats 40000000 in
theorem rm_took (l : Launch) (Z : State) (a0 : Array Value) (hw : ∀ d ∈ tables_1, d.before a0 Z = true) (ws : List Jvm.Cond) (a1 kk ro : Addr) (vl tk : Int32) (bs : Int64) (rt vb rr rw : UInt64) (x1 tk' : Int32) (bs' : Int64) (h0 : Heap) (n0 : Nat) (Z0 : n0 ≤ h0.size) (U : PRd Z h0 a1 kk ro vl tk bs rt vb rr rw) (ht : tk + (1 : Int32) = tk') (hbs : bs + (x1.toInt64) = bs') (g_a1 : n0 ≤ a1) :
    MetFree l (⟨"com/example/warmjoin/warmjoin/PageReadings", "took", "(I)V"⟩ : MethodName) (head1 (Jvm.Cond.code (⟨"com/example/warmjoin/warmjoin/PageReadings", "took", "(I)V"⟩ : MethodName) prog_102_method_3_code 2 none :: ws) ({ frames := 0, cells := 0, slots := 0, locals := 0 } : Room)) (fun a U => a = #[(.ref a1), (.int x1)] ∧ Z.Warmed39 U.vm ∧ U.heap = h0) (fun _ _ _ _ _ => True) (fun _ U o U' => ∃ v L, o = .returned v ∧ Q_rm_took Z a1 kk ro vl tk bs rt vb rr rw x1 tk' bs' h0 n0 v U'.heap L ∧ FrameEnd U o U' L ({ frames := 0, cells := 0, slots := 0, locals := 0 } : Room).cells ({ frames := 0, cells := 0, slots := 0, locals := 0 } : Room).slots) := by
  refine own_met (y := (⟨"com/example/warmjoin/warmjoin/PageReadings", "took", "(I)V"⟩ : MethodName)) (Q := (Q_rm_took Z a1 kk ro vl tk bs rt vb rr rw x1 tk' bs' h0 n0)) (plainFor_of_name pn_1) fun p e s m below meth c s₁ X0 hx hby hml hret hlk hown hnm hZ e0 => ?_
  refine own_entry (ef_3_RI m a1 x1) ?_
  obtain ⟨E1, F0, F1, F2, F3, F4, F5, F6, F7, SK, SR⟩ := U
  have K0 := Keep.refl h0 [a1]
  refine own_to s₁ (mkF m 2 #[.val (.ref a1), .val (.int x1)] [(.ref a1), (.ref a1)]) (fun tq kq => XS.aloadN X0.here hx rfl (hb hby d3_0) rfl rfl (XS.dup X0.here hx rfl (hb hby d3_1) rfl rfl kq)) ?_
  obtain ⟨T1, X1, e1, st1⟩ := getF X0 hx hZ hown (host := "") (Or.inl (own_w hw 21 rfl)) Via.refl e0 F6 (g := (mkF m 2 #[.val (.ref a1), .val (.int x1)] [(.ref a1), (.ref a1)])) rfl rfl (hb hby d3_2)
  refine own_to T1 (mkF m 7 #[.val (.ref a1), .val (.int x1)] [(.int (tk + (1 : Int32))), (.ref a1)]) (fun tq kq => st1 _ (XS.iconst X1.here hx rfl (hb hby d3_5) (XS.iadd X1.here hx rfl (hb hby d3_6) rfl kq))) ?_
  rw [show (tk + (1 : Int32)) = tk' from ht]
  obtain ⟨T2, h2, X2, e2, W2, st2⟩ := putF X1 hx hZ hown (host := "") (Or.inl (own_w hw 21 rfl)) Via.refl e1 F6 E1 (Or.inl (own_w hw 22 rfl)) (own_w hw 4 rfl) (ty := .int) (by decide) rfl rfl (g := (mkF m 7 #[.val (.ref a1), .val (.int x1)] [(.int tk'), (.ref a1)])) rfl rfl (hb hby d3_7)
  have f3 := E1.wr W2
  have f4 := F0.other W2 (Or.inr (sn_values_takenSince hw))
  have f5 := F1.other W2 (Or.inr (sn_only_takenSince hw))
  have f6 := F2.other W2 (Or.inr (sn_rowsTaken_takenSince hw))
  have f7 := F3.other W2 (Or.inr (sn_valueBytes_takenSince hw))
  have f8 := F4.other W2 (Or.inr (sn_rowsRead_takenSince hw))
  have f9 := F5.other W2 (Or.inr (sn_rowsWanted_takenSince hw))
  have f10 := F7.other W2 (Or.inr (sn_bytesSince_takenSince hw))
  have f11 := SK.wr W2
  have f12 := SR.wr W2
  have f13 := F6.same W2
  have N2 := Fr.snoc X2 (Fr.nil n0) g_a1
  have Zs2 : n0 ≤ h2.size := by rw [W2.size]; exact Z0
  have K2 := K0.wr W2 (Or.inl (List.mem_of_getElem? (i := 0) rfl))
  refine own_to T2 (mkF m 12 #[.val (.ref a1), .val (.int x1)] [(.ref a1), (.ref a1)]) (fun tq kq => st2 _ (XS.aloadN X2.here hx rfl (hb hby d3_10) rfl rfl (XS.dup X2.here hx rfl (hb hby d3_11) rfl rfl kq))) ?_
  obtain ⟨T14, X14, e14, st14⟩ := getF X2 hx hZ hown (host := "") (Or.inl (own_w hw 23 rfl)) Via.refl e2 f10 (g := (mkF m 12 #[.val (.ref a1), .val (.int x1)] [(.ref a1), (.ref a1)])) rfl rfl (hb hby d3_12)
  refine own_to T14 (mkF m 18 #[.val (.ref a1), .val (.int x1)] [(.long (bs + (x1.toInt64))), (.ref a1)]) (fun tq kq => st14 _ (XS.iloadN X14.here hx rfl (hb hby d3_15) rfl (XS.i2l X14.here hx rfl (hb hby d3_16) rfl (XS.ladd X14.here hx rfl (hb hby d3_17) rfl kq)))) ?_
  rw [show (bs + (x1.toInt64)) = bs' from hbs]
  obtain ⟨T15, h15, X15, e15, W15, st15⟩ := putF X14 hx hZ hown (host := "") (Or.inl (own_w hw 23 rfl)) Via.refl e14 f10 f3 (Or.inl (own_w hw 24 rfl)) (own_w hw 4 rfl) (ty := .long) (by decide) rfl rfl (g := (mkF m 18 #[.val (.ref a1), .val (.int x1)] [(.long bs'), (.ref a1)])) rfl rfl (hb hby d3_18)
  have f16 := f3.wr W15
  have f17 := f4.other W15 (Or.inr (sn_values_bytesSince hw))
  have f18 := f5.other W15 (Or.inr (sn_only_bytesSince hw))
  have f19 := f6.other W15 (Or.inr (sn_rowsTaken_bytesSince hw))
  have f20 := f7.other W15 (Or.inr (sn_valueBytes_bytesSince hw))
  have f21 := f8.other W15 (Or.inr (sn_rowsRead_bytesSince hw))
  have f22 := f9.other W15 (Or.inr (sn_rowsWanted_bytesSince hw))
  have f23 := f13.other W15 (Or.inr (sn_takenSince_bytesSince hw))
  have f24 := f11.wr W15
  have f25 := f12.wr W15
  have f26 := f10.same W15
  have N15 := Fr.snoc X15 N2 g_a1
  have Zs15 : n0 ≤ h15.size := by rw [W15.size]; exact Zs2
  have K15 := K2.wr W15 (Or.inl (List.mem_of_getElem? (i := 0) rfl))
  refine own_to T15 (mkF m 21 #[.val (.ref a1), .val (.int x1)] []) (fun tq kq => st15 _ kq) ?_
  exact own_retV X15 hx hret hlk (hb hby d3_21) (by decide) (by decide) (by rw [e15]; exact ⟨rfl, N15, K15, ⟨f16, f17, f18, f19, f20, f21, f22, f23, f26, f24, f25⟩⟩)
theorem d4_0 : decode prog_102_method_4_code 0 = .ok (.aload_n 0, 1) := by decide +kernel
theorem d4_1 : decode prog_102_method_4_code 1 = .ok (.aload_n 0, 1) := by decide +kernel
theorem d4_2 : decode prog_102_method_4_code 2 = .ok (.getfield 31, 3) := by decide +kernel
theorem d4_5 : decode prog_102_method_4_code 5 = .ok (.ldc2_w 49, 3) := by decide +kernel
theorem d4_8 : decode prog_102_method_4_code 8 = .ok (.dmul, 1) := by decide +kernel
theorem d4_9 : decode prog_102_method_4_code 9 = .ok (.iload_n 1, 1) := by decide +kernel
theorem d4_10 : decode prog_102_method_4_code 10 = .ok (.i2d, 1) := by decide +kernel
theorem d4_11 : decode prog_102_method_4_code 11 = .ok (.dadd, 1) := by decide +kernel
theorem d4_12 : decode prog_102_method_4_code 12 = .ok (.putfield 31, 3) := by decide +kernel
theorem d4_15 : decode prog_102_method_4_code 15 = .ok (.aload_n 0, 1) := by decide +kernel
theorem d4_16 : decode prog_102_method_4_code 16 = .ok (.aload_n 0, 1) := by decide +kernel
theorem d4_17 : decode prog_102_method_4_code 17 = .ok (.getfield 34, 3) := by decide +kernel
theorem d4_20 : decode prog_102_method_4_code 20 = .ok (.ldc2_w 49, 3) := by decide +kernel
theorem d4_23 : decode prog_102_method_4_code 23 = .ok (.dmul, 1) := by decide +kernel
theorem d4_24 : decode prog_102_method_4_code 24 = .ok (.iload_n 2, 1) := by decide +kernel
theorem d4_25 : decode prog_102_method_4_code 25 = .ok (.i2d, 1) := by decide +kernel
theorem d4_26 : decode prog_102_method_4_code 26 = .ok (.dadd, 1) := by decide +kernel
theorem d4_27 : decode prog_102_method_4_code 27 = .ok (.putfield 34, 3) := by decide +kernel
theorem d4_30 : decode prog_102_method_4_code 30 = .ok (.aload_n 0, 1) := by decide +kernel
theorem d4_31 : decode prog_102_method_4_code 31 = .ok (.aload_n 0, 1) := by decide +kernel
theorem d4_32 : decode prog_102_method_4_code 32 = .ok (.getfield 17, 3) := by decide +kernel
theorem d4_35 : decode prog_102_method_4_code 35 = .ok (.ldc2_w 49, 3) := by decide +kernel
theorem d4_38 : decode prog_102_method_4_code 38 = .ok (.dmul, 1) := by decide +kernel
theorem d4_39 : decode prog_102_method_4_code 39 = .ok (.aload_n 0, 1) := by decide +kernel
theorem d4_40 : decode prog_102_method_4_code 40 = .ok (.getfield 42, 3) := by decide +kernel
theorem d4_43 : decode prog_102_method_4_code 43 = .ok (.i2d, 1) := by decide +kernel
theorem d4_44 : decode prog_102_method_4_code 44 = .ok (.dadd, 1) := by decide +kernel
theorem d4_45 : decode prog_102_method_4_code 45 = .ok (.putfield 17, 3) := by decide +kernel
theorem d4_48 : decode prog_102_method_4_code 48 = .ok (.aload_n 0, 1) := by decide +kernel
theorem d4_49 : decode prog_102_method_4_code 49 = .ok (.aload_n 0, 1) := by decide +kernel
theorem d4_50 : decode prog_102_method_4_code 50 = .ok (.getfield 26, 3) := by decide +kernel
theorem d4_53 : decode prog_102_method_4_code 53 = .ok (.ldc2_w 49, 3) := by decide +kernel
theorem d4_56 : decode prog_102_method_4_code 56 = .ok (.dmul, 1) := by decide +kernel
theorem d4_57 : decode prog_102_method_4_code 57 = .ok (.aload_n 0, 1) := by decide +kernel
theorem d4_58 : decode prog_102_method_4_code 58 = .ok (.getfield 45, 3) := by decide +kernel
theorem d4_61 : decode prog_102_method_4_code 61 = .ok (.l2d, 1) := by decide +kernel
theorem d4_62 : decode prog_102_method_4_code 62 = .ok (.dadd, 1) := by decide +kernel
theorem d4_63 : decode prog_102_method_4_code 63 = .ok (.putfield 26, 3) := by decide +kernel
theorem d4_66 : decode prog_102_method_4_code 66 = .ok (.aload_n 0, 1) := by decide +kernel
theorem d4_67 : decode prog_102_method_4_code 67 = .ok (.iconst 0, 1) := by decide +kernel
theorem d4_68 : decode prog_102_method_4_code 68 = .ok (.putfield 42, 3) := by decide +kernel
theorem d4_71 : decode prog_102_method_4_code 71 = .ok (.aload_n 0, 1) := by decide +kernel
theorem d4_72 : decode prog_102_method_4_code 72 = .ok (.lconst 0, 1) := by decide +kernel
theorem d4_73 : decode prog_102_method_4_code 73 = .ok (.putfield 45, 3) := by decide +kernel
theorem d4_76 : decode prog_102_method_4_code 76 = .ok (.return_, 1) := by decide +kernel
theorem ef_4_RII (m : MethodId) (x0 : Addr) (x1 : Int32) (x2 : Int32) : entryFrame m #[(.ref x0), (.int x1), (.int x2)] 3 = mkF m 0 #[.val (.ref x0), .val (.int x1), .val (.int x2)] [] := by first | (simp [entryFrame, mkF, argsToLocals, Value.category]; done) | rfl
def Q_rm_read0 (Z : State) (a1 kk ro : Addr) (vl tk : Int32) (bs : Int64) (rt vb rr rw : UInt64) (x1 x2 : Int32) (r w' t' v' xi yi ti bi : Int) (h0 : Heap) (n0 : Nat) (v : Option Value) (h : Heap) (L : List Loc) : Prop := v = none ∧ Fr n0 L ∧ Keep h0 h [a1] ∧ ∃ rt' vb' rr' rw', PRd Z h a1 kk ro vl (0 : Int32) (0 : Int64) rt' vb' rr' rw' ∧ Dy (t' * 3 + ti * 4) 2 rt' ∧ Dy (v' * 3 + bi * 4) 2 vb' ∧ Dy (r * 3 + xi * 4) 2 rr' ∧ Dy (w' * 3 + yi * 4) 2 rw'
theorem sn_values_rowsRead {Z : State} {a0 : Array Value} (hw : ∀ d ∈ tables_1, d.before a0 Z = true) : Jvm.RoadKit.slotOf Z "com/example/warmjoin/warmjoin/PageReadings" "values" "I" ≠ Jvm.RoadKit.slotOf Z "com/example/warmjoin/warmjoin/PageReadings" "rowsRead" "D" := Jvm.RoadKit.slot_ne (a0 := a0) (Or.inr (own_w hw 13 rfl)) (Or.inl (own_w hw 31 rfl)) (by decide) (t := .int) (t' := .double) (by decide) (by decide)
theorem sn_only_rowsRead {Z : State} {a0 : Array Value} (hw : ∀ d ∈ tables_1, d.before a0 Z = true) : Jvm.RoadKit.slotOf Z "com/example/warmjoin/warmjoin/PageReadings" "only" "Lcom/example/warmjoin/warmjoin/PageReadings$Way;" ≠ Jvm.RoadKit.slotOf Z "com/example/warmjoin/warmjoin/PageReadings" "rowsRead" "D" := Jvm.RoadKit.slot_ne (a0 := a0) (Or.inr (own_w hw 15 rfl)) (Or.inl (own_w hw 31 rfl)) (by decide) (t := (.object "com/example/warmjoin/warmjoin/PageReadings$Way")) (t' := .double) (by decide) (by decide)
theorem sn_rowsTaken_rowsRead {Z : State} {a0 : Array Value} (hw : ∀ d ∈ tables_1, d.before a0 Z = true) : Jvm.RoadKit.slotOf Z "com/example/warmjoin/warmjoin/PageReadings" "rowsTaken" "D" ≠ Jvm.RoadKit.slotOf Z "com/example/warmjoin/warmjoin/PageReadings" "rowsRead" "D" := Jvm.RoadKit.slot_ne (a0 := a0) (Or.inl (own_w hw 36 rfl)) (Or.inl (own_w hw 31 rfl)) (by decide) (t := .double) (t' := .double) (by decide) (by decide)
theorem sn_valueBytes_rowsRead {Z : State} {a0 : Array Value} (hw : ∀ d ∈ tables_1, d.before a0 Z = true) : Jvm.RoadKit.slotOf Z "com/example/warmjoin/warmjoin/PageReadings" "valueBytes" "D" ≠ Jvm.RoadKit.slotOf Z "com/example/warmjoin/warmjoin/PageReadings" "rowsRead" "D" := Jvm.RoadKit.slot_ne (a0 := a0) (Or.inl (own_w hw 38 rfl)) (Or.inl (own_w hw 31 rfl)) (by decide) (t := .double) (t' := .double) (by decide) (by decide)
theorem sn_rowsWanted_rowsRead {Z : State} {a0 : Array Value} (hw : ∀ d ∈ tables_1, d.before a0 Z = true) : Jvm.RoadKit.slotOf Z "com/example/warmjoin/warmjoin/PageReadings" "rowsWanted" "D" ≠ Jvm.RoadKit.slotOf Z "com/example/warmjoin/warmjoin/PageReadings" "rowsRead" "D" := Jvm.RoadKit.slot_ne (a0 := a0) (Or.inl (own_w hw 34 rfl)) (Or.inl (own_w hw 31 rfl)) (by decide) (t := .double) (t' := .double) (by decide) (by decide)
theorem sn_takenSince_rowsRead {Z : State} {a0 : Array Value} (hw : ∀ d ∈ tables_1, d.before a0 Z = true) : Jvm.RoadKit.slotOf Z "com/example/warmjoin/warmjoin/PageReadings" "takenSince" "I" ≠ Jvm.RoadKit.slotOf Z "com/example/warmjoin/warmjoin/PageReadings" "rowsRead" "D" := Jvm.RoadKit.slot_ne (a0 := a0) (Or.inl (own_w hw 22 rfl)) (Or.inl (own_w hw 31 rfl)) (by decide) (t := .int) (t' := .double) (by decide) (by decide)
theorem sn_bytesSince_rowsRead {Z : State} {a0 : Array Value} (hw : ∀ d ∈ tables_1, d.before a0 Z = true) : Jvm.RoadKit.slotOf Z "com/example/warmjoin/warmjoin/PageReadings" "bytesSince" "J" ≠ Jvm.RoadKit.slotOf Z "com/example/warmjoin/warmjoin/PageReadings" "rowsRead" "D" := Jvm.RoadKit.slot_ne (a0 := a0) (Or.inl (own_w hw 24 rfl)) (Or.inl (own_w hw 31 rfl)) (by decide) (t := .long) (t' := .double) (by decide) (by decide)
theorem sn_values_rowsWanted {Z : State} {a0 : Array Value} (hw : ∀ d ∈ tables_1, d.before a0 Z = true) : Jvm.RoadKit.slotOf Z "com/example/warmjoin/warmjoin/PageReadings" "values" "I" ≠ Jvm.RoadKit.slotOf Z "com/example/warmjoin/warmjoin/PageReadings" "rowsWanted" "D" := Jvm.RoadKit.slot_ne (a0 := a0) (Or.inr (own_w hw 13 rfl)) (Or.inl (own_w hw 34 rfl)) (by decide) (t := .int) (t' := .double) (by decide) (by decide)
theorem sn_only_rowsWanted {Z : State} {a0 : Array Value} (hw : ∀ d ∈ tables_1, d.before a0 Z = true) : Jvm.RoadKit.slotOf Z "com/example/warmjoin/warmjoin/PageReadings" "only" "Lcom/example/warmjoin/warmjoin/PageReadings$Way;" ≠ Jvm.RoadKit.slotOf Z "com/example/warmjoin/warmjoin/PageReadings" "rowsWanted" "D" := Jvm.RoadKit.slot_ne (a0 := a0) (Or.inr (own_w hw 15 rfl)) (Or.inl (own_w hw 34 rfl)) (by decide) (t := (.object "com/example/warmjoin/warmjoin/PageReadings$Way")) (t' := .double) (by decide) (by decide)
theorem sn_rowsTaken_rowsWanted {Z : State} {a0 : Array Value} (hw : ∀ d ∈ tables_1, d.before a0 Z = true) : Jvm.RoadKit.slotOf Z "com/example/warmjoin/warmjoin/PageReadings" "rowsTaken" "D" ≠ Jvm.RoadKit.slotOf Z "com/example/warmjoin/warmjoin/PageReadings" "rowsWanted" "D" := Jvm.RoadKit.slot_ne (a0 := a0) (Or.inl (own_w hw 36 rfl)) (Or.inl (own_w hw 34 rfl)) (by decide) (t := .double) (t' := .double) (by decide) (by decide)
theorem sn_valueBytes_rowsWanted {Z : State} {a0 : Array Value} (hw : ∀ d ∈ tables_1, d.before a0 Z = true) : Jvm.RoadKit.slotOf Z "com/example/warmjoin/warmjoin/PageReadings" "valueBytes" "D" ≠ Jvm.RoadKit.slotOf Z "com/example/warmjoin/warmjoin/PageReadings" "rowsWanted" "D" := Jvm.RoadKit.slot_ne (a0 := a0) (Or.inl (own_w hw 38 rfl)) (Or.inl (own_w hw 34 rfl)) (by decide) (t := .double) (t' := .double) (by decide) (by decide)
theorem sn_rowsRead_rowsWanted {Z : State} {a0 : Array Value} (hw : ∀ d ∈ tables_1, d.before a0 Z = true) : Jvm.RoadKit.slotOf Z "com/example/warmjoin/warmjoin/PageReadings" "rowsRead" "D" ≠ Jvm.RoadKit.slotOf Z "com/example/warmjoin/warmjoin/PageReadings" "rowsWanted" "D" := Jvm.RoadKit.slot_ne (a0 := a0) (Or.inl (own_w hw 31 rfl)) (Or.inl (own_w hw 34 rfl)) (by decide) (t := .double) (t' := .double) (by decide) (by decide)
theorem sn_takenSince_rowsWanted {Z : State} {a0 : Array Value} (hw : ∀ d ∈ tables_1, d.before a0 Z = true) : Jvm.RoadKit.slotOf Z "com/example/warmjoin/warmjoin/PageReadings" "takenSince" "I" ≠ Jvm.RoadKit.slotOf Z "com/example/warmjoin/warmjoin/PageReadings" "rowsWanted" "D" := Jvm.RoadKit.slot_ne (a0 := a0) (Or.inl (own_w hw 22 rfl)) (Or.inl (own_w hw 34 rfl)) (by decide) (t := .int) (t' := .double) (by decide) (by decide)
theorem sn_bytesSince_rowsWanted {Z : State} {a0 : Array Value} (hw : ∀ d ∈ tables_1, d.before a0 Z = true) : Jvm.RoadKit.slotOf Z "com/example/warmjoin/warmjoin/PageReadings" "bytesSince" "J" ≠ Jvm.RoadKit.slotOf Z "com/example/warmjoin/warmjoin/PageReadings" "rowsWanted" "D" := Jvm.RoadKit.slot_ne (a0 := a0) (Or.inl (own_w hw 24 rfl)) (Or.inl (own_w hw 34 rfl)) (by decide) (t := .long) (t' := .double) (by decide) (by decide)
theorem sn_values_rowsTaken {Z : State} {a0 : Array Value} (hw : ∀ d ∈ tables_1, d.before a0 Z = true) : Jvm.RoadKit.slotOf Z "com/example/warmjoin/warmjoin/PageReadings" "values" "I" ≠ Jvm.RoadKit.slotOf Z "com/example/warmjoin/warmjoin/PageReadings" "rowsTaken" "D" := Jvm.RoadKit.slot_ne (a0 := a0) (Or.inr (own_w hw 13 rfl)) (Or.inl (own_w hw 36 rfl)) (by decide) (t := .int) (t' := .double) (by decide) (by decide)
theorem sn_only_rowsTaken {Z : State} {a0 : Array Value} (hw : ∀ d ∈ tables_1, d.before a0 Z = true) : Jvm.RoadKit.slotOf Z "com/example/warmjoin/warmjoin/PageReadings" "only" "Lcom/example/warmjoin/warmjoin/PageReadings$Way;" ≠ Jvm.RoadKit.slotOf Z "com/example/warmjoin/warmjoin/PageReadings" "rowsTaken" "D" := Jvm.RoadKit.slot_ne (a0 := a0) (Or.inr (own_w hw 15 rfl)) (Or.inl (own_w hw 36 rfl)) (by decide) (t := (.object "com/example/warmjoin/warmjoin/PageReadings$Way")) (t' := .double) (by decide) (by decide)
theorem sn_valueBytes_rowsTaken {Z : State} {a0 : Array Value} (hw : ∀ d ∈ tables_1, d.before a0 Z = true) : Jvm.RoadKit.slotOf Z "com/example/warmjoin/warmjoin/PageReadings" "valueBytes" "D" ≠ Jvm.RoadKit.slotOf Z "com/example/warmjoin/warmjoin/PageReadings" "rowsTaken" "D" := Jvm.RoadKit.slot_ne (a0 := a0) (Or.inl (own_w hw 38 rfl)) (Or.inl (own_w hw 36 rfl)) (by decide) (t := .double) (t' := .double) (by decide) (by decide)
theorem sn_rowsRead_rowsTaken {Z : State} {a0 : Array Value} (hw : ∀ d ∈ tables_1, d.before a0 Z = true) : Jvm.RoadKit.slotOf Z "com/example/warmjoin/warmjoin/PageReadings" "rowsRead" "D" ≠ Jvm.RoadKit.slotOf Z "com/example/warmjoin/warmjoin/PageReadings" "rowsTaken" "D" := Jvm.RoadKit.slot_ne (a0 := a0) (Or.inl (own_w hw 31 rfl)) (Or.inl (own_w hw 36 rfl)) (by decide) (t := .double) (t' := .double) (by decide) (by decide)
theorem sn_rowsWanted_rowsTaken {Z : State} {a0 : Array Value} (hw : ∀ d ∈ tables_1, d.before a0 Z = true) : Jvm.RoadKit.slotOf Z "com/example/warmjoin/warmjoin/PageReadings" "rowsWanted" "D" ≠ Jvm.RoadKit.slotOf Z "com/example/warmjoin/warmjoin/PageReadings" "rowsTaken" "D" := Jvm.RoadKit.slot_ne (a0 := a0) (Or.inl (own_w hw 34 rfl)) (Or.inl (own_w hw 36 rfl)) (by decide) (t := .double) (t' := .double) (by decide) (by decide)
theorem sn_takenSince_rowsTaken {Z : State} {a0 : Array Value} (hw : ∀ d ∈ tables_1, d.before a0 Z = true) : Jvm.RoadKit.slotOf Z "com/example/warmjoin/warmjoin/PageReadings" "takenSince" "I" ≠ Jvm.RoadKit.slotOf Z "com/example/warmjoin/warmjoin/PageReadings" "rowsTaken" "D" := Jvm.RoadKit.slot_ne (a0 := a0) (Or.inl (own_w hw 22 rfl)) (Or.inl (own_w hw 36 rfl)) (by decide) (t := .int) (t' := .double) (by decide) (by decide)
theorem sn_bytesSince_rowsTaken {Z : State} {a0 : Array Value} (hw : ∀ d ∈ tables_1, d.before a0 Z = true) : Jvm.RoadKit.slotOf Z "com/example/warmjoin/warmjoin/PageReadings" "bytesSince" "J" ≠ Jvm.RoadKit.slotOf Z "com/example/warmjoin/warmjoin/PageReadings" "rowsTaken" "D" := Jvm.RoadKit.slot_ne (a0 := a0) (Or.inl (own_w hw 24 rfl)) (Or.inl (own_w hw 36 rfl)) (by decide) (t := .long) (t' := .double) (by decide) (by decide)
theorem sn_values_valueBytes {Z : State} {a0 : Array Value} (hw : ∀ d ∈ tables_1, d.before a0 Z = true) : Jvm.RoadKit.slotOf Z "com/example/warmjoin/warmjoin/PageReadings" "values" "I" ≠ Jvm.RoadKit.slotOf Z "com/example/warmjoin/warmjoin/PageReadings" "valueBytes" "D" := Jvm.RoadKit.slot_ne (a0 := a0) (Or.inr (own_w hw 13 rfl)) (Or.inl (own_w hw 38 rfl)) (by decide) (t := .int) (t' := .double) (by decide) (by decide)
theorem sn_only_valueBytes {Z : State} {a0 : Array Value} (hw : ∀ d ∈ tables_1, d.before a0 Z = true) : Jvm.RoadKit.slotOf Z "com/example/warmjoin/warmjoin/PageReadings" "only" "Lcom/example/warmjoin/warmjoin/PageReadings$Way;" ≠ Jvm.RoadKit.slotOf Z "com/example/warmjoin/warmjoin/PageReadings" "valueBytes" "D" := Jvm.RoadKit.slot_ne (a0 := a0) (Or.inr (own_w hw 15 rfl)) (Or.inl (own_w hw 38 rfl)) (by decide) (t := (.object "com/example/warmjoin/warmjoin/PageReadings$Way")) (t' := .double) (by decide) (by decide)
theorem sn_rowsTaken_valueBytes {Z : State} {a0 : Array Value} (hw : ∀ d ∈ tables_1, d.before a0 Z = true) : Jvm.RoadKit.slotOf Z "com/example/warmjoin/warmjoin/PageReadings" "rowsTaken" "D" ≠ Jvm.RoadKit.slotOf Z "com/example/warmjoin/warmjoin/PageReadings" "valueBytes" "D" := Jvm.RoadKit.slot_ne (a0 := a0) (Or.inl (own_w hw 36 rfl)) (Or.inl (own_w hw 38 rfl)) (by decide) (t := .double) (t' := .double) (by decide) (by decide)
theorem sn_rowsRead_valueBytes {Z : State} {a0 : Array Value} (hw : ∀ d ∈ tables_1, d.before a0 Z = true) : Jvm.RoadKit.slotOf Z "com/example/warmjoin/warmjoin/PageReadings" "rowsRead" "D" ≠ Jvm.RoadKit.slotOf Z "com/example/warmjoin/warmjoin/PageReadings" "valueBytes" "D" := Jvm.RoadKit.slot_ne (a0 := a0) (Or.inl (own_w hw 31 rfl)) (Or.inl (own_w hw 38 rfl)) (by decide) (t := .double) (t' := .double) (by decide) (by decide)
theorem sn_rowsWanted_valueBytes {Z : State} {a0 : Array Value} (hw : ∀ d ∈ tables_1, d.before a0 Z = true) : Jvm.RoadKit.slotOf Z "com/example/warmjoin/warmjoin/PageReadings" "rowsWanted" "D" ≠ Jvm.RoadKit.slotOf Z "com/example/warmjoin/warmjoin/PageReadings" "valueBytes" "D" := Jvm.RoadKit.slot_ne (a0 := a0) (Or.inl (own_w hw 34 rfl)) (Or.inl (own_w hw 38 rfl)) (by decide) (t := .double) (t' := .double) (by decide) (by decide)
theorem sn_takenSince_valueBytes {Z : State} {a0 : Array Value} (hw : ∀ d ∈ tables_1, d.before a0 Z = true) : Jvm.RoadKit.slotOf Z "com/example/warmjoin/warmjoin/PageReadings" "takenSince" "I" ≠ Jvm.RoadKit.slotOf Z "com/example/warmjoin/warmjoin/PageReadings" "valueBytes" "D" := Jvm.RoadKit.slot_ne (a0 := a0) (Or.inl (own_w hw 22 rfl)) (Or.inl (own_w hw 38 rfl)) (by decide) (t := .int) (t' := .double) (by decide) (by decide)
theorem sn_bytesSince_valueBytes {Z : State} {a0 : Array Value} (hw : ∀ d ∈ tables_1, d.before a0 Z = true) : Jvm.RoadKit.slotOf Z "com/example/warmjoin/warmjoin/PageReadings" "bytesSince" "J" ≠ Jvm.RoadKit.slotOf Z "com/example/warmjoin/warmjoin/PageReadings" "valueBytes" "D" := Jvm.RoadKit.slot_ne (a0 := a0) (Or.inl (own_w hw 24 rfl)) (Or.inl (own_w hw 38 rfl)) (by decide) (t := .long) (t' := .double) (by decide) (by decide)
set_option maxRecDepth 65536 in
set_option maxHeartbeats 40000000 in
theorem rm_read0 (l : Launch) (Z : State) (a0 : Array Value) (hw : ∀ d ∈ tables_1, d.before a0 Z = true) (ws : List Jvm.Cond) (a1 kk ro : Addr) (vl tk : Int32) (bs : Int64) (rt vb rr rw : UInt64) (x1 x2 : Int32) (r w' t' v' xi yi ti bi : Int) (h0 : Heap) (n0 : Nat) (Z0 : n0 ≤ h0.size) (U : PRd Z h0 a1 kk ro vl tk bs rt vb rr rw) (Hr : Dy r 0 rr) (Hw : Dy w' 0 rw) (Ht : Dy t' 0 rt) (Hv : Dy v' 0 vb) (hr' : r.natAbs ≤ 1099511627776) (hw' : w'.natAbs ≤ 1099511627776) (ht' : t'.natAbs ≤ 1099511627776) (hv' : v'.natAbs ≤ 1099511627776) (hxi : x1.toInt = xi) (hyi : x2.toInt = yi) (hti : tk.toInt = ti) (hbi : bs.toInt = bi) (hbb : bi.natAbs ≤ 1099511627776) (g_a1 : n0 ≤ a1) :
    MetFree l (⟨"com/example/warmjoin/warmjoin/PageReadings", "read", "(II)V"⟩ : MethodName) (head1 (Jvm.Cond.code (⟨"com/example/warmjoin/warmjoin/PageReadings", "read", "(II)V"⟩ : MethodName) prog_102_method_4_code 3 none :: ws) ({ frames := 0, cells := 0, slots := 0, locals := 0 } : Room)) (fun a U => a = #[(.ref a1), (.int x1), (.int x2)] ∧ Z.Warmed39 U.vm ∧ U.heap = h0) (fun _ _ _ _ _ => True) (fun _ U o U' => ∃ v L, o = .returned v ∧ Q_rm_read0 Z a1 kk ro vl tk bs rt vb rr rw x1 x2 r w' t' v' xi yi ti bi h0 n0 v U'.heap L ∧ FrameEnd U o U' L ({ frames := 0, cells := 0, slots := 0, locals := 0 } : Room).cells ({ frames := 0, cells := 0, slots := 0, locals := 0 } : Room).slots) := by
  refine own_met (y := (⟨"com/example/warmjoin/warmjoin/PageReadings", "read", "(II)V"⟩ : MethodName)) (Q := (Q_rm_read0 Z a1 kk ro vl tk bs rt vb rr rw x1 x2 r w' t' v' xi yi ti bi h0 n0)) (plainFor_of_name pn_1) fun p e s m below meth c s₁ X0 hx hby hml hret hlk hown hnm hZ e0 => ?_
  refine own_entry (ef_4_RII m a1 x1 x2) ?_
  obtain ⟨E1, F0, F1, F2, F3, F4, F5, F6, F7, SK, SR⟩ := U
  have K0 := Keep.refl h0 [a1]
  have bx := rng32 x1
  have bx2 := rng32 x2
  have btk := rng32 tk
  refine own_to s₁ (mkF m 2 #[.val (.ref a1), .val (.int x1), .val (.int x2)] [(.ref a1), (.ref a1)]) (fun tq kq => XS.aloadN X0.here hx rfl (hb hby d4_0) rfl rfl (XS.aloadN X0.here hx rfl (hb hby d4_1) rfl rfl kq)) ?_
  obtain ⟨T1, X1, e1, st1⟩ := getF X0 hx hZ hown (host := "") (Or.inl (own_w hw 30 rfl)) Via.refl e0 F4 (g := (mkF m 2 #[.val (.ref a1), .val (.int x1), .val (.int x2)] [(.ref a1), (.ref a1)])) rfl rfl (hb hby d4_2)
  refine own_to T1 (mkF m 8 #[.val (.ref a1), .val (.int x1), .val (.int x2)] [(.double (4604930618986332160 : UInt64)), (.double rr), (.ref a1)]) (fun tq kq => st1 _ (X1.ldc2DoubleC hx hown (mvT hZ (own_w hw 32 rfl)) (g := (mkF m 5 #[.val (.ref a1), .val (.int x1), .val (.int x2)] [(.double rr), (.ref a1)])) rfl (hb hby d4_5) _ kq)) ?_
  have Du2 : Dy (r * 3) 2 (FP.dmul rr (4604930618986332160 : UInt64)) := Dy.mul Hr own_threeq (by decide) (by omega)
  refine own_to T1 (mkF m 9 #[.val (.ref a1), .val (.int x1), .val (.int x2)] [(.double (FP.dmul rr (4604930618986332160 : UInt64))), (.ref a1)]) (fun tq kq => XS.dmulS X1.here hx rfl (hb hby d4_8) rfl Du2.nn rfl kq) ?_
  obtain ⟨uu2, huu2⟩ : ∃ z0, z0 = (FP.dmul rr (4604930618986332160 : UInt64)) := ⟨_, rfl⟩
  rw [← huu2]
  rw [← huu2] at Du2
  clear huu2
  refine own_to T1 (mkF m 10 #[.val (.ref a1), .val (.int x1), .val (.int x2)] [(.int x1), (.double uu2), (.ref a1)]) (fun tq kq => XS.iloadN X1.here hx rfl (hb hby d4_9) rfl kq) ?_
  have Du3 : Dy xi 0 (FP.i2d x1) := Dy.cast hxi (Dy.of_i2d x1)
  refine own_to T1 (mkF m 11 #[.val (.ref a1), .val (.int x1), .val (.int x2)] [(.double (FP.i2d x1)), (.double uu2), (.ref a1)]) (fun tq kq => XS.i2dS X1.here hx rfl (hb hby d4_10) rfl rfl kq) ?_
  obtain ⟨uu3, huu3⟩ : ∃ z0, z0 = (FP.i2d x1) := ⟨_, rfl⟩
  rw [← huu3]
  rw [← huu3] at Du3
  clear huu3
  have d5 : Dy (xi * 4) 2 uu3 := Dy.up 2 Du3
  have Du4 : Dy ((r * 3) + (xi * 4)) 2 (FP.dadd uu2 uu3) := Dy.add Du2 d5 (by decide) (by omega)
  refine own_to T1 (mkF m 12 #[.val (.ref a1), .val (.int x1), .val (.int x2)] [(.double (FP.dadd uu2 uu3)), (.ref a1)]) (fun tq kq => XS.daddS X1.here hx rfl (hb hby d4_11) rfl Du4.nn rfl kq) ?_
  obtain ⟨uu4, huu4⟩ : ∃ z0, z0 = (FP.dadd uu2 uu3) := ⟨_, rfl⟩
  rw [← huu4]
  rw [← huu4] at Du4
  clear huu4
  obtain ⟨T6, h6, X6, e6, W6, st6⟩ := putF X1 hx hZ hown (host := "") (Or.inl (own_w hw 30 rfl)) Via.refl e1 F4 E1 (Or.inl (own_w hw 31 rfl)) (own_w hw 4 rfl) (ty := .double) (by decide) rfl rfl (g := (mkF m 12 #[.val (.ref a1), .val (.int x1), .val (.int x2)] [(.double uu4), (.ref a1)])) rfl rfl (hb hby d4_12)
  have f7 := E1.wr W6
  have f8 := F0.other W6 (Or.inr (sn_values_rowsRead hw))
  have f9 := F1.other W6 (Or.inr (sn_only_rowsRead hw))
  have f10 := F2.other W6 (Or.inr (sn_rowsTaken_rowsRead hw))
  have f11 := F3.other W6 (Or.inr (sn_valueBytes_rowsRead hw))
  have f12 := F5.other W6 (Or.inr (sn_rowsWanted_rowsRead hw))
  have f13 := F6.other W6 (Or.inr (sn_takenSince_rowsRead hw))
  have f14 := F7.other W6 (Or.inr (sn_bytesSince_rowsRead hw))
  have f15 := SK.wr W6
  have f16 := SR.wr W6
  have f17 := F4.same W6
  have N6 := Fr.snoc X6 (Fr.nil n0) g_a1
  have Zs6 : n0 ≤ h6.size := by rw [W6.size]; exact Z0
  have K6 := K0.wr W6 (Or.inl (List.mem_of_getElem? (i := 0) rfl))
  refine own_to T6 (mkF m 17 #[.val (.ref a1), .val (.int x1), .val (.int x2)] [(.ref a1), (.ref a1)]) (fun tq kq => st6 _ (XS.aloadN X6.here hx rfl (hb hby d4_15) rfl rfl (XS.aloadN X6.here hx rfl (hb hby d4_16) rfl rfl kq))) ?_
  obtain ⟨T18, X18, e18, st18⟩ := getF X6 hx hZ hown (host := "") (Or.inl (own_w hw 33 rfl)) Via.refl e6 f12 (g := (mkF m 17 #[.val (.ref a1), .val (.int x1), .val (.int x2)] [(.ref a1), (.ref a1)])) rfl rfl (hb hby d4_17)
  refine own_to T18 (mkF m 23 #[.val (.ref a1), .val (.int x1), .val (.int x2)] [(.double (4604930618986332160 : UInt64)), (.double rw), (.ref a1)]) (fun tq kq => st18 _ (X18.ldc2DoubleC hx hown (mvT hZ (own_w hw 32 rfl)) (g := (mkF m 20 #[.val (.ref a1), .val (.int x1), .val (.int x2)] [(.double rw), (.ref a1)])) rfl (hb hby d4_20) _ kq)) ?_
  have Du19 : Dy (w' * 3) 2 (FP.dmul rw (4604930618986332160 : UInt64)) := Dy.mul Hw own_threeq (by decide) (by omega)
  refine own_to T18 (mkF m 24 #[.val (.ref a1), .val (.int x1), .val (.int x2)] [(.double (FP.dmul rw (4604930618986332160 : UInt64))), (.ref a1)]) (fun tq kq => XS.dmulS X18.here hx rfl (hb hby d4_23) rfl Du19.nn rfl kq) ?_
  obtain ⟨uu19, huu19⟩ : ∃ z0, z0 = (FP.dmul rw (4604930618986332160 : UInt64)) := ⟨_, rfl⟩
  rw [← huu19]
  rw [← huu19] at Du19
  clear huu19
  refine own_to T18 (mkF m 25 #[.val (.ref a1), .val (.int x1), .val (.int x2)] [(.int x2), (.double uu19), (.ref a1)]) (fun tq kq => XS.iloadN X18.here hx rfl (hb hby d4_24) rfl kq) ?_
  have Du20 : Dy yi 0 (FP.i2d x2) := Dy.cast hyi (Dy.of_i2d x2)
  refine own_to T18 (mkF m 26 #[.val (.ref a1), .val (.int x1), .val (.int x2)] [(.double (FP.i2d x2)), (.double uu19), (.ref a1)]) (fun tq kq => XS.i2dS X18.here hx rfl (hb hby d4_25) rfl rfl kq) ?_
  obtain ⟨uu20, huu20⟩ : ∃ z0, z0 = (FP.i2d x2) := ⟨_, rfl⟩
  rw [← huu20]
  rw [← huu20] at Du20
  clear huu20
  have d22 : Dy (yi * 4) 2 uu20 := Dy.up 2 Du20
  have Du21 : Dy ((w' * 3) + (yi * 4)) 2 (FP.dadd uu19 uu20) := Dy.add Du19 d22 (by decide) (by omega)
  refine own_to T18 (mkF m 27 #[.val (.ref a1), .val (.int x1), .val (.int x2)] [(.double (FP.dadd uu19 uu20)), (.ref a1)]) (fun tq kq => XS.daddS X18.here hx rfl (hb hby d4_26) rfl Du21.nn rfl kq) ?_
  obtain ⟨uu21, huu21⟩ : ∃ z0, z0 = (FP.dadd uu19 uu20) := ⟨_, rfl⟩
  rw [← huu21]
  rw [← huu21] at Du21
  clear huu21
  obtain ⟨T23, h23, X23, e23, W23, st23⟩ := putF X18 hx hZ hown (host := "") (Or.inl (own_w hw 33 rfl)) Via.refl e18 f12 f7 (Or.inl (own_w hw 34 rfl)) (own_w hw 4 rfl) (ty := .double) (by decide) rfl rfl (g := (mkF m 27 #[.val (.ref a1), .val (.int x1), .val (.int x2)] [(.double uu21), (.ref a1)])) rfl rfl (hb hby d4_27)
  have f24 := f7.wr W23
  have f25 := f8.other W23 (Or.inr (sn_values_rowsWanted hw))
  have f26 := f9.other W23 (Or.inr (sn_only_rowsWanted hw))
  have f27 := f10.other W23 (Or.inr (sn_rowsTaken_rowsWanted hw))
  have f28 := f11.other W23 (Or.inr (sn_valueBytes_rowsWanted hw))
  have f29 := f17.other W23 (Or.inr (sn_rowsRead_rowsWanted hw))
  have f30 := f13.other W23 (Or.inr (sn_takenSince_rowsWanted hw))
  have f31 := f14.other W23 (Or.inr (sn_bytesSince_rowsWanted hw))
  have f32 := f15.wr W23
  have f33 := f16.wr W23
  have f34 := f12.same W23
  have N23 := Fr.snoc X23 N6 g_a1
  have Zs23 : n0 ≤ h23.size := by rw [W23.size]; exact Zs6
  have K23 := K6.wr W23 (Or.inl (List.mem_of_getElem? (i := 0) rfl))
  refine own_to T23 (mkF m 32 #[.val (.ref a1), .val (.int x1), .val (.int x2)] [(.ref a1), (.ref a1)]) (fun tq kq => st23 _ (XS.aloadN X23.here hx rfl (hb hby d4_30) rfl rfl (XS.aloadN X23.here hx rfl (hb hby d4_31) rfl rfl kq))) ?_
  obtain ⟨T35, X35, e35, st35⟩ := getF X23 hx hZ hown (host := "") (Or.inl (own_w hw 35 rfl)) Via.refl e23 f27 (g := (mkF m 32 #[.val (.ref a1), .val (.int x1), .val (.int x2)] [(.ref a1), (.ref a1)])) rfl rfl (hb hby d4_32)
  refine own_to T35 (mkF m 38 #[.val (.ref a1), .val (.int x1), .val (.int x2)] [(.double (4604930618986332160 : UInt64)), (.double rt), (.ref a1)]) (fun tq kq => st35 _ (X35.ldc2DoubleC hx hown (mvT hZ (own_w hw 32 rfl)) (g := (mkF m 35 #[.val (.ref a1), .val (.int x1), .val (.int x2)] [(.double rt), (.ref a1)])) rfl (hb hby d4_35) _ kq)) ?_
  have Du36 : Dy (t' * 3) 2 (FP.dmul rt (4604930618986332160 : UInt64)) := Dy.mul Ht own_threeq (by decide) (by omega)
  refine own_to T35 (mkF m 39 #[.val (.ref a1), .val (.int x1), .val (.int x2)] [(.double (FP.dmul rt (4604930618986332160 : UInt64))), (.ref a1)]) (fun tq kq => XS.dmulS X35.here hx rfl (hb hby d4_38) rfl Du36.nn rfl kq) ?_
  obtain ⟨uu36, huu36⟩ : ∃ z0, z0 = (FP.dmul rt (4604930618986332160 : UInt64)) := ⟨_, rfl⟩
  rw [← huu36]
  rw [← huu36] at Du36
  clear huu36
  refine own_to T35 (mkF m 40 #[.val (.ref a1), .val (.int x1), .val (.int x2)] [(.ref a1), (.double uu36), (.ref a1)]) (fun tq kq => XS.aloadN X35.here hx rfl (hb hby d4_39) rfl rfl kq) ?_
  obtain ⟨T37, X37, e37, st37⟩ := getF X35 hx hZ hown (host := "") (Or.inl (own_w hw 21 rfl)) Via.refl e35 f30 (g := (mkF m 40 #[.val (.ref a1), .val (.int x1), .val (.int x2)] [(.ref a1), (.double uu36), (.ref a1)])) rfl rfl (hb hby d4_40)
  refine own_to T37 (mkF m 43 #[.val (.ref a1), .val (.int x1), .val (.int x2)] [(.int tk), (.double uu36), (.ref a1)]) (fun tq kq => st37 _ kq) ?_
  have Du38 : Dy ti 0 (FP.i2d tk) := Dy.cast hti (Dy.of_i2d tk)
  refine own_to T37 (mkF m 44 #[.val (.ref a1), .val (.int x1), .val (.int x2)] [(.double (FP.i2d tk)), (.double uu36), (.ref a1)]) (fun tq kq => XS.i2dS X37.here hx rfl (hb hby d4_43) rfl rfl kq) ?_
  obtain ⟨uu38, huu38⟩ : ∃ z0, z0 = (FP.i2d tk) := ⟨_, rfl⟩
  rw [← huu38]
  rw [← huu38] at Du38
  clear huu38
  have d40 : Dy (ti * 4) 2 uu38 := Dy.up 2 Du38
  have Du39 : Dy ((t' * 3) + (ti * 4)) 2 (FP.dadd uu36 uu38) := Dy.add Du36 d40 (by decide) (by omega)
  refine own_to T37 (mkF m 45 #[.val (.ref a1), .val (.int x1), .val (.int x2)] [(.double (FP.dadd uu36 uu38)), (.ref a1)]) (fun tq kq => XS.daddS X37.here hx rfl (hb hby d4_44) rfl Du39.nn rfl kq) ?_
  obtain ⟨uu39, huu39⟩ : ∃ z0, z0 = (FP.dadd uu36 uu38) := ⟨_, rfl⟩
  rw [← huu39]
  rw [← huu39] at Du39
  clear huu39
  obtain ⟨T41, h41, X41, e41, W41, st41⟩ := putF X37 hx hZ hown (host := "") (Or.inl (own_w hw 35 rfl)) Via.refl e37 f27 f24 (Or.inl (own_w hw 36 rfl)) (own_w hw 4 rfl) (ty := .double) (by decide) rfl rfl (g := (mkF m 45 #[.val (.ref a1), .val (.int x1), .val (.int x2)] [(.double uu39), (.ref a1)])) rfl rfl (hb hby d4_45)
  have f42 := f24.wr W41
  have f43 := f25.other W41 (Or.inr (sn_values_rowsTaken hw))
  have f44 := f26.other W41 (Or.inr (sn_only_rowsTaken hw))
  have f45 := f28.other W41 (Or.inr (sn_valueBytes_rowsTaken hw))
  have f46 := f29.other W41 (Or.inr (sn_rowsRead_rowsTaken hw))
  have f47 := f34.other W41 (Or.inr (sn_rowsWanted_rowsTaken hw))
  have f48 := f30.other W41 (Or.inr (sn_takenSince_rowsTaken hw))
  have f49 := f31.other W41 (Or.inr (sn_bytesSince_rowsTaken hw))
  have f50 := f32.wr W41
  have f51 := f33.wr W41
  have f52 := f27.same W41
  have N41 := Fr.snoc X41 N23 g_a1
  have Zs41 : n0 ≤ h41.size := by rw [W41.size]; exact Zs23
  have K41 := K23.wr W41 (Or.inl (List.mem_of_getElem? (i := 0) rfl))
  refine own_to T41 (mkF m 50 #[.val (.ref a1), .val (.int x1), .val (.int x2)] [(.ref a1), (.ref a1)]) (fun tq kq => st41 _ (XS.aloadN X41.here hx rfl (hb hby d4_48) rfl rfl (XS.aloadN X41.here hx rfl (hb hby d4_49) rfl rfl kq))) ?_
  obtain ⟨T53, X53, e53, st53⟩ := getF X41 hx hZ hown (host := "") (Or.inl (own_w hw 37 rfl)) Via.refl e41 f45 (g := (mkF m 50 #[.val (.ref a1), .val (.int x1), .val (.int x2)] [(.ref a1), (.ref a1)])) rfl rfl (hb hby d4_50)
  refine own_to T53 (mkF m 56 #[.val (.ref a1), .val (.int x1), .val (.int x2)] [(.double (4604930618986332160 : UInt64)), (.double vb), (.ref a1)]) (fun tq kq => st53 _ (X53.ldc2DoubleC hx hown (mvT hZ (own_w hw 32 rfl)) (g := (mkF m 53 #[.val (.ref a1), .val (.int x1), .val (.int x2)] [(.double vb), (.ref a1)])) rfl (hb hby d4_53) _ kq)) ?_
  have Du54 : Dy (v' * 3) 2 (FP.dmul vb (4604930618986332160 : UInt64)) := Dy.mul Hv own_threeq (by decide) (by omega)
  refine own_to T53 (mkF m 57 #[.val (.ref a1), .val (.int x1), .val (.int x2)] [(.double (FP.dmul vb (4604930618986332160 : UInt64))), (.ref a1)]) (fun tq kq => XS.dmulS X53.here hx rfl (hb hby d4_56) rfl Du54.nn rfl kq) ?_
  obtain ⟨uu54, huu54⟩ : ∃ z0, z0 = (FP.dmul vb (4604930618986332160 : UInt64)) := ⟨_, rfl⟩
  rw [← huu54]
  rw [← huu54] at Du54
  clear huu54
  refine own_to T53 (mkF m 58 #[.val (.ref a1), .val (.int x1), .val (.int x2)] [(.ref a1), (.double uu54), (.ref a1)]) (fun tq kq => XS.aloadN X53.here hx rfl (hb hby d4_57) rfl rfl kq) ?_
  obtain ⟨T55, X55, e55, st55⟩ := getF X53 hx hZ hown (host := "") (Or.inl (own_w hw 23 rfl)) Via.refl e53 f49 (g := (mkF m 58 #[.val (.ref a1), .val (.int x1), .val (.int x2)] [(.ref a1), (.double uu54), (.ref a1)])) rfl rfl (hb hby d4_58)
  refine own_to T55 (mkF m 61 #[.val (.ref a1), .val (.int x1), .val (.int x2)] [(.long bs), (.double uu54), (.ref a1)]) (fun tq kq => st55 _ kq) ?_
  have Du56 : Dy bi 0 (FP.l2d bs) := Dy.cast hbi (Dy.of_l2d bs (by rw [hbi]; omega))
  refine own_to T55 (mkF m 62 #[.val (.ref a1), .val (.int x1), .val (.int x2)] [(.double (FP.l2d bs)), (.double uu54), (.ref a1)]) (fun tq kq => XS.l2dS X55.here hx rfl (hb hby d4_61) rfl rfl kq) ?_
  obtain ⟨uu56, huu56⟩ : ∃ z0, z0 = (FP.l2d bs) := ⟨_, rfl⟩
  rw [← huu56]
  rw [← huu56] at Du56
  clear huu56
  have d58 : Dy (bi * 4) 2 uu56 := Dy.up 2 Du56
  have Du57 : Dy ((v' * 3) + (bi * 4)) 2 (FP.dadd uu54 uu56) := Dy.add Du54 d58 (by decide) (by omega)
  refine own_to T55 (mkF m 63 #[.val (.ref a1), .val (.int x1), .val (.int x2)] [(.double (FP.dadd uu54 uu56)), (.ref a1)]) (fun tq kq => XS.daddS X55.here hx rfl (hb hby d4_62) rfl Du57.nn rfl kq) ?_
  obtain ⟨uu57, huu57⟩ : ∃ z0, z0 = (FP.dadd uu54 uu56) := ⟨_, rfl⟩
  rw [← huu57]
  rw [← huu57] at Du57
  clear huu57
  obtain ⟨T59, h59, X59, e59, W59, st59⟩ := putF X55 hx hZ hown (host := "") (Or.inl (own_w hw 37 rfl)) Via.refl e55 f45 f42 (Or.inl (own_w hw 38 rfl)) (own_w hw 4 rfl) (ty := .double) (by decide) rfl rfl (g := (mkF m 63 #[.val (.ref a1), .val (.int x1), .val (.int x2)] [(.double uu57), (.ref a1)])) rfl rfl (hb hby d4_63)
  have f60 := f42.wr W59
  have f61 := f43.other W59 (Or.inr (sn_values_valueBytes hw))
  have f62 := f44.other W59 (Or.inr (sn_only_valueBytes hw))
  have f63 := f52.other W59 (Or.inr (sn_rowsTaken_valueBytes hw))
  have f64 := f46.other W59 (Or.inr (sn_rowsRead_valueBytes hw))
  have f65 := f47.other W59 (Or.inr (sn_rowsWanted_valueBytes hw))
  have f66 := f48.other W59 (Or.inr (sn_takenSince_valueBytes hw))
  have f67 := f49.other W59 (Or.inr (sn_bytesSince_valueBytes hw))
  have f68 := f50.wr W59
  have f69 := f51.wr W59
  have f70 := f45.same W59
  have N59 := Fr.snoc X59 N41 g_a1
  have Zs59 : n0 ≤ h59.size := by rw [W59.size]; exact Zs41
  have K59 := K41.wr W59 (Or.inl (List.mem_of_getElem? (i := 0) rfl))
  refine own_to T59 (mkF m 68 #[.val (.ref a1), .val (.int x1), .val (.int x2)] [(.int (0 : Int32)), (.ref a1)]) (fun tq kq => st59 _ (XS.aloadN X59.here hx rfl (hb hby d4_66) rfl rfl (XS.iconst X59.here hx rfl (hb hby d4_67) kq))) ?_
  obtain ⟨T71, h71, X71, e71, W71, st71⟩ := putF X59 hx hZ hown (host := "") (Or.inl (own_w hw 21 rfl)) Via.refl e59 f66 f60 (Or.inl (own_w hw 22 rfl)) (own_w hw 4 rfl) (ty := .int) (by decide) rfl rfl (g := (mkF m 68 #[.val (.ref a1), .val (.int x1), .val (.int x2)] [(.int (0 : Int32)), (.ref a1)])) rfl rfl (hb hby d4_68)
  have f72 := f60.wr W71
  have f73 := f61.other W71 (Or.inr (sn_values_takenSince hw))
  have f74 := f62.other W71 (Or.inr (sn_only_takenSince hw))
  have f75 := f63.other W71 (Or.inr (sn_rowsTaken_takenSince hw))
  have f76 := f70.other W71 (Or.inr (sn_valueBytes_takenSince hw))
  have f77 := f64.other W71 (Or.inr (sn_rowsRead_takenSince hw))
  have f78 := f65.other W71 (Or.inr (sn_rowsWanted_takenSince hw))
  have f79 := f67.other W71 (Or.inr (sn_bytesSince_takenSince hw))
  have f80 := f68.wr W71
  have f81 := f69.wr W71
  have f82 := f66.same W71
  have N71 := Fr.snoc X71 N59 g_a1
  have Zs71 : n0 ≤ h71.size := by rw [W71.size]; exact Zs59
  have K71 := K59.wr W71 (Or.inl (List.mem_of_getElem? (i := 0) rfl))
  refine own_to T71 (mkF m 73 #[.val (.ref a1), .val (.int x1), .val (.int x2)] [(.long (0 : Int64)), (.ref a1)]) (fun tq kq => st71 _ (XS.aloadN X71.here hx rfl (hb hby d4_71) rfl rfl (XS.lconst X71.here hx rfl (hb hby d4_72) kq))) ?_
  obtain ⟨T83, h83, X83, e83, W83, st83⟩ := putF X71 hx hZ hown (host := "") (Or.inl (own_w hw 23 rfl)) Via.refl e71 f79 f72 (Or.inl (own_w hw 24 rfl)) (own_w hw 4 rfl) (ty := .long) (by decide) rfl rfl (g := (mkF m 73 #[.val (.ref a1), .val (.int x1), .val (.int x2)] [(.long (0 : Int64)), (.ref a1)])) rfl rfl (hb hby d4_73)
  have f84 := f72.wr W83
  have f85 := f73.other W83 (Or.inr (sn_values_bytesSince hw))
  have f86 := f74.other W83 (Or.inr (sn_only_bytesSince hw))
  have f87 := f75.other W83 (Or.inr (sn_rowsTaken_bytesSince hw))
  have f88 := f76.other W83 (Or.inr (sn_valueBytes_bytesSince hw))
  have f89 := f77.other W83 (Or.inr (sn_rowsRead_bytesSince hw))
  have f90 := f78.other W83 (Or.inr (sn_rowsWanted_bytesSince hw))
  have f91 := f82.other W83 (Or.inr (sn_takenSince_bytesSince hw))
  have f92 := f80.wr W83
  have f93 := f81.wr W83
  have f94 := f79.same W83
  have N83 := Fr.snoc X83 N71 g_a1
  have Zs83 : n0 ≤ h83.size := by rw [W83.size]; exact Zs71
  have K83 := K71.wr W83 (Or.inl (List.mem_of_getElem? (i := 0) rfl))
  refine own_to T83 (mkF m 76 #[.val (.ref a1), .val (.int x1), .val (.int x2)] []) (fun tq kq => st83 _ kq) ?_
  exact own_retV X83 hx hret hlk (hb hby d4_76) (by decide) (by decide) (by rw [e83]; exact ⟨rfl, N83, K83, uu39, uu57, uu4, uu21, ⟨f84, f85, f86, f87, f88, f89, f90, f91, f94, f92, f93⟩, Du39, Du57, Du4, Du21⟩)
def Q_rm_read2 (Z : State) (a1 kk ro : Addr) (vl tk : Int32) (bs : Int64) (rt vb rr rw : UInt64) (x1 x2 : Int32) (r w' t' v' xi yi ti bi : Int) (h0 : Heap) (n0 : Nat) (v : Option Value) (h : Heap) (L : List Loc) : Prop := v = none ∧ Fr n0 L ∧ Keep h0 h [a1] ∧ ∃ rt' vb' rr' rw', PRd Z h a1 kk ro vl (0 : Int32) (0 : Int64) rt' vb' rr' rw' ∧ Dy (t' * 3 + ti * 16) 4 rt' ∧ Dy (v' * 3 + bi * 16) 4 vb' ∧ Dy (r * 3 + xi * 16) 4 rr' ∧ Dy (w' * 3 + yi * 16) 4 rw'
set_option maxRecDepth 65536 in
set_option maxHeartbeats 40000000 in
theorem rm_read2 (l : Launch) (Z : State) (a0 : Array Value) (hw : ∀ d ∈ tables_1, d.before a0 Z = true) (ws : List Jvm.Cond) (a1 kk ro : Addr) (vl tk : Int32) (bs : Int64) (rt vb rr rw : UInt64) (x1 x2 : Int32) (r w' t' v' xi yi ti bi : Int) (h0 : Heap) (n0 : Nat) (Z0 : n0 ≤ h0.size) (U : PRd Z h0 a1 kk ro vl tk bs rt vb rr rw) (Hr : Dy r 2 rr) (Hw : Dy w' 2 rw) (Ht : Dy t' 2 rt) (Hv : Dy v' 2 vb) (hr' : r.natAbs ≤ 1099511627776) (hw' : w'.natAbs ≤ 1099511627776) (ht' : t'.natAbs ≤ 1099511627776) (hv' : v'.natAbs ≤ 1099511627776) (hxi : x1.toInt = xi) (hyi : x2.toInt = yi) (hti : tk.toInt = ti) (hbi : bs.toInt = bi) (hbb : bi.natAbs ≤ 1099511627776) (g_a1 : n0 ≤ a1) :
    MetFree l (⟨"com/example/warmjoin/warmjoin/PageReadings", "read", "(II)V"⟩ : MethodName) (head1 (Jvm.Cond.code (⟨"com/example/warmjoin/warmjoin/PageReadings", "read", "(II)V"⟩ : MethodName) prog_102_method_4_code 3 none :: ws) ({ frames := 0, cells := 0, slots := 0, locals := 0 } : Room)) (fun a U => a = #[(.ref a1), (.int x1), (.int x2)] ∧ Z.Warmed39 U.vm ∧ U.heap = h0) (fun _ _ _ _ _ => True) (fun _ U o U' => ∃ v L, o = .returned v ∧ Q_rm_read2 Z a1 kk ro vl tk bs rt vb rr rw x1 x2 r w' t' v' xi yi ti bi h0 n0 v U'.heap L ∧ FrameEnd U o U' L ({ frames := 0, cells := 0, slots := 0, locals := 0 } : Room).cells ({ frames := 0, cells := 0, slots := 0, locals := 0 } : Room).slots) := by
  refine own_met (y := (⟨"com/example/warmjoin/warmjoin/PageReadings", "read", "(II)V"⟩ : MethodName)) (Q := (Q_rm_read2 Z a1 kk ro vl tk bs rt vb rr rw x1 x2 r w' t' v' xi yi ti bi h0 n0)) (plainFor_of_name pn_1) fun p e s m below meth c s₁ X0 hx hby hml hret hlk hown hnm hZ e0 => ?_
  refine own_entry (ef_4_RII m a1 x1 x2) ?_
  obtain ⟨E1, F0, F1, F2, F3, F4, F5, F6, F7, SK, SR⟩ := U
  have K0 := Keep.refl h0 [a1]
  have bx := rng32 x1
  have bx2 := rng32 x2
  have btk := rng32 tk
  refine own_to s₁ (mkF m 2 #[.val (.ref a1), .val (.int x1), .val (.int x2)] [(.ref a1), (.ref a1)]) (fun tq kq => XS.aloadN X0.here hx rfl (hb hby d4_0) rfl rfl (XS.aloadN X0.here hx rfl (hb hby d4_1) rfl rfl kq)) ?_
  obtain ⟨T1, X1, e1, st1⟩ := getF X0 hx hZ hown (host := "") (Or.inl (own_w hw 30 rfl)) Via.refl e0 F4 (g := (mkF m 2 #[.val (.ref a1), .val (.int x1), .val (.int x2)] [(.ref a1), (.ref a1)])) rfl rfl (hb hby d4_2)
  refine own_to T1 (mkF m 8 #[.val (.ref a1), .val (.int x1), .val (.int x2)] [(.double (4604930618986332160 : UInt64)), (.double rr), (.ref a1)]) (fun tq kq => st1 _ (X1.ldc2DoubleC hx hown (mvT hZ (own_w hw 32 rfl)) (g := (mkF m 5 #[.val (.ref a1), .val (.int x1), .val (.int x2)] [(.double rr), (.ref a1)])) rfl (hb hby d4_5) _ kq)) ?_
  have Du2 : Dy (r * 3) 4 (FP.dmul rr (4604930618986332160 : UInt64)) := Dy.mul Hr own_threeq (by decide) (by omega)
  refine own_to T1 (mkF m 9 #[.val (.ref a1), .val (.int x1), .val (.int x2)] [(.double (FP.dmul rr (4604930618986332160 : UInt64))), (.ref a1)]) (fun tq kq => XS.dmulS X1.here hx rfl (hb hby d4_8) rfl Du2.nn rfl kq) ?_
  obtain ⟨uu2, huu2⟩ : ∃ z0, z0 = (FP.dmul rr (4604930618986332160 : UInt64)) := ⟨_, rfl⟩
  rw [← huu2]
  rw [← huu2] at Du2
  clear huu2
  refine own_to T1 (mkF m 10 #[.val (.ref a1), .val (.int x1), .val (.int x2)] [(.int x1), (.double uu2), (.ref a1)]) (fun tq kq => XS.iloadN X1.here hx rfl (hb hby d4_9) rfl kq) ?_
  have Du3 : Dy xi 0 (FP.i2d x1) := Dy.cast hxi (Dy.of_i2d x1)
  refine own_to T1 (mkF m 11 #[.val (.ref a1), .val (.int x1), .val (.int x2)] [(.double (FP.i2d x1)), (.double uu2), (.ref a1)]) (fun tq kq => XS.i2dS X1.here hx rfl (hb hby d4_10) rfl rfl kq) ?_
  obtain ⟨uu3, huu3⟩ : ∃ z0, z0 = (FP.i2d x1) := ⟨_, rfl⟩
  rw [← huu3]
  rw [← huu3] at Du3
  clear huu3
  have d5 : Dy (xi * 16) 4 uu3 := Dy.up 4 Du3
  have Du4 : Dy ((r * 3) + (xi * 16)) 4 (FP.dadd uu2 uu3) := Dy.add Du2 d5 (by decide) (by omega)
  refine own_to T1 (mkF m 12 #[.val (.ref a1), .val (.int x1), .val (.int x2)] [(.double (FP.dadd uu2 uu3)), (.ref a1)]) (fun tq kq => XS.daddS X1.here hx rfl (hb hby d4_11) rfl Du4.nn rfl kq) ?_
  obtain ⟨uu4, huu4⟩ : ∃ z0, z0 = (FP.dadd uu2 uu3) := ⟨_, rfl⟩
  rw [← huu4]
  rw [← huu4] at Du4
  clear huu4
  obtain ⟨T6, h6, X6, e6, W6, st6⟩ := putF X1 hx hZ hown (host := "") (Or.inl (own_w hw 30 rfl)) Via.refl e1 F4 E1 (Or.inl (own_w hw 31 rfl)) (own_w hw 4 rfl) (ty := .double) (by decide) rfl rfl (g := (mkF m 12 #[.val (.ref a1), .val (.int x1), .val (.int x2)] [(.double uu4), (.ref a1)])) rfl rfl (hb hby d4_12)
  have f7 := E1.wr W6
  have f8 := F0.other W6 (Or.inr (sn_values_rowsRead hw))
  have f9 := F1.other W6 (Or.inr (sn_only_rowsRead hw))
  have f10 := F2.other W6 (Or.inr (sn_rowsTaken_rowsRead hw))
  have f11 := F3.other W6 (Or.inr (sn_valueBytes_rowsRead hw))
  have f12 := F5.other W6 (Or.inr (sn_rowsWanted_rowsRead hw))
  have f13 := F6.other W6 (Or.inr (sn_takenSince_rowsRead hw))
  have f14 := F7.other W6 (Or.inr (sn_bytesSince_rowsRead hw))
  have f15 := SK.wr W6
  have f16 := SR.wr W6
  have f17 := F4.same W6
  have N6 := Fr.snoc X6 (Fr.nil n0) g_a1
  have Zs6 : n0 ≤ h6.size := by rw [W6.size]; exact Z0
  have K6 := K0.wr W6 (Or.inl (List.mem_of_getElem? (i := 0) rfl))
  refine own_to T6 (mkF m 17 #[.val (.ref a1), .val (.int x1), .val (.int x2)] [(.ref a1), (.ref a1)]) (fun tq kq => st6 _ (XS.aloadN X6.here hx rfl (hb hby d4_15) rfl rfl (XS.aloadN X6.here hx rfl (hb hby d4_16) rfl rfl kq))) ?_
  obtain ⟨T18, X18, e18, st18⟩ := getF X6 hx hZ hown (host := "") (Or.inl (own_w hw 33 rfl)) Via.refl e6 f12 (g := (mkF m 17 #[.val (.ref a1), .val (.int x1), .val (.int x2)] [(.ref a1), (.ref a1)])) rfl rfl (hb hby d4_17)
  refine own_to T18 (mkF m 23 #[.val (.ref a1), .val (.int x1), .val (.int x2)] [(.double (4604930618986332160 : UInt64)), (.double rw), (.ref a1)]) (fun tq kq => st18 _ (X18.ldc2DoubleC hx hown (mvT hZ (own_w hw 32 rfl)) (g := (mkF m 20 #[.val (.ref a1), .val (.int x1), .val (.int x2)] [(.double rw), (.ref a1)])) rfl (hb hby d4_20) _ kq)) ?_
  have Du19 : Dy (w' * 3) 4 (FP.dmul rw (4604930618986332160 : UInt64)) := Dy.mul Hw own_threeq (by decide) (by omega)
  refine own_to T18 (mkF m 24 #[.val (.ref a1), .val (.int x1), .val (.int x2)] [(.double (FP.dmul rw (4604930618986332160 : UInt64))), (.ref a1)]) (fun tq kq => XS.dmulS X18.here hx rfl (hb hby d4_23) rfl Du19.nn rfl kq) ?_
  obtain ⟨uu19, huu19⟩ : ∃ z0, z0 = (FP.dmul rw (4604930618986332160 : UInt64)) := ⟨_, rfl⟩
  rw [← huu19]
  rw [← huu19] at Du19
  clear huu19
  refine own_to T18 (mkF m 25 #[.val (.ref a1), .val (.int x1), .val (.int x2)] [(.int x2), (.double uu19), (.ref a1)]) (fun tq kq => XS.iloadN X18.here hx rfl (hb hby d4_24) rfl kq) ?_
  have Du20 : Dy yi 0 (FP.i2d x2) := Dy.cast hyi (Dy.of_i2d x2)
  refine own_to T18 (mkF m 26 #[.val (.ref a1), .val (.int x1), .val (.int x2)] [(.double (FP.i2d x2)), (.double uu19), (.ref a1)]) (fun tq kq => XS.i2dS X18.here hx rfl (hb hby d4_25) rfl rfl kq) ?_
  obtain ⟨uu20, huu20⟩ : ∃ z0, z0 = (FP.i2d x2) := ⟨_, rfl⟩
  rw [← huu20]
  rw [← huu20] at Du20
  clear huu20
  have d22 : Dy (yi * 16) 4 uu20 := Dy.up 4 Du20
  have Du21 : Dy ((w' * 3) + (yi * 16)) 4 (FP.dadd uu19 uu20) := Dy.add Du19 d22 (by decide) (by omega)
  refine own_to T18 (mkF m 27 #[.val (.ref a1), .val (.int x1), .val (.int x2)] [(.double (FP.dadd uu19 uu20)), (.ref a1)]) (fun tq kq => XS.daddS X18.here hx rfl (hb hby d4_26) rfl Du21.nn rfl kq) ?_
  obtain ⟨uu21, huu21⟩ : ∃ z0, z0 = (FP.dadd uu19 uu20) := ⟨_, rfl⟩
  rw [← huu21]
  rw [← huu21] at Du21
  clear huu21
  obtain ⟨T23, h23, X23, e23, W23, st23⟩ := putF X18 hx hZ hown (host := "") (Or.inl (own_w hw 33 rfl)) Via.refl e18 f12 f7 (Or.inl (own_w hw 34 rfl)) (own_w hw 4 rfl) (ty := .double) (by decide) rfl rfl (g := (mkF m 27 #[.val (.ref a1), .val (.int x1), .val (.int x2)] [(.double uu21), (.ref a1)])) rfl rfl (hb hby d4_27)
  have f24 := f7.wr W23
  have f25 := f8.other W23 (Or.inr (sn_values_rowsWanted hw))
  have f26 := f9.other W23 (Or.inr (sn_only_rowsWanted hw))
  have f27 := f10.other W23 (Or.inr (sn_rowsTaken_rowsWanted hw))
  have f28 := f11.other W23 (Or.inr (sn_valueBytes_rowsWanted hw))
  have f29 := f17.other W23 (Or.inr (sn_rowsRead_rowsWanted hw))
  have f30 := f13.other W23 (Or.inr (sn_takenSince_rowsWanted hw))
  have f31 := f14.other W23 (Or.inr (sn_bytesSince_rowsWanted hw))
  have f32 := f15.wr W23
  have f33 := f16.wr W23
  have f34 := f12.same W23
  have N23 := Fr.snoc X23 N6 g_a1
  have Zs23 : n0 ≤ h23.size := by rw [W23.size]; exact Zs6
  have K23 := K6.wr W23 (Or.inl (List.mem_of_getElem? (i := 0) rfl))
  refine own_to T23 (mkF m 32 #[.val (.ref a1), .val (.int x1), .val (.int x2)] [(.ref a1), (.ref a1)]) (fun tq kq => st23 _ (XS.aloadN X23.here hx rfl (hb hby d4_30) rfl rfl (XS.aloadN X23.here hx rfl (hb hby d4_31) rfl rfl kq))) ?_
  obtain ⟨T35, X35, e35, st35⟩ := getF X23 hx hZ hown (host := "") (Or.inl (own_w hw 35 rfl)) Via.refl e23 f27 (g := (mkF m 32 #[.val (.ref a1), .val (.int x1), .val (.int x2)] [(.ref a1), (.ref a1)])) rfl rfl (hb hby d4_32)
  refine own_to T35 (mkF m 38 #[.val (.ref a1), .val (.int x1), .val (.int x2)] [(.double (4604930618986332160 : UInt64)), (.double rt), (.ref a1)]) (fun tq kq => st35 _ (X35.ldc2DoubleC hx hown (mvT hZ (own_w hw 32 rfl)) (g := (mkF m 35 #[.val (.ref a1), .val (.int x1), .val (.int x2)] [(.double rt), (.ref a1)])) rfl (hb hby d4_35) _ kq)) ?_
  have Du36 : Dy (t' * 3) 4 (FP.dmul rt (4604930618986332160 : UInt64)) := Dy.mul Ht own_threeq (by decide) (by omega)
  refine own_to T35 (mkF m 39 #[.val (.ref a1), .val (.int x1), .val (.int x2)] [(.double (FP.dmul rt (4604930618986332160 : UInt64))), (.ref a1)]) (fun tq kq => XS.dmulS X35.here hx rfl (hb hby d4_38) rfl Du36.nn rfl kq) ?_
  obtain ⟨uu36, huu36⟩ : ∃ z0, z0 = (FP.dmul rt (4604930618986332160 : UInt64)) := ⟨_, rfl⟩
  rw [← huu36]
  rw [← huu36] at Du36
  clear huu36
  refine own_to T35 (mkF m 40 #[.val (.ref a1), .val (.int x1), .val (.int x2)] [(.ref a1), (.double uu36), (.ref a1)]) (fun tq kq => XS.aloadN X35.here hx rfl (hb hby d4_39) rfl rfl kq) ?_
  obtain ⟨T37, X37, e37, st37⟩ := getF X35 hx hZ hown (host := "") (Or.inl (own_w hw 21 rfl)) Via.refl e35 f30 (g := (mkF m 40 #[.val (.ref a1), .val (.int x1), .val (.int x2)] [(.ref a1), (.double uu36), (.ref a1)])) rfl rfl (hb hby d4_40)
  refine own_to T37 (mkF m 43 #[.val (.ref a1), .val (.int x1), .val (.int x2)] [(.int tk), (.double uu36), (.ref a1)]) (fun tq kq => st37 _ kq) ?_
  have Du38 : Dy ti 0 (FP.i2d tk) := Dy.cast hti (Dy.of_i2d tk)
  refine own_to T37 (mkF m 44 #[.val (.ref a1), .val (.int x1), .val (.int x2)] [(.double (FP.i2d tk)), (.double uu36), (.ref a1)]) (fun tq kq => XS.i2dS X37.here hx rfl (hb hby d4_43) rfl rfl kq) ?_
  obtain ⟨uu38, huu38⟩ : ∃ z0, z0 = (FP.i2d tk) := ⟨_, rfl⟩
  rw [← huu38]
  rw [← huu38] at Du38
  clear huu38
  have d40 : Dy (ti * 16) 4 uu38 := Dy.up 4 Du38
  have Du39 : Dy ((t' * 3) + (ti * 16)) 4 (FP.dadd uu36 uu38) := Dy.add Du36 d40 (by decide) (by omega)
  refine own_to T37 (mkF m 45 #[.val (.ref a1), .val (.int x1), .val (.int x2)] [(.double (FP.dadd uu36 uu38)), (.ref a1)]) (fun tq kq => XS.daddS X37.here hx rfl (hb hby d4_44) rfl Du39.nn rfl kq) ?_
  obtain ⟨uu39, huu39⟩ : ∃ z0, z0 = (FP.dadd uu36 uu38) := ⟨_, rfl⟩
  rw [← huu39]
  rw [← huu39] at Du39
  clear huu39
  obtain ⟨T41, h41, X41, e41, W41, st41⟩ := putF X37 hx hZ hown (host := "") (Or.inl (own_w hw 35 rfl)) Via.refl e37 f27 f24 (Or.inl (own_w hw 36 rfl)) (own_w hw 4 rfl) (ty := .double) (by decide) rfl rfl (g := (mkF m 45 #[.val (.ref a1), .val (.int x1), .val (.int x2)] [(.double uu39), (.ref a1)])) rfl rfl (hb hby d4_45)
  have f42 := f24.wr W41
  have f43 := f25.other W41 (Or.inr (sn_values_rowsTaken hw))
  have f44 := f26.other W41 (Or.inr (sn_only_rowsTaken hw))
  have f45 := f28.other W41 (Or.inr (sn_valueBytes_rowsTaken hw))
  have f46 := f29.other W41 (Or.inr (sn_rowsRead_rowsTaken hw))
  have f47 := f34.other W41 (Or.inr (sn_rowsWanted_rowsTaken hw))
  have f48 := f30.other W41 (Or.inr (sn_takenSince_rowsTaken hw))
  have f49 := f31.other W41 (Or.inr (sn_bytesSince_rowsTaken hw))
  have f50 := f32.wr W41
  have f51 := f33.wr W41
  have f52 := f27.same W41
  have N41 := Fr.snoc X41 N23 g_a1
  have Zs41 : n0 ≤ h41.size := by rw [W41.size]; exact Zs23
  have K41 := K23.wr W41 (Or.inl (List.mem_of_getElem? (i := 0) rfl))
  refine own_to T41 (mkF m 50 #[.val (.ref a1), .val (.int x1), .val (.int x2)] [(.ref a1), (.ref a1)]) (fun tq kq => st41 _ (XS.aloadN X41.here hx rfl (hb hby d4_48) rfl rfl (XS.aloadN X41.here hx rfl (hb hby d4_49) rfl rfl kq))) ?_
  obtain ⟨T53, X53, e53, st53⟩ := getF X41 hx hZ hown (host := "") (Or.inl (own_w hw 37 rfl)) Via.refl e41 f45 (g := (mkF m 50 #[.val (.ref a1), .val (.int x1), .val (.int x2)] [(.ref a1), (.ref a1)])) rfl rfl (hb hby d4_50)
  refine own_to T53 (mkF m 56 #[.val (.ref a1), .val (.int x1), .val (.int x2)] [(.double (4604930618986332160 : UInt64)), (.double vb), (.ref a1)]) (fun tq kq => st53 _ (X53.ldc2DoubleC hx hown (mvT hZ (own_w hw 32 rfl)) (g := (mkF m 53 #[.val (.ref a1), .val (.int x1), .val (.int x2)] [(.double vb), (.ref a1)])) rfl (hb hby d4_53) _ kq)) ?_
  have Du54 : Dy (v' * 3) 4 (FP.dmul vb (4604930618986332160 : UInt64)) := Dy.mul Hv own_threeq (by decide) (by omega)
  refine own_to T53 (mkF m 57 #[.val (.ref a1), .val (.int x1), .val (.int x2)] [(.double (FP.dmul vb (4604930618986332160 : UInt64))), (.ref a1)]) (fun tq kq => XS.dmulS X53.here hx rfl (hb hby d4_56) rfl Du54.nn rfl kq) ?_
  obtain ⟨uu54, huu54⟩ : ∃ z0, z0 = (FP.dmul vb (4604930618986332160 : UInt64)) := ⟨_, rfl⟩
  rw [← huu54]
  rw [← huu54] at Du54
  clear huu54
  refine own_to T53 (mkF m 58 #[.val (.ref a1), .val (.int x1), .val (.int x2)] [(.ref a1), (.double uu54), (.ref a1)]) (fun tq kq => XS.aloadN X53.here hx rfl (hb hby d4_57) rfl rfl kq) ?_
  obtain ⟨T55, X55, e55, st55⟩ := getF X53 hx hZ hown (host := "") (Or.inl (own_w hw 23 rfl)) Via.refl e53 f49 (g := (mkF m 58 #[.val (.ref a1), .val (.int x1), .val (.int x2)] [(.ref a1), (.double uu54), (.ref a1)])) rfl rfl (hb hby d4_58)
  refine own_to T55 (mkF m 61 #[.val (.ref a1), .val (.int x1), .val (.int x2)] [(.long bs), (.double uu54), (.ref a1)]) (fun tq kq => st55 _ kq) ?_
  have Du56 : Dy bi 0 (FP.l2d bs) := Dy.cast hbi (Dy.of_l2d bs (by rw [hbi]; omega))
  refine own_to T55 (mkF m 62 #[.val (.ref a1), .val (.int x1), .val (.int x2)] [(.double (FP.l2d bs)), (.double uu54), (.ref a1)]) (fun tq kq => XS.l2dS X55.here hx rfl (hb hby d4_61) rfl rfl kq) ?_
  obtain ⟨uu56, huu56⟩ : ∃ z0, z0 = (FP.l2d bs) := ⟨_, rfl⟩
  rw [← huu56]
  rw [← huu56] at Du56
  clear huu56
  have d58 : Dy (bi * 16) 4 uu56 := Dy.up 4 Du56
  have Du57 : Dy ((v' * 3) + (bi * 16)) 4 (FP.dadd uu54 uu56) := Dy.add Du54 d58 (by decide) (by omega)
  refine own_to T55 (mkF m 63 #[.val (.ref a1), .val (.int x1), .val (.int x2)] [(.double (FP.dadd uu54 uu56)), (.ref a1)]) (fun tq kq => XS.daddS X55.here hx rfl (hb hby d4_62) rfl Du57.nn rfl kq) ?_
  obtain ⟨uu57, huu57⟩ : ∃ z0, z0 = (FP.dadd uu54 uu56) := ⟨_, rfl⟩
  rw [← huu57]
  rw [← huu57] at Du57
  clear huu57
  obtain ⟨T59, h59, X59, e59, W59, st59⟩ := putF X55 hx hZ hown (host := "") (Or.inl (own_w hw 37 rfl)) Via.refl e55 f45 f42 (Or.inl (own_w hw 38 rfl)) (own_w hw 4 rfl) (ty := .double) (by decide) rfl rfl (g := (mkF m 63 #[.val (.ref a1), .val (.int x1), .val (.int x2)] [(.double uu57), (.ref a1)])) rfl rfl (hb hby d4_63)
  have f60 := f42.wr W59
  have f61 := f43.other W59 (Or.inr (sn_values_valueBytes hw))
  have f62 := f44.other W59 (Or.inr (sn_only_valueBytes hw))
  have f63 := f52.other W59 (Or.inr (sn_rowsTaken_valueBytes hw))
  have f64 := f46.other W59 (Or.inr (sn_rowsRead_valueBytes hw))
  have f65 := f47.other W59 (Or.inr (sn_rowsWanted_valueBytes hw))
  have f66 := f48.other W59 (Or.inr (sn_takenSince_valueBytes hw))
  have f67 := f49.other W59 (Or.inr (sn_bytesSince_valueBytes hw))
  have f68 := f50.wr W59
  have f69 := f51.wr W59
  have f70 := f45.same W59
  have N59 := Fr.snoc X59 N41 g_a1
  have Zs59 : n0 ≤ h59.size := by rw [W59.size]; exact Zs41
  have K59 := K41.wr W59 (Or.inl (List.mem_of_getElem? (i := 0) rfl))
  refine own_to T59 (mkF m 68 #[.val (.ref a1), .val (.int x1), .val (.int x2)] [(.int (0 : Int32)), (.ref a1)]) (fun tq kq => st59 _ (XS.aloadN X59.here hx rfl (hb hby d4_66) rfl rfl (XS.iconst X59.here hx rfl (hb hby d4_67) kq))) ?_
  obtain ⟨T71, h71, X71, e71, W71, st71⟩ := putF X59 hx hZ hown (host := "") (Or.inl (own_w hw 21 rfl)) Via.refl e59 f66 f60 (Or.inl (own_w hw 22 rfl)) (own_w hw 4 rfl) (ty := .int) (by decide) rfl rfl (g := (mkF m 68 #[.val (.ref a1), .val (.int x1), .val (.int x2)] [(.int (0 : Int32)), (.ref a1)])) rfl rfl (hb hby d4_68)
  have f72 := f60.wr W71
  have f73 := f61.other W71 (Or.inr (sn_values_takenSince hw))
  have f74 := f62.other W71 (Or.inr (sn_only_takenSince hw))
  have f75 := f63.other W71 (Or.inr (sn_rowsTaken_takenSince hw))
  have f76 := f70.other W71 (Or.inr (sn_valueBytes_takenSince hw))
  have f77 := f64.other W71 (Or.inr (sn_rowsRead_takenSince hw))
  have f78 := f65.other W71 (Or.inr (sn_rowsWanted_takenSince hw))
  have f79 := f67.other W71 (Or.inr (sn_bytesSince_takenSince hw))
  have f80 := f68.wr W71
  have f81 := f69.wr W71
  have f82 := f66.same W71
  have N71 := Fr.snoc X71 N59 g_a1
  have Zs71 : n0 ≤ h71.size := by rw [W71.size]; exact Zs59
  have K71 := K59.wr W71 (Or.inl (List.mem_of_getElem? (i := 0) rfl))
  refine own_to T71 (mkF m 73 #[.val (.ref a1), .val (.int x1), .val (.int x2)] [(.long (0 : Int64)), (.ref a1)]) (fun tq kq => st71 _ (XS.aloadN X71.here hx rfl (hb hby d4_71) rfl rfl (XS.lconst X71.here hx rfl (hb hby d4_72) kq))) ?_
  obtain ⟨T83, h83, X83, e83, W83, st83⟩ := putF X71 hx hZ hown (host := "") (Or.inl (own_w hw 23 rfl)) Via.refl e71 f79 f72 (Or.inl (own_w hw 24 rfl)) (own_w hw 4 rfl) (ty := .long) (by decide) rfl rfl (g := (mkF m 73 #[.val (.ref a1), .val (.int x1), .val (.int x2)] [(.long (0 : Int64)), (.ref a1)])) rfl rfl (hb hby d4_73)
  have f84 := f72.wr W83
  have f85 := f73.other W83 (Or.inr (sn_values_bytesSince hw))
  have f86 := f74.other W83 (Or.inr (sn_only_bytesSince hw))
  have f87 := f75.other W83 (Or.inr (sn_rowsTaken_bytesSince hw))
  have f88 := f76.other W83 (Or.inr (sn_valueBytes_bytesSince hw))
  have f89 := f77.other W83 (Or.inr (sn_rowsRead_bytesSince hw))
  have f90 := f78.other W83 (Or.inr (sn_rowsWanted_bytesSince hw))
  have f91 := f82.other W83 (Or.inr (sn_takenSince_bytesSince hw))
  have f92 := f80.wr W83
  have f93 := f81.wr W83
  have f94 := f79.same W83
  have N83 := Fr.snoc X83 N71 g_a1
  have Zs83 : n0 ≤ h83.size := by rw [W83.size]; exact Zs71
  have K83 := K71.wr W83 (Or.inl (List.mem_of_getElem? (i := 0) rfl))
  refine own_to T83 (mkF m 76 #[.val (.ref a1), .val (.int x1), .val (.int x2)] []) (fun tq kq => st83 _ kq) ?_
  exact own_retV X83 hx hret hlk (hb hby d4_76) (by decide) (by decide) (by rw [e83]; exact ⟨rfl, N83, K83, uu39, uu57, uu4, uu21, ⟨f84, f85, f86, f87, f88, f89, f90, f91, f94, f92, f93⟩, Du39, Du57, Du4, Du21⟩)
theorem own_d0 : Dy 0 4 FP.dconst0 := by
  have h : FP.dconst0 = 0 := by decide +kernel
  rw [h]
  exact Dy.cast (by decide) (Dy.up 4 own_zero)
theorem own_eq0 {a : UInt64} (h : Dy 0 4 a) : cmpValue (FP.dcmp a FP.dconst0) .l = (0 : Int32) := by rw [Dy.cmp h own_d0]; decide
theorem own_gt {m : Nat} {a : UInt64} (h : Dy ((2 ^ m : Nat) : Int) 4 a) : cmpValue (FP.dcmp a FP.dconst0) .l = (1 : Int32) := by
  rw [Dy.cmp h own_d0]
  have q := Nat.two_pow_pos m
  rw [show compare ((2 ^ m : Nat) : Int) 0 = .gt from by
    have h1 : ¬ (((2 ^ m : Nat) : Int) < 0) := by omega
    have h2 : ¬ (((2 ^ m : Nat) : Int) = 0) := by omega
    simp only [compare, compareOfLessAndEq, h1, h2, if_false]]
  rfl
theorem d5_0 : decode prog_102_method_2_code 0 = .ok (.aload_n 0, 1) := by decide +kernel
theorem d5_1 : decode prog_102_method_2_code 1 = .ok (.getfield 13, 3) := by decide +kernel
theorem d5_4 : decode prog_102_method_2_code 4 = .ok (.ifnull 8, 3) := by decide +kernel
theorem d5_7 : decode prog_102_method_2_code 7 = .ok (.aload_n 0, 1) := by decide +kernel
theorem d5_8 : decode prog_102_method_2_code 8 = .ok (.getfield 13, 3) := by decide +kernel
theorem d5_11 : decode prog_102_method_2_code 11 = .ok (.areturn, 1) := by decide +kernel
theorem d5_12 : decode prog_102_method_2_code 12 = .ok (.aload_n 0, 1) := by decide +kernel
theorem d5_13 : decode prog_102_method_2_code 13 = .ok (.getfield 17, 3) := by decide +kernel
theorem d5_16 : decode prog_102_method_2_code 16 = .ok (.dconst 0, 1) := by decide +kernel
theorem d5_17 : decode prog_102_method_2_code 17 = .ok (.dcmp .l, 1) := by decide +kernel
theorem d5_18 : decode prog_102_method_2_code 18 = .ok (.ifCond .ne 7, 3) := by decide +kernel
theorem d5_21 : decode prog_102_method_2_code 21 = .ok (.getstatic 21, 3) := by decide +kernel
theorem d5_24 : decode prog_102_method_2_code 24 = .ok (.areturn, 1) := by decide +kernel
theorem d5_25 : decode prog_102_method_2_code 25 = .ok (.aload_n 0, 1) := by decide +kernel
theorem d5_26 : decode prog_102_method_2_code 26 = .ok (.getfield 26, 3) := by decide +kernel
theorem d5_29 : decode prog_102_method_2_code 29 = .ok (.aload_n 0, 1) := by decide +kernel
theorem d5_30 : decode prog_102_method_2_code 30 = .ok (.getfield 17, 3) := by decide +kernel
theorem d5_33 : decode prog_102_method_2_code 33 = .ok (.ddiv, 1) := by decide +kernel
theorem d5_34 : decode prog_102_method_2_code 34 = .ok (.ldc2_w 29, 3) := by decide +kernel
theorem d5_37 : decode prog_102_method_2_code 37 = .ok (.aload_n 0, 1) := by decide +kernel
theorem d5_38 : decode prog_102_method_2_code 38 = .ok (.getfield 7, 3) := by decide +kernel
theorem d5_41 : decode prog_102_method_2_code 41 = .ok (.i2d, 1) := by decide +kernel
theorem d5_42 : decode prog_102_method_2_code 42 = .ok (.dmul, 1) := by decide +kernel
theorem d5_43 : decode prog_102_method_2_code 43 = .ok (.dadd, 1) := by decide +kernel
theorem d5_44 : decode prog_102_method_2_code 44 = .ok (.dstore_n 1, 1) := by decide +kernel
theorem d5_45 : decode prog_102_method_2_code 45 = .ok (.aload_n 0, 1) := by decide +kernel
theorem d5_46 : decode prog_102_method_2_code 46 = .ok (.getfield 31, 3) := by decide +kernel
theorem d5_49 : decode prog_102_method_2_code 49 = .ok (.aload_n 0, 1) := by decide +kernel
theorem d5_50 : decode prog_102_method_2_code 50 = .ok (.getfield 34, 3) := by decide +kernel
theorem d5_53 : decode prog_102_method_2_code 53 = .ok (.dsub, 1) := by decide +kernel
theorem d5_54 : decode prog_102_method_2_code 54 = .ok (.dload_n 1, 1) := by decide +kernel
theorem d5_55 : decode prog_102_method_2_code 55 = .ok (.dmul, 1) := by decide +kernel
theorem d5_56 : decode prog_102_method_2_code 56 = .ok (.dstore_n 3, 1) := by decide +kernel
theorem d5_57 : decode prog_102_method_2_code 57 = .ok (.dload_n 3, 1) := by decide +kernel
theorem d5_58 : decode prog_102_method_2_code 58 = .ok (.aload_n 0, 1) := by decide +kernel
theorem d5_59 : decode prog_102_method_2_code 59 = .ok (.getfield 34, 3) := by decide +kernel
theorem d5_62 : decode prog_102_method_2_code 62 = .ok (.ldc2_w 37, 3) := by decide +kernel
theorem d5_65 : decode prog_102_method_2_code 65 = .ok (.dmul, 1) := by decide +kernel
theorem d5_66 : decode prog_102_method_2_code 66 = .ok (.dcmp .l, 1) := by decide +kernel
theorem d5_67 : decode prog_102_method_2_code 67 = .ok (.ifCond .le 9, 3) := by decide +kernel
theorem d5_70 : decode prog_102_method_2_code 70 = .ok (.getstatic 39, 3) := by decide +kernel
theorem d5_73 : decode prog_102_method_2_code 73 = .ok (.goto 6, 3) := by decide +kernel
theorem d5_76 : decode prog_102_method_2_code 76 = .ok (.getstatic 21, 3) := by decide +kernel
theorem d5_79 : decode prog_102_method_2_code 79 = .ok (.areturn, 1) := by decide +kernel
theorem ef_5_R (m : MethodId) (x0 : Addr) : entryFrame m #[(.ref x0)] 5 = mkF m 0 #[.val (.ref x0), .unset, .unset, .unset, .unset] [] := by first | (simp [entryFrame, mkF, argsToLocals, Value.category]; done) | rfl
def Q_rm_next0 (Z : State) (a1 kk ro : Addr) (vl tk : Int32) (bs : Int64) (rt vb rr rw : UInt64) (h0 : Heap) (n0 : Nat) (v : Option Value) (h : Heap) (L : List Loc) : Prop := v = some (.ref ro) ∧ Fr n0 L ∧ h = h0
set_option maxRecDepth 65536 in
set_option maxHeartbeats 40000000 in
theorem rm_next0 (l : Launch) (Z : State) (a0 : Array Value) (hw : ∀ d ∈ tables_1, d.before a0 Z = true) (ws : List Jvm.Cond) (a1 kk ro : Addr) (vl tk : Int32) (bs : Int64) (rt vb rr rw : UInt64) (h0 : Heap) (n0 : Nat) (Z0 : n0 ≤ h0.size) (U : PRd Z h0 a1 kk ro vl tk bs rt vb rr rw) (Ht : Dy 0 4 rt) :
    MetFree l (⟨"com/example/warmjoin/warmjoin/PageReadings", "next", "()Lcom/example/warmjoin/warmjoin/PageReadings$Way;"⟩ : MethodName) (head1 (Jvm.Cond.code (⟨"com/example/warmjoin/warmjoin/PageReadings", "next", "()Lcom/example/warmjoin/warmjoin/PageReadings$Way;"⟩ : MethodName) prog_102_method_2_code 5 (some (.object "com/example/warmjoin/warmjoin/PageReadings$Way")) :: ws) ({ frames := 0, cells := 0, slots := 0, locals := 0 } : Room)) (fun a U => a = #[(.ref a1)] ∧ Z.Warmed39 U.vm ∧ U.heap = h0) (fun _ _ _ _ _ => True) (fun _ U o U' => ∃ v L, o = .returned v ∧ Q_rm_next0 Z a1 kk ro vl tk bs rt vb rr rw h0 n0 v U'.heap L ∧ FrameEnd U o U' L ({ frames := 0, cells := 0, slots := 0, locals := 0 } : Room).cells ({ frames := 0, cells := 0, slots := 0, locals := 0 } : Room).slots) := by
  refine own_met (y := (⟨"com/example/warmjoin/warmjoin/PageReadings", "next", "()Lcom/example/warmjoin/warmjoin/PageReadings$Way;"⟩ : MethodName)) (Q := (Q_rm_next0 Z a1 kk ro vl tk bs rt vb rr rw h0 n0)) (plainFor_of_name pn_1) fun p e s m below meth c s₁ X0 hx hby hml hret hlk hown hnm hZ e0 => ?_
  refine own_entry (ef_5_R m a1) ?_
  obtain ⟨E1, F0, F1, F2, F3, F4, F5, F6, F7, SK, SR⟩ := U
  refine own_to s₁ (mkF m 1 #[.val (.ref a1), .unset, .unset, .unset, .unset] [(.ref a1)]) (fun tq kq => XS.aloadN X0.here hx rfl (hb hby d5_0) rfl rfl kq) ?_
  obtain ⟨T1, X1, e1, st1⟩ := getF X0 hx hZ hown (host := "") (Or.inl (own_w hw 14 rfl)) Via.refl e0 F1 (g := (mkF m 1 #[.val (.ref a1), .unset, .unset, .unset, .unset] [(.ref a1)])) rfl rfl (hb hby d5_1)
  refine own_to T1 (mkF m 13 #[.val (.ref a1), .unset, .unset, .unset, .unset] [(.ref a1)]) (fun tq kq => st1 _ (XS.ifnullYes X1.here hx rfl (pc0 := 4) (pc' := 12) rfl (hb hby d5_4) rfl (by decide) (by decide) (XS.aloadN X1.here hx rfl (hb hby d5_12) rfl rfl kq))) ?_
  obtain ⟨T2, X2, e2, st2⟩ := getF X1 hx hZ hown (host := "") (Or.inl (own_w hw 35 rfl)) Via.refl e1 F2 (g := (mkF m 13 #[.val (.ref a1), .unset, .unset, .unset, .unset] [(.ref a1)])) rfl rfl (hb hby d5_13)
  refine own_to T2 (mkF m 18 #[.val (.ref a1), .unset, .unset, .unset, .unset] [(.int (cmpValue (FP.dcmp rt FP.dconst0) .l))]) (fun tq kq => st2 _ (XS.dconst0 X2.here hx rfl (hb hby d5_16) rfl (XS.dcmpS X2.here hx rfl (hb hby d5_17) rfl rfl kq))) ?_
  rw [show cmpValue (FP.dcmp rt FP.dconst0) .l = (0 : Int32) from own_eq0 Ht]
  refine own_to T2 (mkF m 21 #[.val (.ref a1), .unset, .unset, .unset, .unset] []) (fun tq kq => XS.ifNo X2.here hx rfl (hb hby d5_18) rfl ((if0 _ _).trans (teq (by decide : (0 : Int32) = (0 : Int32))).2) kq) ?_
  obtain ⟨T3, X3, e3, st3⟩ := getS2 X2 hx hZ hown (host := "") (Or.inl (own_w hw 54 rfl)) Via.refl e2 SR (g := (mkF m 21 #[.val (.ref a1), .unset, .unset, .unset, .unset] [])) rfl (hb hby d5_21)
  refine own_to T3 (mkF m 24 #[.val (.ref a1), .unset, .unset, .unset, .unset] [(.ref ro)]) (fun tq kq => st3 _ kq) ?_
  exact own_retA X3 hx hret hlk rfl rfl (hb hby d5_24) (by decide) (by decide) ⟨rfl, (Fr.nil n0), e3⟩
def Q_rm_next4kk (Z : State) (a1 kk ro : Addr) (vl tk : Int32) (bs : Int64) (rt vb rr rw : UInt64) (r w' v' : Int) (h0 : Heap) (n0 : Nat) (v : Option Value) (h : Heap) (L : List Loc) : Prop := v = some (.ref kk) ∧ Fr n0 L ∧ h = h0
set_option maxRecDepth 65536 in
set_option maxHeartbeats 40000000 in
theorem rm_next4kk (l : Launch) (Z : State) (a0 : Array Value) (hw : ∀ d ∈ tables_1, d.before a0 Z = true) (ws : List Jvm.Cond) (a1 kk ro : Addr) (vl tk : Int32) (bs : Int64) (rt vb rr rw : UInt64) (r w' v' : Int) (h0 : Heap) (n0 : Nat) (Z0 : n0 ≤ h0.size) (U : PRd Z h0 a1 kk ro vl tk bs rt vb rr rw) (Hr : Dy r 4 rr) (Hw : Dy w' 4 rw) (Ht : Dy ((2 ^ 4 : Nat) : Int) 4 rt) (Hv : Dy v' 4 vb) (hr' : (r - w').natAbs ≤ 67108864) (hw' : w'.natAbs ≤ 67108864) (hv' : v'.natAbs ≤ 67108864) (hvl : 0 ≤ vl.toInt ∧ vl.toInt ≤ 4095) (hc : (w' * 1024) * 16 < (r - w') * (v' + 32 * vl.toInt * 16)) :
    MetFree l (⟨"com/example/warmjoin/warmjoin/PageReadings", "next", "()Lcom/example/warmjoin/warmjoin/PageReadings$Way;"⟩ : MethodName) (head1 (Jvm.Cond.code (⟨"com/example/warmjoin/warmjoin/PageReadings", "next", "()Lcom/example/warmjoin/warmjoin/PageReadings$Way;"⟩ : MethodName) prog_102_method_2_code 5 (some (.object "com/example/warmjoin/warmjoin/PageReadings$Way")) :: ws) ({ frames := 0, cells := 0, slots := 0, locals := 0 } : Room)) (fun a U => a = #[(.ref a1)] ∧ Z.Warmed39 U.vm ∧ U.heap = h0) (fun _ _ _ _ _ => True) (fun _ U o U' => ∃ v L, o = .returned v ∧ Q_rm_next4kk Z a1 kk ro vl tk bs rt vb rr rw r w' v' h0 n0 v U'.heap L ∧ FrameEnd U o U' L ({ frames := 0, cells := 0, slots := 0, locals := 0 } : Room).cells ({ frames := 0, cells := 0, slots := 0, locals := 0 } : Room).slots) := by
  refine own_met (y := (⟨"com/example/warmjoin/warmjoin/PageReadings", "next", "()Lcom/example/warmjoin/warmjoin/PageReadings$Way;"⟩ : MethodName)) (Q := (Q_rm_next4kk Z a1 kk ro vl tk bs rt vb rr rw r w' v' h0 n0)) (plainFor_of_name pn_1) fun p e s m below meth c s₁ X0 hx hby hml hret hlk hown hnm hZ e0 => ?_
  refine own_entry (ef_5_R m a1) ?_
  obtain ⟨E1, F0, F1, F2, F3, F4, F5, F6, F7, SK, SR⟩ := U
  refine own_to s₁ (mkF m 1 #[.val (.ref a1), .unset, .unset, .unset, .unset] [(.ref a1)]) (fun tq kq => XS.aloadN X0.here hx rfl (hb hby d5_0) rfl rfl kq) ?_
  obtain ⟨T1, X1, e1, st1⟩ := getF X0 hx hZ hown (host := "") (Or.inl (own_w hw 14 rfl)) Via.refl e0 F1 (g := (mkF m 1 #[.val (.ref a1), .unset, .unset, .unset, .unset] [(.ref a1)])) rfl rfl (hb hby d5_1)
  refine own_to T1 (mkF m 13 #[.val (.ref a1), .unset, .unset, .unset, .unset] [(.ref a1)]) (fun tq kq => st1 _ (XS.ifnullYes X1.here hx rfl (pc0 := 4) (pc' := 12) rfl (hb hby d5_4) rfl (by decide) (by decide) (XS.aloadN X1.here hx rfl (hb hby d5_12) rfl rfl kq))) ?_
  obtain ⟨T2, X2, e2, st2⟩ := getF X1 hx hZ hown (host := "") (Or.inl (own_w hw 35 rfl)) Via.refl e1 F2 (g := (mkF m 13 #[.val (.ref a1), .unset, .unset, .unset, .unset] [(.ref a1)])) rfl rfl (hb hby d5_13)
  refine own_to T2 (mkF m 18 #[.val (.ref a1), .unset, .unset, .unset, .unset] [(.int (cmpValue (FP.dcmp rt FP.dconst0) .l))]) (fun tq kq => st2 _ (XS.dconst0 X2.here hx rfl (hb hby d5_16) rfl (XS.dcmpS X2.here hx rfl (hb hby d5_17) rfl rfl kq))) ?_
  rw [show cmpValue (FP.dcmp rt FP.dconst0) .l = (1 : Int32) from own_gt Ht]
  refine own_to T2 (mkF m 26 #[.val (.ref a1), .unset, .unset, .unset, .unset] [(.ref a1)]) (fun tq kq => XS.ifYes X2.here hx rfl (pc0 := 18) (pc' := 25) rfl (hb hby d5_18) rfl ((if0 _ _).trans (feq (by decide : ¬ ((1 : Int32) = (0 : Int32)))).2) (by decide) (by decide) (XS.aloadN X2.here hx rfl (hb hby d5_25) rfl rfl kq)) ?_
  obtain ⟨T3, X3, e3, st3⟩ := getF X2 hx hZ hown (host := "") (Or.inl (own_w hw 37 rfl)) Via.refl e2 F3 (g := (mkF m 26 #[.val (.ref a1), .unset, .unset, .unset, .unset] [(.ref a1)])) rfl rfl (hb hby d5_26)
  refine own_to T3 (mkF m 30 #[.val (.ref a1), .unset, .unset, .unset, .unset] [(.ref a1), (.double vb)]) (fun tq kq => st3 _ (XS.aloadN X3.here hx rfl (hb hby d5_29) rfl rfl kq)) ?_
  obtain ⟨T4, X4, e4, st4⟩ := getF X3 hx hZ hown (host := "") (Or.inl (own_w hw 35 rfl)) Via.refl e3 F2 (g := (mkF m 30 #[.val (.ref a1), .unset, .unset, .unset, .unset] [(.ref a1), (.double vb)])) rfl rfl (hb hby d5_30)
  refine own_to T4 (mkF m 33 #[.val (.ref a1), .unset, .unset, .unset, .unset] [(.double rt), (.double vb)]) (fun tq kq => st4 _ kq) ?_
  have Du5 : Dy v' 4 (FP.ddiv vb rt) := Dy.div (m := 4) Hv Ht (by decide) (by omega)
  refine own_to T4 (mkF m 34 #[.val (.ref a1), .unset, .unset, .unset, .unset] [(.double (FP.ddiv vb rt))]) (fun tq kq => XS.ddivS X4.here hx rfl (hb hby d5_33) rfl Du5.nn rfl kq) ?_
  obtain ⟨uu5, huu5⟩ : ∃ z0, z0 = (FP.ddiv vb rt) := ⟨_, rfl⟩
  rw [← huu5]
  rw [← huu5] at Du5
  clear huu5
  refine own_to T4 (mkF m 38 #[.val (.ref a1), .unset, .unset, .unset, .unset] [(.ref a1), (.double (4629700416936869888 : UInt64)), (.double uu5)]) (fun tq kq => X4.ldc2DoubleC hx hown (mvT hZ (own_w hw 44 rfl)) (g := (mkF m 34 #[.val (.ref a1), .unset, .unset, .unset, .unset] [(.double uu5)])) rfl (hb hby d5_34) _ (XS.aloadN X4.here hx rfl (hb hby d5_37) rfl rfl kq)) ?_
  obtain ⟨T6, X6, e6, st6⟩ := getF X4 hx hZ hown (host := "") (Or.inl (own_w hw 12 rfl)) Via.refl e4 F0 (g := (mkF m 38 #[.val (.ref a1), .unset, .unset, .unset, .unset] [(.ref a1), (.double (4629700416936869888 : UInt64)), (.double uu5)])) rfl rfl (hb hby d5_38)
  refine own_to T6 (mkF m 41 #[.val (.ref a1), .unset, .unset, .unset, .unset] [(.int vl), (.double (4629700416936869888 : UInt64)), (.double uu5)]) (fun tq kq => st6 _ kq) ?_
  have Du7 : Dy vl.toInt 0 (FP.i2d vl) := Dy.cast rfl (Dy.of_i2d vl)
  refine own_to T6 (mkF m 42 #[.val (.ref a1), .unset, .unset, .unset, .unset] [(.double (FP.i2d vl)), (.double (4629700416936869888 : UInt64)), (.double uu5)]) (fun tq kq => XS.i2dS X6.here hx rfl (hb hby d5_41) rfl rfl kq) ?_
  obtain ⟨uu7, huu7⟩ : ∃ z0, z0 = (FP.i2d vl) := ⟨_, rfl⟩
  rw [← huu7]
  rw [← huu7] at Du7
  clear huu7
  have Du8 : Dy (32 * vl.toInt) 0 (FP.dmul (4629700416936869888 : UInt64) uu7) := Dy.mul own_32 Du7 (by decide) (by omega)
  refine own_to T6 (mkF m 43 #[.val (.ref a1), .unset, .unset, .unset, .unset] [(.double (FP.dmul (4629700416936869888 : UInt64) uu7)), (.double uu5)]) (fun tq kq => XS.dmulS X6.here hx rfl (hb hby d5_42) rfl Du8.nn rfl kq) ?_
  obtain ⟨uu8, huu8⟩ : ∃ z0, z0 = (FP.dmul (4629700416936869888 : UInt64) uu7) := ⟨_, rfl⟩
  rw [← huu8]
  rw [← huu8] at Du8
  clear huu8
  have d10 : Dy ((32 * vl.toInt) * 16) 4 uu8 := Dy.up 4 Du8
  have Du9 : Dy (v' + ((32 * vl.toInt) * 16)) 4 (FP.dadd uu5 uu8) := Dy.add Du5 d10 (by decide) (by omega)
  refine own_to T6 (mkF m 44 #[.val (.ref a1), .unset, .unset, .unset, .unset] [(.double (FP.dadd uu5 uu8))]) (fun tq kq => XS.daddS X6.here hx rfl (hb hby d5_43) rfl Du9.nn rfl kq) ?_
  obtain ⟨uu9, huu9⟩ : ∃ z0, z0 = (FP.dadd uu5 uu8) := ⟨_, rfl⟩
  rw [← huu9]
  rw [← huu9] at Du9
  clear huu9
  refine own_to T6 (mkF m 46 #[.val (.ref a1), .val (.double uu9), .second, .unset, .unset] [(.ref a1)]) (fun tq kq => XS.dstoreN X6.here hx rfl (hb hby d5_44) rfl (l' := #[.val (.ref a1), .val (.double uu9), .second, .unset, .unset]) rfl (XS.aloadN X6.here hx rfl (hb hby d5_45) rfl rfl kq)) ?_
  obtain ⟨T11, X11, e11, st11⟩ := getF X6 hx hZ hown (host := "") (Or.inl (own_w hw 30 rfl)) Via.refl e6 F4 (g := (mkF m 46 #[.val (.ref a1), .val (.double uu9), .second, .unset, .unset] [(.ref a1)])) rfl rfl (hb hby d5_46)
  refine own_to T11 (mkF m 50 #[.val (.ref a1), .val (.double uu9), .second, .unset, .unset] [(.ref a1), (.double rr)]) (fun tq kq => st11 _ (XS.aloadN X11.here hx rfl (hb hby d5_49) rfl rfl kq)) ?_
  obtain ⟨T12, X12, e12, st12⟩ := getF X11 hx hZ hown (host := "") (Or.inl (own_w hw 33 rfl)) Via.refl e11 F5 (g := (mkF m 50 #[.val (.ref a1), .val (.double uu9), .second, .unset, .unset] [(.ref a1), (.double rr)])) rfl rfl (hb hby d5_50)
  refine own_to T12 (mkF m 53 #[.val (.ref a1), .val (.double uu9), .second, .unset, .unset] [(.double rw), (.double rr)]) (fun tq kq => st12 _ kq) ?_
  have Du13 : Dy (r - w') 4 (FP.dsub rr rw) := Dy.sub Hr Hw (by decide) (by omega)
  refine own_to T12 (mkF m 54 #[.val (.ref a1), .val (.double uu9), .second, .unset, .unset] [(.double (FP.dsub rr rw))]) (fun tq kq => XS.dsubS X12.here hx rfl (hb hby d5_53) rfl Du13.nn rfl kq) ?_
  obtain ⟨uu13, huu13⟩ : ∃ z0, z0 = (FP.dsub rr rw) := ⟨_, rfl⟩
  rw [← huu13]
  rw [← huu13] at Du13
  clear huu13
  refine own_to T12 (mkF m 55 #[.val (.ref a1), .val (.double uu9), .second, .unset, .unset] [(.double uu9), (.double uu13)]) (fun tq kq => XS.dloadN X12.here hx rfl (hb hby d5_54) rfl kq) ?_
  have Du14 : Dy ((r - w') * (v' + ((32 * vl.toInt) * 16))) 8 (FP.dmul uu13 uu9) := Dy.mul Du13 Du9 (by decide) (own_nm (by omega) (by omega))
  refine own_to T12 (mkF m 56 #[.val (.ref a1), .val (.double uu9), .second, .unset, .unset] [(.double (FP.dmul uu13 uu9))]) (fun tq kq => XS.dmulS X12.here hx rfl (hb hby d5_55) rfl Du14.nn rfl kq) ?_
  obtain ⟨uu14, huu14⟩ : ∃ z0, z0 = (FP.dmul uu13 uu9) := ⟨_, rfl⟩
  rw [← huu14]
  rw [← huu14] at Du14
  clear huu14
  refine own_to T12 (mkF m 59 #[.val (.ref a1), .val (.double uu9), .second, .val (.double uu14), .second] [(.ref a1), (.double uu14)]) (fun tq kq => XS.dstoreN X12.here hx rfl (hb hby d5_56) rfl (l' := #[.val (.ref a1), .val (.double uu9), .second, .val (.double uu14), .second]) rfl (XS.dloadN X12.here hx rfl (hb hby d5_57) rfl (XS.aloadN X12.here hx rfl (hb hby d5_58) rfl rfl kq))) ?_
  obtain ⟨T15, X15, e15, st15⟩ := getF X12 hx hZ hown (host := "") (Or.inl (own_w hw 33 rfl)) Via.refl e12 F5 (g := (mkF m 59 #[.val (.ref a1), .val (.double uu9), .second, .val (.double uu14), .second] [(.ref a1), (.double uu14)])) rfl rfl (hb hby d5_59)
  refine own_to T15 (mkF m 65 #[.val (.ref a1), .val (.double uu9), .second, .val (.double uu14), .second] [(.double (4652218415073722368 : UInt64)), (.double rw), (.double uu14)]) (fun tq kq => st15 _ (X15.ldc2DoubleC hx hown (mvT hZ (own_w hw 45 rfl)) (g := (mkF m 62 #[.val (.ref a1), .val (.double uu9), .second, .val (.double uu14), .second] [(.double rw), (.double uu14)])) rfl (hb hby d5_62) _ kq)) ?_
  have Du16 : Dy (w' * 1024) 4 (FP.dmul rw (4652218415073722368 : UInt64)) := Dy.mul Hw own_1024 (by decide) (by omega)
  refine own_to T15 (mkF m 66 #[.val (.ref a1), .val (.double uu9), .second, .val (.double uu14), .second] [(.double (FP.dmul rw (4652218415073722368 : UInt64))), (.double uu14)]) (fun tq kq => XS.dmulS X15.here hx rfl (hb hby d5_65) rfl Du16.nn rfl kq) ?_
  obtain ⟨uu16, huu16⟩ : ∃ z0, z0 = (FP.dmul rw (4652218415073722368 : UInt64)) := ⟨_, rfl⟩
  rw [← huu16]
  rw [← huu16] at Du16
  clear huu16
  refine own_to T15 (mkF m 67 #[.val (.ref a1), .val (.double uu9), .second, .val (.double uu14), .second] [(.int (cmpValue (FP.dcmp uu14 uu16) .l))]) (fun tq kq => XS.dcmpS X15.here hx rfl (hb hby d5_66) rfl rfl kq) ?_
  have Dup : Dy ((w' * 1024) * 16) 8 uu16 := Dy.up 4 Du16
  have hcv : ((0 : Int32) < (cmpValue (FP.dcmp uu14 uu16) .l)) ↔ ((w' * 1024) * 16) < ((r - w') * (v' + ((32 * vl.toInt) * 16))) := by rw [Dy.cmp Du14 Dup]; exact own_cv _ _
  refine own_to T15 (mkF m 70 #[.val (.ref a1), .val (.double uu9), .second, .val (.double uu14), .second] []) (fun tq kq => XS.ifNo X15.here hx rfl (hb hby d5_67) rfl ((if0 _ _).trans (tlt (hcv.mpr hc)).2.2.2) kq) ?_
  obtain ⟨T17, X17, e17, st17⟩ := getS2 X15 hx hZ hown (host := "") (Or.inl (own_w hw 46 rfl)) Via.refl e15 SK (g := (mkF m 70 #[.val (.ref a1), .val (.double uu9), .second, .val (.double uu14), .second] [])) rfl (hb hby d5_70)
  refine own_to T17 (mkF m 79 #[.val (.ref a1), .val (.double uu9), .second, .val (.double uu14), .second] [(.ref kk)]) (fun tq kq => st17 _ (XS.goto X17.here hx rfl (pc0 := 73) (pc' := 79) rfl (hb hby d5_73) (by decide) (by decide) kq)) ?_
  exact own_retA X17 hx hret hlk rfl rfl (hb hby d5_79) (by decide) (by decide) ⟨rfl, (Fr.nil n0), e17⟩
def Q_rm_next4ro (Z : State) (a1 kk ro : Addr) (vl tk : Int32) (bs : Int64) (rt vb rr rw : UInt64) (r w' v' : Int) (h0 : Heap) (n0 : Nat) (v : Option Value) (h : Heap) (L : List Loc) : Prop := v = some (.ref ro) ∧ Fr n0 L ∧ h = h0
set_option maxRecDepth 65536 in
set_option maxHeartbeats 40000000 in
theorem rm_next4ro (l : Launch) (Z : State) (a0 : Array Value) (hw : ∀ d ∈ tables_1, d.before a0 Z = true) (ws : List Jvm.Cond) (a1 kk ro : Addr) (vl tk : Int32) (bs : Int64) (rt vb rr rw : UInt64) (r w' v' : Int) (h0 : Heap) (n0 : Nat) (Z0 : n0 ≤ h0.size) (U : PRd Z h0 a1 kk ro vl tk bs rt vb rr rw) (Hr : Dy r 4 rr) (Hw : Dy w' 4 rw) (Ht : Dy ((2 ^ 4 : Nat) : Int) 4 rt) (Hv : Dy v' 4 vb) (hr' : (r - w').natAbs ≤ 67108864) (hw' : w'.natAbs ≤ 67108864) (hv' : v'.natAbs ≤ 67108864) (hvl : 0 ≤ vl.toInt ∧ vl.toInt ≤ 4095) (hc : ¬ (w' * 1024) * 16 < (r - w') * (v' + 32 * vl.toInt * 16)) :
    MetFree l (⟨"com/example/warmjoin/warmjoin/PageReadings", "next", "()Lcom/example/warmjoin/warmjoin/PageReadings$Way;"⟩ : MethodName) (head1 (Jvm.Cond.code (⟨"com/example/warmjoin/warmjoin/PageReadings", "next", "()Lcom/example/warmjoin/warmjoin/PageReadings$Way;"⟩ : MethodName) prog_102_method_2_code 5 (some (.object "com/example/warmjoin/warmjoin/PageReadings$Way")) :: ws) ({ frames := 0, cells := 0, slots := 0, locals := 0 } : Room)) (fun a U => a = #[(.ref a1)] ∧ Z.Warmed39 U.vm ∧ U.heap = h0) (fun _ _ _ _ _ => True) (fun _ U o U' => ∃ v L, o = .returned v ∧ Q_rm_next4ro Z a1 kk ro vl tk bs rt vb rr rw r w' v' h0 n0 v U'.heap L ∧ FrameEnd U o U' L ({ frames := 0, cells := 0, slots := 0, locals := 0 } : Room).cells ({ frames := 0, cells := 0, slots := 0, locals := 0 } : Room).slots) := by
  refine own_met (y := (⟨"com/example/warmjoin/warmjoin/PageReadings", "next", "()Lcom/example/warmjoin/warmjoin/PageReadings$Way;"⟩ : MethodName)) (Q := (Q_rm_next4ro Z a1 kk ro vl tk bs rt vb rr rw r w' v' h0 n0)) (plainFor_of_name pn_1) fun p e s m below meth c s₁ X0 hx hby hml hret hlk hown hnm hZ e0 => ?_
  refine own_entry (ef_5_R m a1) ?_
  obtain ⟨E1, F0, F1, F2, F3, F4, F5, F6, F7, SK, SR⟩ := U
  refine own_to s₁ (mkF m 1 #[.val (.ref a1), .unset, .unset, .unset, .unset] [(.ref a1)]) (fun tq kq => XS.aloadN X0.here hx rfl (hb hby d5_0) rfl rfl kq) ?_
  obtain ⟨T1, X1, e1, st1⟩ := getF X0 hx hZ hown (host := "") (Or.inl (own_w hw 14 rfl)) Via.refl e0 F1 (g := (mkF m 1 #[.val (.ref a1), .unset, .unset, .unset, .unset] [(.ref a1)])) rfl rfl (hb hby d5_1)
  refine own_to T1 (mkF m 13 #[.val (.ref a1), .unset, .unset, .unset, .unset] [(.ref a1)]) (fun tq kq => st1 _ (XS.ifnullYes X1.here hx rfl (pc0 := 4) (pc' := 12) rfl (hb hby d5_4) rfl (by decide) (by decide) (XS.aloadN X1.here hx rfl (hb hby d5_12) rfl rfl kq))) ?_
  obtain ⟨T2, X2, e2, st2⟩ := getF X1 hx hZ hown (host := "") (Or.inl (own_w hw 35 rfl)) Via.refl e1 F2 (g := (mkF m 13 #[.val (.ref a1), .unset, .unset, .unset, .unset] [(.ref a1)])) rfl rfl (hb hby d5_13)
  refine own_to T2 (mkF m 18 #[.val (.ref a1), .unset, .unset, .unset, .unset] [(.int (cmpValue (FP.dcmp rt FP.dconst0) .l))]) (fun tq kq => st2 _ (XS.dconst0 X2.here hx rfl (hb hby d5_16) rfl (XS.dcmpS X2.here hx rfl (hb hby d5_17) rfl rfl kq))) ?_
  rw [show cmpValue (FP.dcmp rt FP.dconst0) .l = (1 : Int32) from own_gt Ht]
  refine own_to T2 (mkF m 26 #[.val (.ref a1), .unset, .unset, .unset, .unset] [(.ref a1)]) (fun tq kq => XS.ifYes X2.here hx rfl (pc0 := 18) (pc' := 25) rfl (hb hby d5_18) rfl ((if0 _ _).trans (feq (by decide : ¬ ((1 : Int32) = (0 : Int32)))).2) (by decide) (by decide) (XS.aloadN X2.here hx rfl (hb hby d5_25) rfl rfl kq)) ?_
  obtain ⟨T3, X3, e3, st3⟩ := getF X2 hx hZ hown (host := "") (Or.inl (own_w hw 37 rfl)) Via.refl e2 F3 (g := (mkF m 26 #[.val (.ref a1), .unset, .unset, .unset, .unset] [(.ref a1)])) rfl rfl (hb hby d5_26)
  refine own_to T3 (mkF m 30 #[.val (.ref a1), .unset, .unset, .unset, .unset] [(.ref a1), (.double vb)]) (fun tq kq => st3 _ (XS.aloadN X3.here hx rfl (hb hby d5_29) rfl rfl kq)) ?_
  obtain ⟨T4, X4, e4, st4⟩ := getF X3 hx hZ hown (host := "") (Or.inl (own_w hw 35 rfl)) Via.refl e3 F2 (g := (mkF m 30 #[.val (.ref a1), .unset, .unset, .unset, .unset] [(.ref a1), (.double vb)])) rfl rfl (hb hby d5_30)
  refine own_to T4 (mkF m 33 #[.val (.ref a1), .unset, .unset, .unset, .unset] [(.double rt), (.double vb)]) (fun tq kq => st4 _ kq) ?_
  have Du5 : Dy v' 4 (FP.ddiv vb rt) := Dy.div (m := 4) Hv Ht (by decide) (by omega)
  refine own_to T4 (mkF m 34 #[.val (.ref a1), .unset, .unset, .unset, .unset] [(.double (FP.ddiv vb rt))]) (fun tq kq => XS.ddivS X4.here hx rfl (hb hby d5_33) rfl Du5.nn rfl kq) ?_
  obtain ⟨uu5, huu5⟩ : ∃ z0, z0 = (FP.ddiv vb rt) := ⟨_, rfl⟩
  rw [← huu5]
  rw [← huu5] at Du5
  clear huu5
  refine own_to T4 (mkF m 38 #[.val (.ref a1), .unset, .unset, .unset, .unset] [(.ref a1), (.double (4629700416936869888 : UInt64)), (.double uu5)]) (fun tq kq => X4.ldc2DoubleC hx hown (mvT hZ (own_w hw 44 rfl)) (g := (mkF m 34 #[.val (.ref a1), .unset, .unset, .unset, .unset] [(.double uu5)])) rfl (hb hby d5_34) _ (XS.aloadN X4.here hx rfl (hb hby d5_37) rfl rfl kq)) ?_
  obtain ⟨T6, X6, e6, st6⟩ := getF X4 hx hZ hown (host := "") (Or.inl (own_w hw 12 rfl)) Via.refl e4 F0 (g := (mkF m 38 #[.val (.ref a1), .unset, .unset, .unset, .unset] [(.ref a1), (.double (4629700416936869888 : UInt64)), (.double uu5)])) rfl rfl (hb hby d5_38)
  refine own_to T6 (mkF m 41 #[.val (.ref a1), .unset, .unset, .unset, .unset] [(.int vl), (.double (4629700416936869888 : UInt64)), (.double uu5)]) (fun tq kq => st6 _ kq) ?_
  have Du7 : Dy vl.toInt 0 (FP.i2d vl) := Dy.cast rfl (Dy.of_i2d vl)
  refine own_to T6 (mkF m 42 #[.val (.ref a1), .unset, .unset, .unset, .unset] [(.double (FP.i2d vl)), (.double (4629700416936869888 : UInt64)), (.double uu5)]) (fun tq kq => XS.i2dS X6.here hx rfl (hb hby d5_41) rfl rfl kq) ?_
  obtain ⟨uu7, huu7⟩ : ∃ z0, z0 = (FP.i2d vl) := ⟨_, rfl⟩
  rw [← huu7]
  rw [← huu7] at Du7
  clear huu7
  have Du8 : Dy (32 * vl.toInt) 0 (FP.dmul (4629700416936869888 : UInt64) uu7) := Dy.mul own_32 Du7 (by decide) (by omega)
  refine own_to T6 (mkF m 43 #[.val (.ref a1), .unset, .unset, .unset, .unset] [(.double (FP.dmul (4629700416936869888 : UInt64) uu7)), (.double uu5)]) (fun tq kq => XS.dmulS X6.here hx rfl (hb hby d5_42) rfl Du8.nn rfl kq) ?_
  obtain ⟨uu8, huu8⟩ : ∃ z0, z0 = (FP.dmul (4629700416936869888 : UInt64) uu7) := ⟨_, rfl⟩
  rw [← huu8]
  rw [← huu8] at Du8
  clear huu8
  have d10 : Dy ((32 * vl.toInt) * 16) 4 uu8 := Dy.up 4 Du8
  have Du9 : Dy (v' + ((32 * vl.toInt) * 16)) 4 (FP.dadd uu5 uu8) := Dy.add Du5 d10 (by decide) (by omega)
  refine own_to T6 (mkF m 44 #[.val (.ref a1), .unset, .unset, .unset, .unset] [(.double (FP.dadd uu5 uu8))]) (fun tq kq => XS.daddS X6.here hx rfl (hb hby d5_43) rfl Du9.nn rfl kq) ?_
  obtain ⟨uu9, huu9⟩ : ∃ z0, z0 = (FP.dadd uu5 uu8) := ⟨_, rfl⟩
  rw [← huu9]
  rw [← huu9] at Du9
  clear huu9
  refine own_to T6 (mkF m 46 #[.val (.ref a1), .val (.double uu9), .second, .unset, .unset] [(.ref a1)]) (fun tq kq => XS.dstoreN X6.here hx rfl (hb hby d5_44) rfl (l' := #[.val (.ref a1), .val (.double uu9), .second, .unset, .unset]) rfl (XS.aloadN X6.here hx rfl (hb hby d5_45) rfl rfl kq)) ?_
  obtain ⟨T11, X11, e11, st11⟩ := getF X6 hx hZ hown (host := "") (Or.inl (own_w hw 30 rfl)) Via.refl e6 F4 (g := (mkF m 46 #[.val (.ref a1), .val (.double uu9), .second, .unset, .unset] [(.ref a1)])) rfl rfl (hb hby d5_46)
  refine own_to T11 (mkF m 50 #[.val (.ref a1), .val (.double uu9), .second, .unset, .unset] [(.ref a1), (.double rr)]) (fun tq kq => st11 _ (XS.aloadN X11.here hx rfl (hb hby d5_49) rfl rfl kq)) ?_
  obtain ⟨T12, X12, e12, st12⟩ := getF X11 hx hZ hown (host := "") (Or.inl (own_w hw 33 rfl)) Via.refl e11 F5 (g := (mkF m 50 #[.val (.ref a1), .val (.double uu9), .second, .unset, .unset] [(.ref a1), (.double rr)])) rfl rfl (hb hby d5_50)
  refine own_to T12 (mkF m 53 #[.val (.ref a1), .val (.double uu9), .second, .unset, .unset] [(.double rw), (.double rr)]) (fun tq kq => st12 _ kq) ?_
  have Du13 : Dy (r - w') 4 (FP.dsub rr rw) := Dy.sub Hr Hw (by decide) (by omega)
  refine own_to T12 (mkF m 54 #[.val (.ref a1), .val (.double uu9), .second, .unset, .unset] [(.double (FP.dsub rr rw))]) (fun tq kq => XS.dsubS X12.here hx rfl (hb hby d5_53) rfl Du13.nn rfl kq) ?_
  obtain ⟨uu13, huu13⟩ : ∃ z0, z0 = (FP.dsub rr rw) := ⟨_, rfl⟩
  rw [← huu13]
  rw [← huu13] at Du13
  clear huu13
  refine own_to T12 (mkF m 55 #[.val (.ref a1), .val (.double uu9), .second, .unset, .unset] [(.double uu9), (.double uu13)]) (fun tq kq => XS.dloadN X12.here hx rfl (hb hby d5_54) rfl kq) ?_
  have Du14 : Dy ((r - w') * (v' + ((32 * vl.toInt) * 16))) 8 (FP.dmul uu13 uu9) := Dy.mul Du13 Du9 (by decide) (own_nm (by omega) (by omega))
  refine own_to T12 (mkF m 56 #[.val (.ref a1), .val (.double uu9), .second, .unset, .unset] [(.double (FP.dmul uu13 uu9))]) (fun tq kq => XS.dmulS X12.here hx rfl (hb hby d5_55) rfl Du14.nn rfl kq) ?_
  obtain ⟨uu14, huu14⟩ : ∃ z0, z0 = (FP.dmul uu13 uu9) := ⟨_, rfl⟩
  rw [← huu14]
  rw [← huu14] at Du14
  clear huu14
  refine own_to T12 (mkF m 59 #[.val (.ref a1), .val (.double uu9), .second, .val (.double uu14), .second] [(.ref a1), (.double uu14)]) (fun tq kq => XS.dstoreN X12.here hx rfl (hb hby d5_56) rfl (l' := #[.val (.ref a1), .val (.double uu9), .second, .val (.double uu14), .second]) rfl (XS.dloadN X12.here hx rfl (hb hby d5_57) rfl (XS.aloadN X12.here hx rfl (hb hby d5_58) rfl rfl kq))) ?_
  obtain ⟨T15, X15, e15, st15⟩ := getF X12 hx hZ hown (host := "") (Or.inl (own_w hw 33 rfl)) Via.refl e12 F5 (g := (mkF m 59 #[.val (.ref a1), .val (.double uu9), .second, .val (.double uu14), .second] [(.ref a1), (.double uu14)])) rfl rfl (hb hby d5_59)
  refine own_to T15 (mkF m 65 #[.val (.ref a1), .val (.double uu9), .second, .val (.double uu14), .second] [(.double (4652218415073722368 : UInt64)), (.double rw), (.double uu14)]) (fun tq kq => st15 _ (X15.ldc2DoubleC hx hown (mvT hZ (own_w hw 45 rfl)) (g := (mkF m 62 #[.val (.ref a1), .val (.double uu9), .second, .val (.double uu14), .second] [(.double rw), (.double uu14)])) rfl (hb hby d5_62) _ kq)) ?_
  have Du16 : Dy (w' * 1024) 4 (FP.dmul rw (4652218415073722368 : UInt64)) := Dy.mul Hw own_1024 (by decide) (by omega)
  refine own_to T15 (mkF m 66 #[.val (.ref a1), .val (.double uu9), .second, .val (.double uu14), .second] [(.double (FP.dmul rw (4652218415073722368 : UInt64))), (.double uu14)]) (fun tq kq => XS.dmulS X15.here hx rfl (hb hby d5_65) rfl Du16.nn rfl kq) ?_
  obtain ⟨uu16, huu16⟩ : ∃ z0, z0 = (FP.dmul rw (4652218415073722368 : UInt64)) := ⟨_, rfl⟩
  rw [← huu16]
  rw [← huu16] at Du16
  clear huu16
  refine own_to T15 (mkF m 67 #[.val (.ref a1), .val (.double uu9), .second, .val (.double uu14), .second] [(.int (cmpValue (FP.dcmp uu14 uu16) .l))]) (fun tq kq => XS.dcmpS X15.here hx rfl (hb hby d5_66) rfl rfl kq) ?_
  have Dup : Dy ((w' * 1024) * 16) 8 uu16 := Dy.up 4 Du16
  have hcv : ((0 : Int32) < (cmpValue (FP.dcmp uu14 uu16) .l)) ↔ ((w' * 1024) * 16) < ((r - w') * (v' + ((32 * vl.toInt) * 16))) := by rw [Dy.cmp Du14 Dup]; exact own_cv _ _
  refine own_to T15 (mkF m 76 #[.val (.ref a1), .val (.double uu9), .second, .val (.double uu14), .second] []) (fun tq kq => XS.ifYes X15.here hx rfl (pc0 := 67) (pc' := 76) rfl (hb hby d5_67) rfl ((if0 _ _).trans (flt (mt hcv.mp hc)).2.2.2) (by decide) (by decide) kq) ?_
  obtain ⟨T17, X17, e17, st17⟩ := getS2 X15 hx hZ hown (host := "") (Or.inl (own_w hw 54 rfl)) Via.refl e15 SR (g := (mkF m 76 #[.val (.ref a1), .val (.double uu9), .second, .val (.double uu14), .second] [])) rfl (hb hby d5_76)
  refine own_to T17 (mkF m 79 #[.val (.ref a1), .val (.double uu9), .second, .val (.double uu14), .second] [(.ref ro)]) (fun tq kq => st17 _ kq) ?_
  exact own_retA X17 hx hret hlk rfl rfl (hb hby d5_79) (by decide) (by decide) ⟨rfl, (Fr.nil n0), e17⟩
def Q_rm_next6kk (Z : State) (a1 kk ro : Addr) (vl tk : Int32) (bs : Int64) (rt vb rr rw : UInt64) (r w' v' : Int) (h0 : Heap) (n0 : Nat) (v : Option Value) (h : Heap) (L : List Loc) : Prop := v = some (.ref kk) ∧ Fr n0 L ∧ h = h0
set_option maxRecDepth 65536 in
set_option maxHeartbeats 40000000 in
theorem rm_next6kk (l : Launch) (Z : State) (a0 : Array Value) (hw : ∀ d ∈ tables_1, d.before a0 Z = true) (ws : List Jvm.Cond) (a1 kk ro : Addr) (vl tk : Int32) (bs : Int64) (rt vb rr rw : UInt64) (r w' v' : Int) (h0 : Heap) (n0 : Nat) (Z0 : n0 ≤ h0.size) (U : PRd Z h0 a1 kk ro vl tk bs rt vb rr rw) (Hr : Dy r 4 rr) (Hw : Dy w' 4 rw) (Ht : Dy ((2 ^ 6 : Nat) : Int) 4 rt) (Hv : Dy v' 4 vb) (hr' : (r - w').natAbs ≤ 67108864) (hw' : w'.natAbs ≤ 67108864) (hv' : v'.natAbs ≤ 67108864) (hvl : 0 ≤ vl.toInt ∧ vl.toInt ≤ 4095) (hc : (w' * 1024) * 64 < (r - w') * (v' + 32 * vl.toInt * 64)) :
    MetFree l (⟨"com/example/warmjoin/warmjoin/PageReadings", "next", "()Lcom/example/warmjoin/warmjoin/PageReadings$Way;"⟩ : MethodName) (head1 (Jvm.Cond.code (⟨"com/example/warmjoin/warmjoin/PageReadings", "next", "()Lcom/example/warmjoin/warmjoin/PageReadings$Way;"⟩ : MethodName) prog_102_method_2_code 5 (some (.object "com/example/warmjoin/warmjoin/PageReadings$Way")) :: ws) ({ frames := 0, cells := 0, slots := 0, locals := 0 } : Room)) (fun a U => a = #[(.ref a1)] ∧ Z.Warmed39 U.vm ∧ U.heap = h0) (fun _ _ _ _ _ => True) (fun _ U o U' => ∃ v L, o = .returned v ∧ Q_rm_next6kk Z a1 kk ro vl tk bs rt vb rr rw r w' v' h0 n0 v U'.heap L ∧ FrameEnd U o U' L ({ frames := 0, cells := 0, slots := 0, locals := 0 } : Room).cells ({ frames := 0, cells := 0, slots := 0, locals := 0 } : Room).slots) := by
  refine own_met (y := (⟨"com/example/warmjoin/warmjoin/PageReadings", "next", "()Lcom/example/warmjoin/warmjoin/PageReadings$Way;"⟩ : MethodName)) (Q := (Q_rm_next6kk Z a1 kk ro vl tk bs rt vb rr rw r w' v' h0 n0)) (plainFor_of_name pn_1) fun p e s m below meth c s₁ X0 hx hby hml hret hlk hown hnm hZ e0 => ?_
  refine own_entry (ef_5_R m a1) ?_
  obtain ⟨E1, F0, F1, F2, F3, F4, F5, F6, F7, SK, SR⟩ := U
  refine own_to s₁ (mkF m 1 #[.val (.ref a1), .unset, .unset, .unset, .unset] [(.ref a1)]) (fun tq kq => XS.aloadN X0.here hx rfl (hb hby d5_0) rfl rfl kq) ?_
  obtain ⟨T1, X1, e1, st1⟩ := getF X0 hx hZ hown (host := "") (Or.inl (own_w hw 14 rfl)) Via.refl e0 F1 (g := (mkF m 1 #[.val (.ref a1), .unset, .unset, .unset, .unset] [(.ref a1)])) rfl rfl (hb hby d5_1)
  refine own_to T1 (mkF m 13 #[.val (.ref a1), .unset, .unset, .unset, .unset] [(.ref a1)]) (fun tq kq => st1 _ (XS.ifnullYes X1.here hx rfl (pc0 := 4) (pc' := 12) rfl (hb hby d5_4) rfl (by decide) (by decide) (XS.aloadN X1.here hx rfl (hb hby d5_12) rfl rfl kq))) ?_
  obtain ⟨T2, X2, e2, st2⟩ := getF X1 hx hZ hown (host := "") (Or.inl (own_w hw 35 rfl)) Via.refl e1 F2 (g := (mkF m 13 #[.val (.ref a1), .unset, .unset, .unset, .unset] [(.ref a1)])) rfl rfl (hb hby d5_13)
  refine own_to T2 (mkF m 18 #[.val (.ref a1), .unset, .unset, .unset, .unset] [(.int (cmpValue (FP.dcmp rt FP.dconst0) .l))]) (fun tq kq => st2 _ (XS.dconst0 X2.here hx rfl (hb hby d5_16) rfl (XS.dcmpS X2.here hx rfl (hb hby d5_17) rfl rfl kq))) ?_
  rw [show cmpValue (FP.dcmp rt FP.dconst0) .l = (1 : Int32) from own_gt Ht]
  refine own_to T2 (mkF m 26 #[.val (.ref a1), .unset, .unset, .unset, .unset] [(.ref a1)]) (fun tq kq => XS.ifYes X2.here hx rfl (pc0 := 18) (pc' := 25) rfl (hb hby d5_18) rfl ((if0 _ _).trans (feq (by decide : ¬ ((1 : Int32) = (0 : Int32)))).2) (by decide) (by decide) (XS.aloadN X2.here hx rfl (hb hby d5_25) rfl rfl kq)) ?_
  obtain ⟨T3, X3, e3, st3⟩ := getF X2 hx hZ hown (host := "") (Or.inl (own_w hw 37 rfl)) Via.refl e2 F3 (g := (mkF m 26 #[.val (.ref a1), .unset, .unset, .unset, .unset] [(.ref a1)])) rfl rfl (hb hby d5_26)
  refine own_to T3 (mkF m 30 #[.val (.ref a1), .unset, .unset, .unset, .unset] [(.ref a1), (.double vb)]) (fun tq kq => st3 _ (XS.aloadN X3.here hx rfl (hb hby d5_29) rfl rfl kq)) ?_
  obtain ⟨T4, X4, e4, st4⟩ := getF X3 hx hZ hown (host := "") (Or.inl (own_w hw 35 rfl)) Via.refl e3 F2 (g := (mkF m 30 #[.val (.ref a1), .unset, .unset, .unset, .unset] [(.ref a1), (.double vb)])) rfl rfl (hb hby d5_30)
  refine own_to T4 (mkF m 33 #[.val (.ref a1), .unset, .unset, .unset, .unset] [(.double rt), (.double vb)]) (fun tq kq => st4 _ kq) ?_
  have Du5 : Dy v' 6 (FP.ddiv vb rt) := Dy.div (m := 6) Hv Ht (by decide) (by omega)
  refine own_to T4 (mkF m 34 #[.val (.ref a1), .unset, .unset, .unset, .unset] [(.double (FP.ddiv vb rt))]) (fun tq kq => XS.ddivS X4.here hx rfl (hb hby d5_33) rfl Du5.nn rfl kq) ?_
  obtain ⟨uu5, huu5⟩ : ∃ z0, z0 = (FP.ddiv vb rt) := ⟨_, rfl⟩
  rw [← huu5]
  rw [← huu5] at Du5
  clear huu5
  refine own_to T4 (mkF m 38 #[.val (.ref a1), .unset, .unset, .unset, .unset] [(.ref a1), (.double (4629700416936869888 : UInt64)), (.double uu5)]) (fun tq kq => X4.ldc2DoubleC hx hown (mvT hZ (own_w hw 44 rfl)) (g := (mkF m 34 #[.val (.ref a1), .unset, .unset, .unset, .unset] [(.double uu5)])) rfl (hb hby d5_34) _ (XS.aloadN X4.here hx rfl (hb hby d5_37) rfl rfl kq)) ?_
  obtain ⟨T6, X6, e6, st6⟩ := getF X4 hx hZ hown (host := "") (Or.inl (own_w hw 12 rfl)) Via.refl e4 F0 (g := (mkF m 38 #[.val (.ref a1), .unset, .unset, .unset, .unset] [(.ref a1), (.double (4629700416936869888 : UInt64)), (.double uu5)])) rfl rfl (hb hby d5_38)
  refine own_to T6 (mkF m 41 #[.val (.ref a1), .unset, .unset, .unset, .unset] [(.int vl), (.double (4629700416936869888 : UInt64)), (.double uu5)]) (fun tq kq => st6 _ kq) ?_
  have Du7 : Dy vl.toInt 0 (FP.i2d vl) := Dy.cast rfl (Dy.of_i2d vl)
  refine own_to T6 (mkF m 42 #[.val (.ref a1), .unset, .unset, .unset, .unset] [(.double (FP.i2d vl)), (.double (4629700416936869888 : UInt64)), (.double uu5)]) (fun tq kq => XS.i2dS X6.here hx rfl (hb hby d5_41) rfl rfl kq) ?_
  obtain ⟨uu7, huu7⟩ : ∃ z0, z0 = (FP.i2d vl) := ⟨_, rfl⟩
  rw [← huu7]
  rw [← huu7] at Du7
  clear huu7
  have Du8 : Dy (32 * vl.toInt) 0 (FP.dmul (4629700416936869888 : UInt64) uu7) := Dy.mul own_32 Du7 (by decide) (by omega)
  refine own_to T6 (mkF m 43 #[.val (.ref a1), .unset, .unset, .unset, .unset] [(.double (FP.dmul (4629700416936869888 : UInt64) uu7)), (.double uu5)]) (fun tq kq => XS.dmulS X6.here hx rfl (hb hby d5_42) rfl Du8.nn rfl kq) ?_
  obtain ⟨uu8, huu8⟩ : ∃ z0, z0 = (FP.dmul (4629700416936869888 : UInt64) uu7) := ⟨_, rfl⟩
  rw [← huu8]
  rw [← huu8] at Du8
  clear huu8
  have d10 : Dy ((32 * vl.toInt) * 64) 6 uu8 := Dy.up 6 Du8
  have Du9 : Dy (v' + ((32 * vl.toInt) * 64)) 6 (FP.dadd uu5 uu8) := Dy.add Du5 d10 (by decide) (by omega)
  refine own_to T6 (mkF m 44 #[.val (.ref a1), .unset, .unset, .unset, .unset] [(.double (FP.dadd uu5 uu8))]) (fun tq kq => XS.daddS X6.here hx rfl (hb hby d5_43) rfl Du9.nn rfl kq) ?_
  obtain ⟨uu9, huu9⟩ : ∃ z0, z0 = (FP.dadd uu5 uu8) := ⟨_, rfl⟩
  rw [← huu9]
  rw [← huu9] at Du9
  clear huu9
  refine own_to T6 (mkF m 46 #[.val (.ref a1), .val (.double uu9), .second, .unset, .unset] [(.ref a1)]) (fun tq kq => XS.dstoreN X6.here hx rfl (hb hby d5_44) rfl (l' := #[.val (.ref a1), .val (.double uu9), .second, .unset, .unset]) rfl (XS.aloadN X6.here hx rfl (hb hby d5_45) rfl rfl kq)) ?_
  obtain ⟨T11, X11, e11, st11⟩ := getF X6 hx hZ hown (host := "") (Or.inl (own_w hw 30 rfl)) Via.refl e6 F4 (g := (mkF m 46 #[.val (.ref a1), .val (.double uu9), .second, .unset, .unset] [(.ref a1)])) rfl rfl (hb hby d5_46)
  refine own_to T11 (mkF m 50 #[.val (.ref a1), .val (.double uu9), .second, .unset, .unset] [(.ref a1), (.double rr)]) (fun tq kq => st11 _ (XS.aloadN X11.here hx rfl (hb hby d5_49) rfl rfl kq)) ?_
  obtain ⟨T12, X12, e12, st12⟩ := getF X11 hx hZ hown (host := "") (Or.inl (own_w hw 33 rfl)) Via.refl e11 F5 (g := (mkF m 50 #[.val (.ref a1), .val (.double uu9), .second, .unset, .unset] [(.ref a1), (.double rr)])) rfl rfl (hb hby d5_50)
  refine own_to T12 (mkF m 53 #[.val (.ref a1), .val (.double uu9), .second, .unset, .unset] [(.double rw), (.double rr)]) (fun tq kq => st12 _ kq) ?_
  have Du13 : Dy (r - w') 4 (FP.dsub rr rw) := Dy.sub Hr Hw (by decide) (by omega)
  refine own_to T12 (mkF m 54 #[.val (.ref a1), .val (.double uu9), .second, .unset, .unset] [(.double (FP.dsub rr rw))]) (fun tq kq => XS.dsubS X12.here hx rfl (hb hby d5_53) rfl Du13.nn rfl kq) ?_
  obtain ⟨uu13, huu13⟩ : ∃ z0, z0 = (FP.dsub rr rw) := ⟨_, rfl⟩
  rw [← huu13]
  rw [← huu13] at Du13
  clear huu13
  refine own_to T12 (mkF m 55 #[.val (.ref a1), .val (.double uu9), .second, .unset, .unset] [(.double uu9), (.double uu13)]) (fun tq kq => XS.dloadN X12.here hx rfl (hb hby d5_54) rfl kq) ?_
  have Du14 : Dy ((r - w') * (v' + ((32 * vl.toInt) * 64))) 10 (FP.dmul uu13 uu9) := Dy.mul Du13 Du9 (by decide) (own_nm (by omega) (by omega))
  refine own_to T12 (mkF m 56 #[.val (.ref a1), .val (.double uu9), .second, .unset, .unset] [(.double (FP.dmul uu13 uu9))]) (fun tq kq => XS.dmulS X12.here hx rfl (hb hby d5_55) rfl Du14.nn rfl kq) ?_
  obtain ⟨uu14, huu14⟩ : ∃ z0, z0 = (FP.dmul uu13 uu9) := ⟨_, rfl⟩
  rw [← huu14]
  rw [← huu14] at Du14
  clear huu14
  refine own_to T12 (mkF m 59 #[.val (.ref a1), .val (.double uu9), .second, .val (.double uu14), .second] [(.ref a1), (.double uu14)]) (fun tq kq => XS.dstoreN X12.here hx rfl (hb hby d5_56) rfl (l' := #[.val (.ref a1), .val (.double uu9), .second, .val (.double uu14), .second]) rfl (XS.dloadN X12.here hx rfl (hb hby d5_57) rfl (XS.aloadN X12.here hx rfl (hb hby d5_58) rfl rfl kq))) ?_
  obtain ⟨T15, X15, e15, st15⟩ := getF X12 hx hZ hown (host := "") (Or.inl (own_w hw 33 rfl)) Via.refl e12 F5 (g := (mkF m 59 #[.val (.ref a1), .val (.double uu9), .second, .val (.double uu14), .second] [(.ref a1), (.double uu14)])) rfl rfl (hb hby d5_59)
  refine own_to T15 (mkF m 65 #[.val (.ref a1), .val (.double uu9), .second, .val (.double uu14), .second] [(.double (4652218415073722368 : UInt64)), (.double rw), (.double uu14)]) (fun tq kq => st15 _ (X15.ldc2DoubleC hx hown (mvT hZ (own_w hw 45 rfl)) (g := (mkF m 62 #[.val (.ref a1), .val (.double uu9), .second, .val (.double uu14), .second] [(.double rw), (.double uu14)])) rfl (hb hby d5_62) _ kq)) ?_
  have Du16 : Dy (w' * 1024) 4 (FP.dmul rw (4652218415073722368 : UInt64)) := Dy.mul Hw own_1024 (by decide) (by omega)
  refine own_to T15 (mkF m 66 #[.val (.ref a1), .val (.double uu9), .second, .val (.double uu14), .second] [(.double (FP.dmul rw (4652218415073722368 : UInt64))), (.double uu14)]) (fun tq kq => XS.dmulS X15.here hx rfl (hb hby d5_65) rfl Du16.nn rfl kq) ?_
  obtain ⟨uu16, huu16⟩ : ∃ z0, z0 = (FP.dmul rw (4652218415073722368 : UInt64)) := ⟨_, rfl⟩
  rw [← huu16]
  rw [← huu16] at Du16
  clear huu16
  refine own_to T15 (mkF m 67 #[.val (.ref a1), .val (.double uu9), .second, .val (.double uu14), .second] [(.int (cmpValue (FP.dcmp uu14 uu16) .l))]) (fun tq kq => XS.dcmpS X15.here hx rfl (hb hby d5_66) rfl rfl kq) ?_
  have Dup : Dy ((w' * 1024) * 64) 10 uu16 := Dy.up 6 Du16
  have hcv : ((0 : Int32) < (cmpValue (FP.dcmp uu14 uu16) .l)) ↔ ((w' * 1024) * 64) < ((r - w') * (v' + ((32 * vl.toInt) * 64))) := by rw [Dy.cmp Du14 Dup]; exact own_cv _ _
  refine own_to T15 (mkF m 70 #[.val (.ref a1), .val (.double uu9), .second, .val (.double uu14), .second] []) (fun tq kq => XS.ifNo X15.here hx rfl (hb hby d5_67) rfl ((if0 _ _).trans (tlt (hcv.mpr hc)).2.2.2) kq) ?_
  obtain ⟨T17, X17, e17, st17⟩ := getS2 X15 hx hZ hown (host := "") (Or.inl (own_w hw 46 rfl)) Via.refl e15 SK (g := (mkF m 70 #[.val (.ref a1), .val (.double uu9), .second, .val (.double uu14), .second] [])) rfl (hb hby d5_70)
  refine own_to T17 (mkF m 79 #[.val (.ref a1), .val (.double uu9), .second, .val (.double uu14), .second] [(.ref kk)]) (fun tq kq => st17 _ (XS.goto X17.here hx rfl (pc0 := 73) (pc' := 79) rfl (hb hby d5_73) (by decide) (by decide) kq)) ?_
  exact own_retA X17 hx hret hlk rfl rfl (hb hby d5_79) (by decide) (by decide) ⟨rfl, (Fr.nil n0), e17⟩
def Q_rm_next6ro (Z : State) (a1 kk ro : Addr) (vl tk : Int32) (bs : Int64) (rt vb rr rw : UInt64) (r w' v' : Int) (h0 : Heap) (n0 : Nat) (v : Option Value) (h : Heap) (L : List Loc) : Prop := v = some (.ref ro) ∧ Fr n0 L ∧ h = h0
set_option maxRecDepth 65536 in
set_option maxHeartbeats 40000000 in
theorem rm_next6ro (l : Launch) (Z : State) (a0 : Array Value) (hw : ∀ d ∈ tables_1, d.before a0 Z = true) (ws : List Jvm.Cond) (a1 kk ro : Addr) (vl tk : Int32) (bs : Int64) (rt vb rr rw : UInt64) (r w' v' : Int) (h0 : Heap) (n0 : Nat) (Z0 : n0 ≤ h0.size) (U : PRd Z h0 a1 kk ro vl tk bs rt vb rr rw) (Hr : Dy r 4 rr) (Hw : Dy w' 4 rw) (Ht : Dy ((2 ^ 6 : Nat) : Int) 4 rt) (Hv : Dy v' 4 vb) (hr' : (r - w').natAbs ≤ 67108864) (hw' : w'.natAbs ≤ 67108864) (hv' : v'.natAbs ≤ 67108864) (hvl : 0 ≤ vl.toInt ∧ vl.toInt ≤ 4095) (hc : ¬ (w' * 1024) * 64 < (r - w') * (v' + 32 * vl.toInt * 64)) :
    MetFree l (⟨"com/example/warmjoin/warmjoin/PageReadings", "next", "()Lcom/example/warmjoin/warmjoin/PageReadings$Way;"⟩ : MethodName) (head1 (Jvm.Cond.code (⟨"com/example/warmjoin/warmjoin/PageReadings", "next", "()Lcom/example/warmjoin/warmjoin/PageReadings$Way;"⟩ : MethodName) prog_102_method_2_code 5 (some (.object "com/example/warmjoin/warmjoin/PageReadings$Way")) :: ws) ({ frames := 0, cells := 0, slots := 0, locals := 0 } : Room)) (fun a U => a = #[(.ref a1)] ∧ Z.Warmed39 U.vm ∧ U.heap = h0) (fun _ _ _ _ _ => True) (fun _ U o U' => ∃ v L, o = .returned v ∧ Q_rm_next6ro Z a1 kk ro vl tk bs rt vb rr rw r w' v' h0 n0 v U'.heap L ∧ FrameEnd U o U' L ({ frames := 0, cells := 0, slots := 0, locals := 0 } : Room).cells ({ frames := 0, cells := 0, slots := 0, locals := 0 } : Room).slots) := by
  refine own_met (y := (⟨"com/example/warmjoin/warmjoin/PageReadings", "next", "()Lcom/example/warmjoin/warmjoin/PageReadings$Way;"⟩ : MethodName)) (Q := (Q_rm_next6ro Z a1 kk ro vl tk bs rt vb rr rw r w' v' h0 n0)) (plainFor_of_name pn_1) fun p e s m below meth c s₁ X0 hx hby hml hret hlk hown hnm hZ e0 => ?_
  refine own_entry (ef_5_R m a1) ?_
  obtain ⟨E1, F0, F1, F2, F3, F4, F5, F6, F7, SK, SR⟩ := U
  refine own_to s₁ (mkF m 1 #[.val (.ref a1), .unset, .unset, .unset, .unset] [(.ref a1)]) (fun tq kq => XS.aloadN X0.here hx rfl (hb hby d5_0) rfl rfl kq) ?_
  obtain ⟨T1, X1, e1, st1⟩ := getF X0 hx hZ hown (host := "") (Or.inl (own_w hw 14 rfl)) Via.refl e0 F1 (g := (mkF m 1 #[.val (.ref a1), .unset, .unset, .unset, .unset] [(.ref a1)])) rfl rfl (hb hby d5_1)
  refine own_to T1 (mkF m 13 #[.val (.ref a1), .unset, .unset, .unset, .unset] [(.ref a1)]) (fun tq kq => st1 _ (XS.ifnullYes X1.here hx rfl (pc0 := 4) (pc' := 12) rfl (hb hby d5_4) rfl (by decide) (by decide) (XS.aloadN X1.here hx rfl (hb hby d5_12) rfl rfl kq))) ?_
  obtain ⟨T2, X2, e2, st2⟩ := getF X1 hx hZ hown (host := "") (Or.inl (own_w hw 35 rfl)) Via.refl e1 F2 (g := (mkF m 13 #[.val (.ref a1), .unset, .unset, .unset, .unset] [(.ref a1)])) rfl rfl (hb hby d5_13)
  refine own_to T2 (mkF m 18 #[.val (.ref a1), .unset, .unset, .unset, .unset] [(.int (cmpValue (FP.dcmp rt FP.dconst0) .l))]) (fun tq kq => st2 _ (XS.dconst0 X2.here hx rfl (hb hby d5_16) rfl (XS.dcmpS X2.here hx rfl (hb hby d5_17) rfl rfl kq))) ?_
  rw [show cmpValue (FP.dcmp rt FP.dconst0) .l = (1 : Int32) from own_gt Ht]
  refine own_to T2 (mkF m 26 #[.val (.ref a1), .unset, .unset, .unset, .unset] [(.ref a1)]) (fun tq kq => XS.ifYes X2.here hx rfl (pc0 := 18) (pc' := 25) rfl (hb hby d5_18) rfl ((if0 _ _).trans (feq (by decide : ¬ ((1 : Int32) = (0 : Int32)))).2) (by decide) (by decide) (XS.aloadN X2.here hx rfl (hb hby d5_25) rfl rfl kq)) ?_
  obtain ⟨T3, X3, e3, st3⟩ := getF X2 hx hZ hown (host := "") (Or.inl (own_w hw 37 rfl)) Via.refl e2 F3 (g := (mkF m 26 #[.val (.ref a1), .unset, .unset, .unset, .unset] [(.ref a1)])) rfl rfl (hb hby d5_26)
  refine own_to T3 (mkF m 30 #[.val (.ref a1), .unset, .unset, .unset, .unset] [(.ref a1), (.double vb)]) (fun tq kq => st3 _ (XS.aloadN X3.here hx rfl (hb hby d5_29) rfl rfl kq)) ?_
  obtain ⟨T4, X4, e4, st4⟩ := getF X3 hx hZ hown (host := "") (Or.inl (own_w hw 35 rfl)) Via.refl e3 F2 (g := (mkF m 30 #[.val (.ref a1), .unset, .unset, .unset, .unset] [(.ref a1), (.double vb)])) rfl rfl (hb hby d5_30)
  refine own_to T4 (mkF m 33 #[.val (.ref a1), .unset, .unset, .unset, .unset] [(.double rt), (.double vb)]) (fun tq kq => st4 _ kq) ?_
  have Du5 : Dy v' 6 (FP.ddiv vb rt) := Dy.div (m := 6) Hv Ht (by decide) (by omega)
  refine own_to T4 (mkF m 34 #[.val (.ref a1), .unset, .unset, .unset, .unset] [(.double (FP.ddiv vb rt))]) (fun tq kq => XS.ddivS X4.here hx rfl (hb hby d5_33) rfl Du5.nn rfl kq) ?_
  obtain ⟨uu5, huu5⟩ : ∃ z0, z0 = (FP.ddiv vb rt) := ⟨_, rfl⟩
  rw [← huu5]
  rw [← huu5] at Du5
  clear huu5
  refine own_to T4 (mkF m 38 #[.val (.ref a1), .unset, .unset, .unset, .unset] [(.ref a1), (.double (4629700416936869888 : UInt64)), (.double uu5)]) (fun tq kq => X4.ldc2DoubleC hx hown (mvT hZ (own_w hw 44 rfl)) (g := (mkF m 34 #[.val (.ref a1), .unset, .unset, .unset, .unset] [(.double uu5)])) rfl (hb hby d5_34) _ (XS.aloadN X4.here hx rfl (hb hby d5_37) rfl rfl kq)) ?_
  obtain ⟨T6, X6, e6, st6⟩ := getF X4 hx hZ hown (host := "") (Or.inl (own_w hw 12 rfl)) Via.refl e4 F0 (g := (mkF m 38 #[.val (.ref a1), .unset, .unset, .unset, .unset] [(.ref a1), (.double (4629700416936869888 : UInt64)), (.double uu5)])) rfl rfl (hb hby d5_38)
  refine own_to T6 (mkF m 41 #[.val (.ref a1), .unset, .unset, .unset, .unset] [(.int vl), (.double (4629700416936869888 : UInt64)), (.double uu5)]) (fun tq kq => st6 _ kq) ?_
  have Du7 : Dy vl.toInt 0 (FP.i2d vl) := Dy.cast rfl (Dy.of_i2d vl)
  refine own_to T6 (mkF m 42 #[.val (.ref a1), .unset, .unset, .unset, .unset] [(.double (FP.i2d vl)), (.double (4629700416936869888 : UInt64)), (.double uu5)]) (fun tq kq => XS.i2dS X6.here hx rfl (hb hby d5_41) rfl rfl kq) ?_
  obtain ⟨uu7, huu7⟩ : ∃ z0, z0 = (FP.i2d vl) := ⟨_, rfl⟩
  rw [← huu7]
  rw [← huu7] at Du7
  clear huu7
  have Du8 : Dy (32 * vl.toInt) 0 (FP.dmul (4629700416936869888 : UInt64) uu7) := Dy.mul own_32 Du7 (by decide) (by omega)
  refine own_to T6 (mkF m 43 #[.val (.ref a1), .unset, .unset, .unset, .unset] [(.double (FP.dmul (4629700416936869888 : UInt64) uu7)), (.double uu5)]) (fun tq kq => XS.dmulS X6.here hx rfl (hb hby d5_42) rfl Du8.nn rfl kq) ?_
  obtain ⟨uu8, huu8⟩ : ∃ z0, z0 = (FP.dmul (4629700416936869888 : UInt64) uu7) := ⟨_, rfl⟩
  rw [← huu8]
  rw [← huu8] at Du8
  clear huu8
  have d10 : Dy ((32 * vl.toInt) * 64) 6 uu8 := Dy.up 6 Du8
  have Du9 : Dy (v' + ((32 * vl.toInt) * 64)) 6 (FP.dadd uu5 uu8) := Dy.add Du5 d10 (by decide) (by omega)
  refine own_to T6 (mkF m 44 #[.val (.ref a1), .unset, .unset, .unset, .unset] [(.double (FP.dadd uu5 uu8))]) (fun tq kq => XS.daddS X6.here hx rfl (hb hby d5_43) rfl Du9.nn rfl kq) ?_
  obtain ⟨uu9, huu9⟩ : ∃ z0, z0 = (FP.dadd uu5 uu8) := ⟨_, rfl⟩
  rw [← huu9]
  rw [← huu9] at Du9
  clear huu9
  refine own_to T6 (mkF m 46 #[.val (.ref a1), .val (.double uu9), .second, .unset, .unset] [(.ref a1)]) (fun tq kq => XS.dstoreN X6.here hx rfl (hb hby d5_44) rfl (l' := #[.val (.ref a1), .val (.double uu9), .second, .unset, .unset]) rfl (XS.aloadN X6.here hx rfl (hb hby d5_45) rfl rfl kq)) ?_
  obtain ⟨T11, X11, e11, st11⟩ := getF X6 hx hZ hown (host := "") (Or.inl (own_w hw 30 rfl)) Via.refl e6 F4 (g := (mkF m 46 #[.val (.ref a1), .val (.double uu9), .second, .unset, .unset] [(.ref a1)])) rfl rfl (hb hby d5_46)
  refine own_to T11 (mkF m 50 #[.val (.ref a1), .val (.double uu9), .second, .unset, .unset] [(.ref a1), (.double rr)]) (fun tq kq => st11 _ (XS.aloadN X11.here hx rfl (hb hby d5_49) rfl rfl kq)) ?_
  obtain ⟨T12, X12, e12, st12⟩ := getF X11 hx hZ hown (host := "") (Or.inl (own_w hw 33 rfl)) Via.refl e11 F5 (g := (mkF m 50 #[.val (.ref a1), .val (.double uu9), .second, .unset, .unset] [(.ref a1), (.double rr)])) rfl rfl (hb hby d5_50)
  refine own_to T12 (mkF m 53 #[.val (.ref a1), .val (.double uu9), .second, .unset, .unset] [(.double rw), (.double rr)]) (fun tq kq => st12 _ kq) ?_
  have Du13 : Dy (r - w') 4 (FP.dsub rr rw) := Dy.sub Hr Hw (by decide) (by omega)
  refine own_to T12 (mkF m 54 #[.val (.ref a1), .val (.double uu9), .second, .unset, .unset] [(.double (FP.dsub rr rw))]) (fun tq kq => XS.dsubS X12.here hx rfl (hb hby d5_53) rfl Du13.nn rfl kq) ?_
  obtain ⟨uu13, huu13⟩ : ∃ z0, z0 = (FP.dsub rr rw) := ⟨_, rfl⟩
  rw [← huu13]
  rw [← huu13] at Du13
  clear huu13
  refine own_to T12 (mkF m 55 #[.val (.ref a1), .val (.double uu9), .second, .unset, .unset] [(.double uu9), (.double uu13)]) (fun tq kq => XS.dloadN X12.here hx rfl (hb hby d5_54) rfl kq) ?_
  have Du14 : Dy ((r - w') * (v' + ((32 * vl.toInt) * 64))) 10 (FP.dmul uu13 uu9) := Dy.mul Du13 Du9 (by decide) (own_nm (by omega) (by omega))
  refine own_to T12 (mkF m 56 #[.val (.ref a1), .val (.double uu9), .second, .unset, .unset] [(.double (FP.dmul uu13 uu9))]) (fun tq kq => XS.dmulS X12.here hx rfl (hb hby d5_55) rfl Du14.nn rfl kq) ?_
  obtain ⟨uu14, huu14⟩ : ∃ z0, z0 = (FP.dmul uu13 uu9) := ⟨_, rfl⟩
  rw [← huu14]
  rw [← huu14] at Du14
  clear huu14
  refine own_to T12 (mkF m 59 #[.val (.ref a1), .val (.double uu9), .second, .val (.double uu14), .second] [(.ref a1), (.double uu14)]) (fun tq kq => XS.dstoreN X12.here hx rfl (hb hby d5_56) rfl (l' := #[.val (.ref a1), .val (.double uu9), .second, .val (.double uu14), .second]) rfl (XS.dloadN X12.here hx rfl (hb hby d5_57) rfl (XS.aloadN X12.here hx rfl (hb hby d5_58) rfl rfl kq))) ?_
  obtain ⟨T15, X15, e15, st15⟩ := getF X12 hx hZ hown (host := "") (Or.inl (own_w hw 33 rfl)) Via.refl e12 F5 (g := (mkF m 59 #[.val (.ref a1), .val (.double uu9), .second, .val (.double uu14), .second] [(.ref a1), (.double uu14)])) rfl rfl (hb hby d5_59)
  refine own_to T15 (mkF m 65 #[.val (.ref a1), .val (.double uu9), .second, .val (.double uu14), .second] [(.double (4652218415073722368 : UInt64)), (.double rw), (.double uu14)]) (fun tq kq => st15 _ (X15.ldc2DoubleC hx hown (mvT hZ (own_w hw 45 rfl)) (g := (mkF m 62 #[.val (.ref a1), .val (.double uu9), .second, .val (.double uu14), .second] [(.double rw), (.double uu14)])) rfl (hb hby d5_62) _ kq)) ?_
  have Du16 : Dy (w' * 1024) 4 (FP.dmul rw (4652218415073722368 : UInt64)) := Dy.mul Hw own_1024 (by decide) (by omega)
  refine own_to T15 (mkF m 66 #[.val (.ref a1), .val (.double uu9), .second, .val (.double uu14), .second] [(.double (FP.dmul rw (4652218415073722368 : UInt64))), (.double uu14)]) (fun tq kq => XS.dmulS X15.here hx rfl (hb hby d5_65) rfl Du16.nn rfl kq) ?_
  obtain ⟨uu16, huu16⟩ : ∃ z0, z0 = (FP.dmul rw (4652218415073722368 : UInt64)) := ⟨_, rfl⟩
  rw [← huu16]
  rw [← huu16] at Du16
  clear huu16
  refine own_to T15 (mkF m 67 #[.val (.ref a1), .val (.double uu9), .second, .val (.double uu14), .second] [(.int (cmpValue (FP.dcmp uu14 uu16) .l))]) (fun tq kq => XS.dcmpS X15.here hx rfl (hb hby d5_66) rfl rfl kq) ?_
  have Dup : Dy ((w' * 1024) * 64) 10 uu16 := Dy.up 6 Du16
  have hcv : ((0 : Int32) < (cmpValue (FP.dcmp uu14 uu16) .l)) ↔ ((w' * 1024) * 64) < ((r - w') * (v' + ((32 * vl.toInt) * 64))) := by rw [Dy.cmp Du14 Dup]; exact own_cv _ _
  refine own_to T15 (mkF m 76 #[.val (.ref a1), .val (.double uu9), .second, .val (.double uu14), .second] []) (fun tq kq => XS.ifYes X15.here hx rfl (pc0 := 67) (pc' := 76) rfl (hb hby d5_67) rfl ((if0 _ _).trans (flt (mt hcv.mp hc)).2.2.2) (by decide) (by decide) kq) ?_
  obtain ⟨T17, X17, e17, st17⟩ := getS2 X15 hx hZ hown (host := "") (Or.inl (own_w hw 54 rfl)) Via.refl e15 SR (g := (mkF m 76 #[.val (.ref a1), .val (.double uu9), .second, .val (.double uu14), .second] [])) rfl (hb hby d5_76)
  refine own_to T17 (mkF m 79 #[.val (.ref a1), .val (.double uu9), .second, .val (.double uu14), .second] [(.ref ro)]) (fun tq kq => st17 _ kq) ?_
  exact own_retA X17 hx hret hlk rfl rfl (hb hby d5_79) (by decide) (by decide) ⟨rfl, (Fr.nil n0), e17⟩
theorem pn_0 : plainName "com/example/warmjoin/warmjoin/PageReadingsReadPinLaw" = true := by first | (simp [plainName, overriddenIn]; done) | decide +kernel
theorem ef_0_JJIIII (m : MethodId) (x0 : Int64) (x1 : Int64) (x2 : Int32) (x3 : Int32) (x4 : Int32) (x5 : Int32) : entryFrame m #[(.long x0), (.long x1), (.int x2), (.int x3), (.int x4), (.int x5)] maxLocals = mkF m 0 #[.val (.long x0), .second, .val (.long x1), .second, .val (.int x2), .val (.int x3), .val (.int x4), .val (.int x5), .unset, .unset, .unset, .unset, .unset, .unset, .unset, .unset, .unset, .unset, .unset, .unset, .unset, .unset, .unset, .unset, .unset] [] := by first | (simp [entryFrame, mkF, argsToLocals, Value.category, maxLocals]; done) | rfl
def Q_rm0 (Z : State) (j0 j1 : Int64) (i2 i3 i4 i5 : Int32) (kk ro : Addr) (h0 : Heap) (n0 : Nat) (v : Option Value) (h : Heap) (L : List Loc) : Prop := v = some (.int 1) ∧ Fr n0 L
theorem pd_0 : parseMethodDescriptor "(ILcom/example/warmjoin/warmjoin/PageReadings$Way;)V" = some ⟨[.int, (.object "com/example/warmjoin/warmjoin/PageReadings$Way")], none⟩ := by decide +kernel
theorem pd_3 : parseMethodDescriptor "(II)V" = some ⟨[.int, .int], none⟩ := by decide +kernel
theorem pd_4 : parseMethodDescriptor "()Lcom/example/warmjoin/warmjoin/PageReadings$Way;" = some ⟨[], some (.object "com/example/warmjoin/warmjoin/PageReadings$Way")⟩ := by decide +kernel
theorem pd_2 : parseMethodDescriptor "(I)V" = some ⟨[.int], none⟩ := by decide +kernel
set_option maxRecDepth 65536 in
set_option maxHeartbeats 40000000 in
theorem rm0 (l : Launch) (Z : State) (a0 : Array Value) (hw : ∀ d ∈ tables_1, d.before a0 Z = true) (ws : List Jvm.Cond) (j0 j1 : Int64) (i2 i3 i4 i5 : Int32) (kk ro : Addr) (h0 : Heap) (n0 : Nat) (Z0 : n0 ≤ h0.size) (SK : Sta Z h0 "com/example/warmjoin/warmjoin/PageReadings$Way" "KEYS" "Lcom/example/warmjoin/warmjoin/PageReadings$Way;" (.ref kk)) (SR : Sta Z h0 "com/example/warmjoin/warmjoin/PageReadings$Way" "ROWS" "Lcom/example/warmjoin/warmjoin/PageReadings$Way;" (.ref ro)) :
    MetFree l x (head1 (Jvm.Cond.code x code maxLocals ret :: ws) room_1) (fun a U => a = #[(.long j0), (.long j1), (.int i2), (.int i3), (.int i4), (.int i5)] ∧ Z.Warmed39 U.vm ∧ U.heap = h0) (fun _ _ _ _ _ => True) (fun _ U o U' => ∃ v L, o = .returned v ∧ Q_rm0 Z j0 j1 i2 i3 i4 i5 kk ro h0 n0 v U'.heap L ∧ FrameEnd U o U' L room_1.cells room_1.slots) := by
  refine own_met (y := x) (Q := (Q_rm0 Z j0 j1 i2 i3 i4 i5 kk ro h0 n0)) (plainFor_of_name pn_0) fun p e s m below meth c s₁ X0 hx hby hml hret hlk hown hnm hZ e0 => ?_
  refine own_entry (ef_0_JJIIII m j0 j1 i2 i3 i4 i5) ?_
  refine own_to s₁ (mkF m 6 #[.val (.long j0), .second, .val (.long j1), .second, .val (.int i2), .val (.int i3), .val (.int i4), .val (.int i5), .unset, .unset, .unset, .unset, .unset, .unset, .unset, .unset, .unset, .unset, .unset, .unset, .unset, .unset, .unset, .unset, .unset] [(.int ((j0 &&& (1048575 : Int64)).toInt32))]) (fun tq kq => XS.lloadN X0.here hx rfl (hb hby at_0) rfl (X0.ldc2Long hx hown (mvT hZ (own_w hw 0 rfl)) (g := (mkF m 1 #[.val (.long j0), .second, .val (.long j1), .second, .val (.int i2), .val (.int i3), .val (.int i4), .val (.int i5), .unset, .unset, .unset, .unset, .unset, .unset, .unset, .unset, .unset, .unset, .unset, .unset, .unset, .unset, .unset, .unset, .unset] [(.long j0)])) rfl (hb hby at_1) _ (XS.land X0.here hx rfl (hb hby at_4) rfl (XS.l2i X0.here hx rfl (hb hby at_5) rfl kq)))) ?_
  obtain ⟨va, hva⟩ : ∃ z0, z0 = ((j0 &&& (1048575 : Int64)).toInt32) := ⟨_, rfl⟩
  rw [← hva]
  have bva : 0 ≤ va.toInt ∧ va.toInt ≤ 1048575 := (by rw [hva]; exact own_m20 _)
  clear hva
  refine own_to s₁ (mkF m 17 #[.val (.long j0), .second, .val (.long j1), .second, .val (.int i2), .val (.int i3), .val (.int i4), .val (.int i5), .val (.int va), .unset, .unset, .unset, .unset, .unset, .unset, .unset, .unset, .unset, .unset, .unset, .unset, .unset, .unset, .unset, .unset] [(.int ((((j0.toUInt64 >>> ((20 : Int32) &&& 0x3f).toInt64.toUInt64).toInt64) &&& (1048575 : Int64)).toInt32))]) (fun tq kq => XS.istore X0.here hx rfl (hb hby at_6) rfl (l' := #[.val (.long j0), .second, .val (.long j1), .second, .val (.int i2), .val (.int i3), .val (.int i4), .val (.int i5), .val (.int va), .unset, .unset, .unset, .unset, .unset, .unset, .unset, .unset, .unset, .unset, .unset, .unset, .unset, .unset, .unset, .unset]) rfl (XS.lloadN X0.here hx rfl (hb hby at_8) rfl (XS.bipush X0.here hx rfl (hb hby at_9) (XS.lushr X0.here hx rfl (hb hby at_11) rfl (X0.ldc2Long hx hown (mvT hZ (own_w hw 0 rfl)) (g := (mkF m 12 #[.val (.long j0), .second, .val (.long j1), .second, .val (.int i2), .val (.int i3), .val (.int i4), .val (.int i5), .val (.int va), .unset, .unset, .unset, .unset, .unset, .unset, .unset, .unset, .unset, .unset, .unset, .unset, .unset, .unset, .unset, .unset] [(.long ((j0.toUInt64 >>> ((20 : Int32) &&& 0x3f).toInt64.toUInt64).toInt64))])) rfl (hb hby at_12) _ (XS.land X0.here hx rfl (hb hby at_15) rfl (XS.l2i X0.here hx rfl (hb hby at_16) rfl kq))))))) ?_
  obtain ⟨vb, hvb⟩ : ∃ z0, z0 = ((((j0.toUInt64 >>> ((20 : Int32) &&& 0x3f).toInt64.toUInt64).toInt64) &&& (1048575 : Int64)).toInt32) := ⟨_, rfl⟩
  rw [← hvb]
  have bvb : 0 ≤ vb.toInt ∧ vb.toInt ≤ 1048575 := (by rw [hvb]; exact own_m20 _)
  clear hvb
  refine own_to s₁ (mkF m 25 #[.val (.long j0), .second, .val (.long j1), .second, .val (.int i2), .val (.int i3), .val (.int i4), .val (.int i5), .val (.int va), .val (.int vb), .unset, .unset, .unset, .unset, .unset, .unset, .unset, .unset, .unset, .unset, .unset, .unset, .unset, .unset, .unset] [(.int ((j1 &&& (1048575 : Int64)).toInt32))]) (fun tq kq => XS.istore X0.here hx rfl (hb hby at_17) rfl (l' := #[.val (.long j0), .second, .val (.long j1), .second, .val (.int i2), .val (.int i3), .val (.int i4), .val (.int i5), .val (.int va), .val (.int vb), .unset, .unset, .unset, .unset, .unset, .unset, .unset, .unset, .unset, .unset, .unset, .unset, .unset, .unset, .unset]) rfl (XS.lloadN X0.here hx rfl (hb hby at_19) rfl (X0.ldc2Long hx hown (mvT hZ (own_w hw 0 rfl)) (g := (mkF m 20 #[.val (.long j0), .second, .val (.long j1), .second, .val (.int i2), .val (.int i3), .val (.int i4), .val (.int i5), .val (.int va), .val (.int vb), .unset, .unset, .unset, .unset, .unset, .unset, .unset, .unset, .unset, .unset, .unset, .unset, .unset, .unset, .unset] [(.long j1)])) rfl (hb hby at_20) _ (XS.land X0.here hx rfl (hb hby at_23) rfl (XS.l2i X0.here hx rfl (hb hby at_24) rfl kq))))) ?_
  obtain ⟨vc, hvc⟩ : ∃ z0, z0 = ((j1 &&& (1048575 : Int64)).toInt32) := ⟨_, rfl⟩
  rw [← hvc]
  have bvc : 0 ≤ vc.toInt ∧ vc.toInt ≤ 1048575 := (by rw [hvc]; exact own_m20 _)
  clear hvc
  refine own_to s₁ (mkF m 36 #[.val (.long j0), .second, .val (.long j1), .second, .val (.int i2), .val (.int i3), .val (.int i4), .val (.int i5), .val (.int va), .val (.int vb), .val (.int vc), .unset, .unset, .unset, .unset, .unset, .unset, .unset, .unset, .unset, .unset, .unset, .unset, .unset, .unset] [(.int ((((j1.toUInt64 >>> ((20 : Int32) &&& 0x3f).toInt64.toUInt64).toInt64) &&& (1048575 : Int64)).toInt32))]) (fun tq kq => XS.istore X0.here hx rfl (hb hby at_25) rfl (l' := #[.val (.long j0), .second, .val (.long j1), .second, .val (.int i2), .val (.int i3), .val (.int i4), .val (.int i5), .val (.int va), .val (.int vb), .val (.int vc), .unset, .unset, .unset, .unset, .unset, .unset, .unset, .unset, .unset, .unset, .unset, .unset, .unset, .unset]) rfl (XS.lloadN X0.here hx rfl (hb hby at_27) rfl (XS.bipush X0.here hx rfl (hb hby at_28) (XS.lushr X0.here hx rfl (hb hby at_30) rfl (X0.ldc2Long hx hown (mvT hZ (own_w hw 0 rfl)) (g := (mkF m 31 #[.val (.long j0), .second, .val (.long j1), .second, .val (.int i2), .val (.int i3), .val (.int i4), .val (.int i5), .val (.int va), .val (.int vb), .val (.int vc), .unset, .unset, .unset, .unset, .unset, .unset, .unset, .unset, .unset, .unset, .unset, .unset, .unset, .unset] [(.long ((j1.toUInt64 >>> ((20 : Int32) &&& 0x3f).toInt64.toUInt64).toInt64))])) rfl (hb hby at_31) _ (XS.land X0.here hx rfl (hb hby at_34) rfl (XS.l2i X0.here hx rfl (hb hby at_35) rfl kq))))))) ?_
  obtain ⟨vd, hvd⟩ : ∃ z0, z0 = ((((j1.toUInt64 >>> ((20 : Int32) &&& 0x3f).toInt64.toUInt64).toInt64) &&& (1048575 : Int64)).toInt32) := ⟨_, rfl⟩
  rw [← hvd]
  have bvd : 0 ≤ vd.toInt ∧ vd.toInt ≤ 1048575 := (by rw [hvd]; exact own_m20 _)
  clear hvd
  refine own_to s₁ (mkF m 43 #[.val (.long j0), .second, .val (.long j1), .second, .val (.int i2), .val (.int i3), .val (.int i4), .val (.int i5), .val (.int va), .val (.int vb), .val (.int vc), .val (.int vd), .unset, .unset, .unset, .unset, .unset, .unset, .unset, .unset, .unset, .unset, .unset, .unset, .unset] [(.int (i2 &&& (1048575 : Int32)))]) (fun tq kq => XS.istore X0.here hx rfl (hb hby at_36) rfl (l' := #[.val (.long j0), .second, .val (.long j1), .second, .val (.int i2), .val (.int i3), .val (.int i4), .val (.int i5), .val (.int va), .val (.int vb), .val (.int vc), .val (.int vd), .unset, .unset, .unset, .unset, .unset, .unset, .unset, .unset, .unset, .unset, .unset, .unset, .unset]) rfl (XS.iload X0.here hx rfl (hb hby at_38) rfl (X0.ldcInt hx hown (mvT hZ (own_w hw 1 rfl)) (g := (mkF m 40 #[.val (.long j0), .second, .val (.long j1), .second, .val (.int i2), .val (.int i3), .val (.int i4), .val (.int i5), .val (.int va), .val (.int vb), .val (.int vc), .val (.int vd), .unset, .unset, .unset, .unset, .unset, .unset, .unset, .unset, .unset, .unset, .unset, .unset, .unset] [(.int i2)])) rfl (hb hby at_40) _ (XS.iand X0.here hx rfl (hb hby at_42) rfl kq)))) ?_
  obtain ⟨ve, hve⟩ : ∃ z0, z0 = (i2 &&& (1048575 : Int32)) := ⟨_, rfl⟩
  rw [← hve]
  have bve : 0 ≤ ve.toInt ∧ ve.toInt ≤ 1048575 := (by rw [hve]; exact own_i20 _)
  clear hve
  refine own_to s₁ (mkF m 50 #[.val (.long j0), .second, .val (.long j1), .second, .val (.int i2), .val (.int i3), .val (.int i4), .val (.int i5), .val (.int va), .val (.int vb), .val (.int vc), .val (.int vd), .val (.int ve), .unset, .unset, .unset, .unset, .unset, .unset, .unset, .unset, .unset, .unset, .unset, .unset] [(.int (i3 &&& (1048575 : Int32)))]) (fun tq kq => XS.istore X0.here hx rfl (hb hby at_43) rfl (l' := #[.val (.long j0), .second, .val (.long j1), .second, .val (.int i2), .val (.int i3), .val (.int i4), .val (.int i5), .val (.int va), .val (.int vb), .val (.int vc), .val (.int vd), .val (.int ve), .unset, .unset, .unset, .unset, .unset, .unset, .unset, .unset, .unset, .unset, .unset, .unset]) rfl (XS.iload X0.here hx rfl (hb hby at_45) rfl (X0.ldcInt hx hown (mvT hZ (own_w hw 1 rfl)) (g := (mkF m 47 #[.val (.long j0), .second, .val (.long j1), .second, .val (.int i2), .val (.int i3), .val (.int i4), .val (.int i5), .val (.int va), .val (.int vb), .val (.int vc), .val (.int vd), .val (.int ve), .unset, .unset, .unset, .unset, .unset, .unset, .unset, .unset, .unset, .unset, .unset, .unset] [(.int i3)])) rfl (hb hby at_47) _ (XS.iand X0.here hx rfl (hb hby at_49) rfl kq)))) ?_
  obtain ⟨vf, hvf⟩ : ∃ z0, z0 = (i3 &&& (1048575 : Int32)) := ⟨_, rfl⟩
  rw [← hvf]
  have bvf : 0 ≤ vf.toInt ∧ vf.toInt ≤ 1048575 := (by rw [hvf]; exact own_i20 _)
  clear hvf
  refine own_to s₁ (mkF m 58 #[.val (.long j0), .second, .val (.long j1), .second, .val (.int i2), .val (.int i3), .val (.int i4), .val (.int i5), .val (.int va), .val (.int vb), .val (.int vc), .val (.int vd), .val (.int ve), .val (.int vf), .unset, .unset, .unset, .unset, .unset, .unset, .unset, .unset, .unset, .unset, .unset] [(.int (i4 &&& (4095 : Int32)))]) (fun tq kq => XS.istore X0.here hx rfl (hb hby at_50) rfl (l' := #[.val (.long j0), .second, .val (.long j1), .second, .val (.int i2), .val (.int i3), .val (.int i4), .val (.int i5), .val (.int va), .val (.int vb), .val (.int vc), .val (.int vd), .val (.int ve), .val (.int vf), .unset, .unset, .unset, .unset, .unset, .unset, .unset, .unset, .unset, .unset, .unset]) rfl (XS.iload X0.here hx rfl (hb hby at_52) rfl (XS.sipush X0.here hx rfl (hb hby at_54) (XS.iand X0.here hx rfl (hb hby at_57) rfl kq)))) ?_
  obtain ⟨vg, hvg⟩ : ∃ z0, z0 = (i4 &&& (4095 : Int32)) := ⟨_, rfl⟩
  rw [← hvg]
  have bvg : 0 ≤ vg.toInt ∧ vg.toInt ≤ 4095 := (by rw [hvg]; exact own_i12 _)
  clear hvg
  refine own_to s₁ (mkF m 67 #[.val (.long j0), .second, .val (.long j1), .second, .val (.int i2), .val (.int i3), .val (.int i4), .val (.int i5), .val (.int va), .val (.int vb), .val (.int vc), .val (.int vd), .val (.int ve), .val (.int vf), .val (.int vg), .unset, .unset, .unset, .unset, .unset, .unset, .unset, .unset, .unset, .unset] [(.int ((i5 &&& (2147483647 : Int32)) % (3 : Int32)))]) (fun tq kq => XS.istore X0.here hx rfl (hb hby at_58) rfl (l' := #[.val (.long j0), .second, .val (.long j1), .second, .val (.int i2), .val (.int i3), .val (.int i4), .val (.int i5), .val (.int va), .val (.int vb), .val (.int vc), .val (.int vd), .val (.int ve), .val (.int vf), .val (.int vg), .unset, .unset, .unset, .unset, .unset, .unset, .unset, .unset, .unset, .unset]) rfl (XS.iload X0.here hx rfl (hb hby at_60) rfl (X0.ldcInt hx hown (mvT hZ (own_w hw 2 rfl)) (g := (mkF m 62 #[.val (.long j0), .second, .val (.long j1), .second, .val (.int i2), .val (.int i3), .val (.int i4), .val (.int i5), .val (.int va), .val (.int vb), .val (.int vc), .val (.int vd), .val (.int ve), .val (.int vf), .val (.int vg), .unset, .unset, .unset, .unset, .unset, .unset, .unset, .unset, .unset, .unset] [(.int i5)])) rfl (hb hby at_62) _ (XS.iand X0.here hx rfl (hb hby at_64) rfl (XS.iconst X0.here hx rfl (hb hby at_65) (iremM X0 hx rfl (hb hby at_66) rfl (by decide) kq)))))) ?_
  rcases own_mod3 i5 with hz3 | hz3 | hz3
  · skip
    rw [hz3]
    refine own_to s₁ (mkF m 69 #[.val (.long j0), .second, .val (.long j1), .second, .val (.int i2), .val (.int i3), .val (.int i4), .val (.int i5), .val (.int va), .val (.int vb), .val (.int vc), .val (.int vd), .val (.int ve), .val (.int vf), .val (.int vg), .val (.int (0 : Int32)), .unset, .unset, .unset, .unset, .unset, .unset, .unset, .unset, .unset] []) (fun tq kq => XS.istore X0.here hx rfl (hb hby at_67) rfl (l' := #[.val (.long j0), .second, .val (.long j1), .second, .val (.int i2), .val (.int i3), .val (.int i4), .val (.int i5), .val (.int va), .val (.int vb), .val (.int vc), .val (.int vd), .val (.int ve), .val (.int vf), .val (.int vg), .val (.int (0 : Int32)), .unset, .unset, .unset, .unset, .unset, .unset, .unset, .unset, .unset]) rfl kq) ?_
    obtain ⟨T1, h1, X1, e1, E1, A1, D1, -, st1⟩ := newO X0 hx hZ hown (own_w hw 3 rfl) (own_w hw 4 rfl) (own_w hw 5 rfl) e0 (g := (mkF m 69 #[.val (.long j0), .second, .val (.long j1), .second, .val (.int i2), .val (.int i3), .val (.int i4), .val (.int i5), .val (.int va), .val (.int vb), .val (.int vc), .val (.int vd), .val (.int ve), .val (.int vf), .val (.int vg), .val (.int (0 : Int32)), .unset, .unset, .unset, .unset, .unset, .unset, .unset, .unset, .unset] [])) rfl (hb hby at_69) (by decide) (by decide)
    obtain ⟨b1, g1⟩ : ∃ z, z = h0.size := ⟨_, rfl⟩
    rw [← g1] at A1 D1 st1
    have f2 := SK.ext E1
    have f3 := SR.ext E1
    have sz1 : n0 ≤ b1 := Nat.le_trans Z0 (Nat.le_of_eq g1.symm)
    have Zs1 : n0 ≤ h1.size := Nat.le_trans Z0 E1.1
    have F1_values : Fld Z h1 b1 "com/example/warmjoin/warmjoin/PageReadings" "values" "I" (.int (0 : Int32)) := D1 (Or.inr (own_w hw 13 rfl)) (ty := .int) (by decide)
    have F1_only : Fld Z h1 b1 "com/example/warmjoin/warmjoin/PageReadings" "only" "Lcom/example/warmjoin/warmjoin/PageReadings$Way;" .null := D1 (Or.inr (own_w hw 15 rfl)) (ty := (.object "com/example/warmjoin/warmjoin/PageReadings$Way")) (by decide)
    have F1_takenSince : Fld Z h1 b1 "com/example/warmjoin/warmjoin/PageReadings" "takenSince" "I" (.int (0 : Int32)) := D1 (Or.inl (own_w hw 22 rfl)) (ty := .int) (by decide)
    have F1_bytesSince : Fld Z h1 b1 "com/example/warmjoin/warmjoin/PageReadings" "bytesSince" "J" (.long (0 : Int64)) := D1 (Or.inl (own_w hw 24 rfl)) (ty := .long) (by decide)
    have F1_rowsRead : Fld Z h1 b1 "com/example/warmjoin/warmjoin/PageReadings" "rowsRead" "D" (.double (0 : UInt64)) := D1 (Or.inl (own_w hw 31 rfl)) (ty := .double) (by decide)
    have F1_rowsWanted : Fld Z h1 b1 "com/example/warmjoin/warmjoin/PageReadings" "rowsWanted" "D" (.double (0 : UInt64)) := D1 (Or.inl (own_w hw 34 rfl)) (ty := .double) (by decide)
    have F1_rowsTaken : Fld Z h1 b1 "com/example/warmjoin/warmjoin/PageReadings" "rowsTaken" "D" (.double (0 : UInt64)) := D1 (Or.inl (own_w hw 36 rfl)) (ty := .double) (by decide)
    have F1_valueBytes : Fld Z h1 b1 "com/example/warmjoin/warmjoin/PageReadings" "valueBytes" "D" (.double (0 : UInt64)) := D1 (Or.inl (own_w hw 38 rfl)) (ty := .double) (by decide)
    refine own_to T1 (mkF m 76 #[.val (.long j0), .second, .val (.long j1), .second, .val (.int i2), .val (.int i3), .val (.int i4), .val (.int i5), .val (.int va), .val (.int vb), .val (.int vc), .val (.int vd), .val (.int ve), .val (.int vf), .val (.int vg), .val (.int (0 : Int32)), .unset, .unset, .unset, .unset, .unset, .unset, .unset, .unset, .unset] [.null, (.int vg), (.ref b1), (.ref b1)]) (fun tq kq => st1 _ (XS.dup X1.here hx rfl (hb hby at_72) rfl rfl (XS.iload X1.here hx rfl (hb hby at_73) rfl (XS.aconstNull X1.here hx rfl (hb hby at_75) kq)))) ?_
    obtain ⟨_, _, ⟨T4, L4, k4, n4⟩, -, X4, ⟨Lc4, hQ4, l4, y4, z4⟩, st4⟩ := X1.specialBack hx (y := (⟨"com/example/warmjoin/warmjoin/PageReadings", "<init>", "(ILcom/example/warmjoin/warmjoin/PageReadings$Way;)V"⟩ : MethodName)) rfl hown (mvT hZ (own_w hw 6 rfl)) (mvT hZ (own_w hw 7 rfl)) (mvT hZ (own_w hw 8 rfl)) (by decide) (backOf (W := 1) (rm_init l Z a0 hw [] b1 kk ro vg h1 n0 Zs1 (show PRd Z h1 b1 kk ro (0 : Int32) (0 : Int32) (0 : Int64) (0 : UInt64) (0 : UInt64) (0 : UInt64) (0 : UInt64) from ⟨A1, F1_values, F1_only, F1_rowsTaken, F1_valueBytes, F1_rowsRead, F1_rowsWanted, F1_takenSince, F1_bytesSince, f2, f3⟩) sz1) hZ (own_w hw 8 rfl) (own_w hw 5 rfl) (by decide) (by decide)) (g := (mkF m 76 #[.val (.long j0), .second, .val (.long j1), .second, .val (.int i2), .val (.int i3), .val (.int i4), .val (.int i5), .val (.int va), .val (.int vb), .val (.int vc), .val (.int vd), .val (.int ve), .val (.int vf), .val (.int vg), .val (.int (0 : Int32)), .unset, .unset, .unset, .unset, .unset, .unset, .unset, .unset, .unset] [.null, (.int vg), (.ref b1), (.ref b1)])) rfl (by rw [hml]; rfl) (Steps.refl _) (a := b1) (argsL := [(.int vg), .null]) (rest := [(.ref b1)]) (lenOf pd_0 rfl) rfl (by show 2 * 0 + _ ≤ _; exact Nat.le_of_eq rfl) (hb hby at_76) (fun _ _ => ⟨rfl, e1, (by decide : 1 + 0 ≤ _), (by decide : 8 + 0 ≤ _)⟩)
    dsimp only [Pt.U, Pt.locs, Pt.cells, Pt.slots] at X4 l4 y4 z4 st4 hQ4
    have l4y := l4.symm
    clear l4
    subst l4y
    obtain rfl : k4 = 1 := y4
    obtain rfl : n4 = 8 := z4
    obtain ⟨rfl, N4q, K4q, U4⟩ := hQ4
    have N4 := Fr.app (Fr.nil n0) N4q
    have f5 := A1.keep K4q
    have Zs4 : n0 ≤ T4.heap.size := Nat.le_trans Zs1 K4q.1
    refine own_to T4 (mkF m 118 #[.val (.long j0), .second, .val (.long j1), .second, .val (.int i2), .val (.int i3), .val (.int i4), .val (.int i5), .val (.int va), .val (.int vb), .val (.int vc), .val (.int vd), .val (.int ve), .val (.int vf), .val (.int vg), .val (.int (0 : Int32)), .val (.ref b1), .unset, .unset, .unset, .unset, .unset, .unset, .unset, .unset] [(.int vb), (.int va), (.ref b1)]) (fun tq kq => st4.trans (XS.astore X4.here hx rfl (hb hby at_79) rfl rfl (l' := #[.val (.long j0), .second, .val (.long j1), .second, .val (.int i2), .val (.int i3), .val (.int i4), .val (.int i5), .val (.int va), .val (.int vb), .val (.int vc), .val (.int vd), .val (.int ve), .val (.int vf), .val (.int vg), .val (.int (0 : Int32)), .val (.ref b1), .unset, .unset, .unset, .unset, .unset, .unset, .unset, .unset]) rfl (XS.iload X4.here hx rfl (hb hby at_81) rfl (XS.iconst X4.here hx rfl (hb hby at_83) (XS.icmpYes X4.here hx rfl (pc0 := 84) (pc' := 112) rfl (hb hby at_84) rfl (feq (by decide : ¬ ((0 : Int32) = (2 : Int32)))).2 (by decide) (by decide) (XS.aload X4.here hx rfl (hb hby at_112) rfl rfl (XS.iload X4.here hx rfl (hb hby at_114) rfl (XS.iload X4.here hx rfl (hb hby at_116) rfl kq)))))))) ?_
    obtain ⟨cq6, kq6, q6a, q6b, q6c⟩ := isOf hZ rfl f5
    obtain ⟨_, _, ⟨T6, L6, k6, n6⟩, -, X6, ⟨Lc6, hQ6, l6, y6, z6⟩, st6⟩ := X4.virtualBack hx (y := (⟨"com/example/warmjoin/warmjoin/PageReadings", "read", "(II)V"⟩ : MethodName)) (z := (⟨"com/example/warmjoin/warmjoin/PageReadings", "read", "(II)V"⟩ : MethodName)) hown (mvT hZ (own_w hw 25 rfl)) (mvT hZ (own_w hw 26 rfl)) (notFace_of_selects (args := #[]) (mvT hZ (own_w hw 28 rfl))) (mvT hZ (own_w hw 28 rfl)) (mvT hZ (own_w hw 27 rfl)) (by decide) (backOf (W := 0) (rm_read0 l Z a0 hw [] b1 kk ro vg (0 : Int32) (0 : Int64) (0 : UInt64) (0 : UInt64) (0 : UInt64) (0 : UInt64) va vb (0) (0) (0) (0) va.toInt vb.toInt 0 0 T4.heap n0 Zs4 U4 own_zero own_zero own_zero own_zero (by omega) (by omega) (by omega) (by omega) rfl rfl (by decide) (by decide) (by omega) sz1) hZ (own_w hw 29 rfl) (own_w hw 5 rfl) (by decide) (by decide)) q6a q6c (g := (mkF m 118 #[.val (.long j0), .second, .val (.long j1), .second, .val (.int i2), .val (.int i3), .val (.int i4), .val (.int i5), .val (.int va), .val (.int vb), .val (.int vc), .val (.int vd), .val (.int ve), .val (.int vf), .val (.int vg), .val (.int (0 : Int32)), .val (.ref b1), .unset, .unset, .unset, .unset, .unset, .unset, .unset, .unset] [(.int vb), (.int va), (.ref b1)])) rfl (by rw [hml]; rfl) (Steps.refl _) (argsL := [(.int va), (.int vb)]) (rest := []) (lenOf pd_3 rfl) rfl (by show 2 * 0 + _ ≤ _; exact Nat.le_of_eq rfl) (hb hby at_118) (fun _ _ => ⟨rfl, rfl, (by decide : 1 + 0 ≤ _), (by decide : 8 + 0 ≤ _)⟩)
    dsimp only [Pt.U, Pt.locs, Pt.cells, Pt.slots] at X6 l6 y6 z6 st6 hQ6
    have l6y := l6.symm
    clear l6
    subst l6y
    obtain rfl : k6 = 1 := y6
    obtain rfl : n6 = 8 := z6
    obtain ⟨rfl, N6q, K6q, rt6, vb6, rr6, rw6, U6, Dt6, Dv6, Dr6, Dw6⟩ := hQ6
    have N6 := Fr.app N4 N6q
    have f7 := f5.keep K6q
    have Zs6 : n0 ≤ T6.heap.size := Nat.le_trans Zs4 K6q.1
    refine own_to T6 (mkF m 139 #[.val (.long j0), .second, .val (.long j1), .second, .val (.int i2), .val (.int i3), .val (.int i4), .val (.int i5), .val (.int va), .val (.int vb), .val (.int vc), .val (.int vd), .val (.int ve), .val (.int vf), .val (.int vg), .val (.int (0 : Int32)), .val (.ref b1), .unset, .unset, .unset, .unset, .unset, .unset, .unset, .unset] [(.int vd), (.int vc), (.ref b1)]) (fun tq kq => st6.trans (XS.iload X6.here hx rfl (hb hby at_121) rfl (XS.ifYes X6.here hx rfl (pc0 := 123) (pc' := 133) rfl (hb hby at_123) rfl ((if0 _ _).trans (teq (by decide : (0 : Int32) = (0 : Int32))).1) (by decide) (by decide) (XS.aload X6.here hx rfl (hb hby at_133) rfl rfl (XS.iload X6.here hx rfl (hb hby at_135) rfl (XS.iload X6.here hx rfl (hb hby at_137) rfl kq)))))) ?_
    obtain ⟨cq8, kq8, q8a, q8b, q8c⟩ := isOf hZ rfl f7
    obtain ⟨_, _, ⟨T8, L8, k8, n8⟩, -, X8, ⟨Lc8, hQ8, l8, y8, z8⟩, st8⟩ := X6.virtualBack hx (y := (⟨"com/example/warmjoin/warmjoin/PageReadings", "read", "(II)V"⟩ : MethodName)) (z := (⟨"com/example/warmjoin/warmjoin/PageReadings", "read", "(II)V"⟩ : MethodName)) hown (mvT hZ (own_w hw 25 rfl)) (mvT hZ (own_w hw 26 rfl)) (notFace_of_selects (args := #[]) (mvT hZ (own_w hw 28 rfl))) (mvT hZ (own_w hw 28 rfl)) (mvT hZ (own_w hw 27 rfl)) (by decide) (backOf (W := 0) (rm_read2 l Z a0 hw [] b1 kk ro vg (0 : Int32) (0 : Int64) rt6 vb6 rr6 rw6 vc vd (((0) * 3 + va.toInt * 4)) (((0) * 3 + vb.toInt * 4)) (((0) * 3 + 0 * 4)) (((0) * 3 + 0 * 4)) vc.toInt vd.toInt 0 0 T6.heap n0 Zs6 U6 Dr6 Dw6 Dt6 Dv6 (by omega) (by omega) (by omega) (by omega) rfl rfl (by decide) (by decide) (by omega) sz1) hZ (own_w hw 29 rfl) (own_w hw 5 rfl) (by decide) (by decide)) q8a q8c (g := (mkF m 139 #[.val (.long j0), .second, .val (.long j1), .second, .val (.int i2), .val (.int i3), .val (.int i4), .val (.int i5), .val (.int va), .val (.int vb), .val (.int vc), .val (.int vd), .val (.int ve), .val (.int vf), .val (.int vg), .val (.int (0 : Int32)), .val (.ref b1), .unset, .unset, .unset, .unset, .unset, .unset, .unset, .unset] [(.int vd), (.int vc), (.ref b1)])) rfl (by rw [hml]; rfl) (Steps.refl _) (argsL := [(.int vc), (.int vd)]) (rest := []) (lenOf pd_3 rfl) rfl (by show 2 * 0 + _ ≤ _; exact Nat.le_of_eq rfl) (hb hby at_139) (fun _ _ => ⟨rfl, rfl, (by decide : 1 + 0 ≤ _), (by decide : 8 + 0 ≤ _)⟩)
    dsimp only [Pt.U, Pt.locs, Pt.cells, Pt.slots] at X8 l8 y8 z8 st8 hQ8
    have l8y := l8.symm
    clear l8
    subst l8y
    obtain rfl : k8 = 1 := y8
    obtain rfl : n8 = 8 := z8
    obtain ⟨rfl, N8q, K8q, rt8, vb8, rr8, rw8, U8, Dt8, Dv8, Dr8, Dw8⟩ := hQ8
    have N8 := Fr.app N6 N8q
    have f9 := f7.keep K8q
    have Zs8 : n0 ≤ T8.heap.size := Nat.le_trans Zs6 K8q.1
    refine own_to T8 (mkF m 144 #[.val (.long j0), .second, .val (.long j1), .second, .val (.int i2), .val (.int i3), .val (.int i4), .val (.int i5), .val (.int va), .val (.int vb), .val (.int vc), .val (.int vd), .val (.int ve), .val (.int vf), .val (.int vg), .val (.int (0 : Int32)), .val (.ref b1), .unset, .unset, .unset, .unset, .unset, .unset, .unset, .unset] [(.ref b1)]) (fun tq kq => st8.trans (XS.aload X8.here hx rfl (hb hby at_142) rfl rfl kq)) ?_
    obtain ⟨cq10, kq10, q10a, q10b, q10c⟩ := isOf hZ rfl f9
    obtain ⟨_, _, ⟨T10, L10, k10, n10⟩, -, X10, ⟨Lc10, hQ10, l10, y10, z10⟩, st10⟩ := X8.virtualBack hx (y := (⟨"com/example/warmjoin/warmjoin/PageReadings", "next", "()Lcom/example/warmjoin/warmjoin/PageReadings$Way;"⟩ : MethodName)) (z := (⟨"com/example/warmjoin/warmjoin/PageReadings", "next", "()Lcom/example/warmjoin/warmjoin/PageReadings$Way;"⟩ : MethodName)) hown (mvT hZ (own_w hw 39 rfl)) (mvT hZ (own_w hw 40 rfl)) (notFace_of_selects (args := #[]) (mvT hZ (own_w hw 42 rfl))) (mvT hZ (own_w hw 42 rfl)) (mvT hZ (own_w hw 41 rfl)) (by decide) (backOf (W := 0) (rm_next0 l Z a0 hw [] b1 kk ro vg (0 : Int32) (0 : Int64) rt8 vb8 rr8 rw8 T8.heap n0 Zs8 U8 (Dy.cast (by decide) Dt8)) hZ (own_w hw 43 rfl) (own_w hw 5 rfl) (by decide) (by decide)) q10a q10c (g := (mkF m 144 #[.val (.long j0), .second, .val (.long j1), .second, .val (.int i2), .val (.int i3), .val (.int i4), .val (.int i5), .val (.int va), .val (.int vb), .val (.int vc), .val (.int vd), .val (.int ve), .val (.int vf), .val (.int vg), .val (.int (0 : Int32)), .val (.ref b1), .unset, .unset, .unset, .unset, .unset, .unset, .unset, .unset] [(.ref b1)])) rfl (by rw [hml]; rfl) (Steps.refl _) (argsL := []) (rest := []) (lenOf pd_4 rfl) rfl (by show 2 * 0 + _ ≤ _; exact Nat.le_of_eq rfl) (hb hby at_144) (fun _ _ => ⟨rfl, rfl, (by decide : 1 + 0 ≤ _), (by decide : 8 + 0 ≤ _)⟩)
    dsimp only [Pt.U, Pt.locs, Pt.cells, Pt.slots] at X10 l10 y10 z10 st10 hQ10
    have l10y := l10.symm
    clear l10
    subst l10y
    obtain rfl : k10 = 1 := y10
    obtain rfl : n10 = 8 := z10
    obtain ⟨rfl, N10q, e10⟩ := hQ10
    have N10 := Fr.app N8 N10q
    refine own_to T10 (mkF m 281 #[.val (.long j0), .second, .val (.long j1), .second, .val (.int i2), .val (.int i3), .val (.int i4), .val (.int i5), .val (.int va), .val (.int vb), .val (.int vc), .val (.int vd), .val (.int ve), .val (.int vf), .val (.int vg), .val (.int (0 : Int32)), .val (.ref b1), .val (.ref ro), .val (.int (0 : Int32)), .unset, .unset, .unset, .unset, .unset, .unset] []) (fun tq kq => st10.trans (XS.astore X10.here hx rfl (hb hby at_147) rfl rfl (l' := #[.val (.long j0), .second, .val (.long j1), .second, .val (.int i2), .val (.int i3), .val (.int i4), .val (.int i5), .val (.int va), .val (.int vb), .val (.int vc), .val (.int vd), .val (.int ve), .val (.int vf), .val (.int vg), .val (.int (0 : Int32)), .val (.ref b1), .val (.ref ro), .unset, .unset, .unset, .unset, .unset, .unset, .unset]) rfl (XS.iload X10.here hx rfl (hb hby at_149) rfl (XS.ifNo X10.here hx rfl (hb hby at_151) rfl ((if0 _ _).trans (teq (by decide : (0 : Int32) = (0 : Int32))).2) (XS.iconst X10.here hx rfl (hb hby at_154) (XS.istore X10.here hx rfl (hb hby at_155) rfl (l' := #[.val (.long j0), .second, .val (.long j1), .second, .val (.int i2), .val (.int i3), .val (.int i4), .val (.int i5), .val (.int va), .val (.int vb), .val (.int vc), .val (.int vd), .val (.int ve), .val (.int vf), .val (.int vg), .val (.int (0 : Int32)), .val (.ref b1), .val (.ref ro), .val (.int (0 : Int32)), .unset, .unset, .unset, .unset, .unset, .unset]) rfl (XS.goto X10.here hx rfl (pc0 := 157) (pc' := 270) rfl (hb hby at_157) (by decide) (by decide) (XS.iload X10.here hx rfl (hb hby at_270) rfl (XS.ifYes X10.here hx rfl (pc0 := 272) (pc' := 281) rfl (hb hby at_272) rfl ((if0 _ _).trans (teq (by decide : (0 : Int32) = (0 : Int32))).1) (by decide) (by decide) kq))))))))) ?_
    obtain ⟨-, -, -, -, -, -, -, -, -, SKs11, SRs11⟩ := id U8
    obtain ⟨T12, X12, e12, st12⟩ := getS2 X10 hx hZ hown (host := "") (Or.inl (own_w hw 57 rfl)) Via.refl e10 SRs11 (g := (mkF m 281 #[.val (.long j0), .second, .val (.long j1), .second, .val (.int i2), .val (.int i3), .val (.int i4), .val (.int i5), .val (.int va), .val (.int vb), .val (.int vc), .val (.int vd), .val (.int ve), .val (.int vf), .val (.int vg), .val (.int (0 : Int32)), .val (.ref b1), .val (.ref ro), .val (.int (0 : Int32)), .unset, .unset, .unset, .unset, .unset, .unset] [])) rfl (hb hby at_281)
    refine own_to T12 (mkF m 298 #[.val (.long j0), .second, .val (.long j1), .second, .val (.int i2), .val (.int i3), .val (.int i4), .val (.int i5), .val (.int va), .val (.int vb), .val (.int vc), .val (.int vd), .val (.int ve), .val (.int vf), .val (.int vg), .val (.int (0 : Int32)), .val (.ref b1), .val (.ref ro), .val (.int (0 : Int32)), .val (.ref ro), .unset, .unset, .unset, .unset, .unset] [(.int (1 : Int32))]) (fun tq kq => st12 _ (XS.astore X12.here hx rfl (hb hby at_284) rfl rfl (l' := #[.val (.long j0), .second, .val (.long j1), .second, .val (.int i2), .val (.int i3), .val (.int i4), .val (.int i5), .val (.int va), .val (.int vb), .val (.int vc), .val (.int vd), .val (.int ve), .val (.int vf), .val (.int vg), .val (.int (0 : Int32)), .val (.ref b1), .val (.ref ro), .val (.int (0 : Int32)), .val (.ref ro), .unset, .unset, .unset, .unset, .unset]) rfl (XS.aload X12.here hx rfl (hb hby at_286) rfl rfl (XS.aload X12.here hx rfl (hb hby at_288) rfl rfl (Jvm.RoadKit.acmp (g := (mkF m 290 #[.val (.long j0), .second, .val (.long j1), .second, .val (.int i2), .val (.int i3), .val (.int i4), .val (.int i5), .val (.int va), .val (.int vb), .val (.int vc), .val (.int vd), .val (.int ve), .val (.int vf), .val (.int vg), .val (.int (0 : Int32)), .val (.ref b1), .val (.ref ro), .val (.int (0 : Int32)), .val (.ref ro), .unset, .unset, .unset, .unset, .unset] [(.ref ro), (.ref ro)])) X12 hx rfl rfl rfl (pc0 := 290) (pc' := 293) (same := true) rfl (hb hby at_290) rfl (decide_eq_true rfl) (by decide) (by decide) (XS.iconst X12.here hx rfl (hb hby at_293) (XS.goto X12.here hx rfl (pc0 := 294) (pc' := 298) rfl (hb hby at_294) (by decide) (by decide) kq))))))) ?_
    exact own_retZ X12 hx hret hlk (hb hby at_298) (by decide) (by decide) (Or.inr rfl) ⟨rfl, N10⟩
  · skip
    rw [hz3]
    refine own_to s₁ (mkF m 69 #[.val (.long j0), .second, .val (.long j1), .second, .val (.int i2), .val (.int i3), .val (.int i4), .val (.int i5), .val (.int va), .val (.int vb), .val (.int vc), .val (.int vd), .val (.int ve), .val (.int vf), .val (.int vg), .val (.int (1 : Int32)), .unset, .unset, .unset, .unset, .unset, .unset, .unset, .unset, .unset] []) (fun tq kq => XS.istore X0.here hx rfl (hb hby at_67) rfl (l' := #[.val (.long j0), .second, .val (.long j1), .second, .val (.int i2), .val (.int i3), .val (.int i4), .val (.int i5), .val (.int va), .val (.int vb), .val (.int vc), .val (.int vd), .val (.int ve), .val (.int vf), .val (.int vg), .val (.int (1 : Int32)), .unset, .unset, .unset, .unset, .unset, .unset, .unset, .unset, .unset]) rfl kq) ?_
    obtain ⟨T13, h13, X13, e13, E13, A13, D13, -, st13⟩ := newO X0 hx hZ hown (own_w hw 3 rfl) (own_w hw 4 rfl) (own_w hw 5 rfl) e0 (g := (mkF m 69 #[.val (.long j0), .second, .val (.long j1), .second, .val (.int i2), .val (.int i3), .val (.int i4), .val (.int i5), .val (.int va), .val (.int vb), .val (.int vc), .val (.int vd), .val (.int ve), .val (.int vf), .val (.int vg), .val (.int (1 : Int32)), .unset, .unset, .unset, .unset, .unset, .unset, .unset, .unset, .unset] [])) rfl (hb hby at_69) (by decide) (by decide)
    obtain ⟨b13, g13⟩ : ∃ z, z = h0.size := ⟨_, rfl⟩
    rw [← g13] at A13 D13 st13
    have f14 := SK.ext E13
    have f15 := SR.ext E13
    have sz13 : n0 ≤ b13 := Nat.le_trans Z0 (Nat.le_of_eq g13.symm)
    have Zs13 : n0 ≤ h13.size := Nat.le_trans Z0 E13.1
    have F13_values : Fld Z h13 b13 "com/example/warmjoin/warmjoin/PageReadings" "values" "I" (.int (0 : Int32)) := D13 (Or.inr (own_w hw 13 rfl)) (ty := .int) (by decide)
    have F13_only : Fld Z h13 b13 "com/example/warmjoin/warmjoin/PageReadings" "only" "Lcom/example/warmjoin/warmjoin/PageReadings$Way;" .null := D13 (Or.inr (own_w hw 15 rfl)) (ty := (.object "com/example/warmjoin/warmjoin/PageReadings$Way")) (by decide)
    have F13_takenSince : Fld Z h13 b13 "com/example/warmjoin/warmjoin/PageReadings" "takenSince" "I" (.int (0 : Int32)) := D13 (Or.inl (own_w hw 22 rfl)) (ty := .int) (by decide)
    have F13_bytesSince : Fld Z h13 b13 "com/example/warmjoin/warmjoin/PageReadings" "bytesSince" "J" (.long (0 : Int64)) := D13 (Or.inl (own_w hw 24 rfl)) (ty := .long) (by decide)
    have F13_rowsRead : Fld Z h13 b13 "com/example/warmjoin/warmjoin/PageReadings" "rowsRead" "D" (.double (0 : UInt64)) := D13 (Or.inl (own_w hw 31 rfl)) (ty := .double) (by decide)
    have F13_rowsWanted : Fld Z h13 b13 "com/example/warmjoin/warmjoin/PageReadings" "rowsWanted" "D" (.double (0 : UInt64)) := D13 (Or.inl (own_w hw 34 rfl)) (ty := .double) (by decide)
    have F13_rowsTaken : Fld Z h13 b13 "com/example/warmjoin/warmjoin/PageReadings" "rowsTaken" "D" (.double (0 : UInt64)) := D13 (Or.inl (own_w hw 36 rfl)) (ty := .double) (by decide)
    have F13_valueBytes : Fld Z h13 b13 "com/example/warmjoin/warmjoin/PageReadings" "valueBytes" "D" (.double (0 : UInt64)) := D13 (Or.inl (own_w hw 38 rfl)) (ty := .double) (by decide)
    refine own_to T13 (mkF m 76 #[.val (.long j0), .second, .val (.long j1), .second, .val (.int i2), .val (.int i3), .val (.int i4), .val (.int i5), .val (.int va), .val (.int vb), .val (.int vc), .val (.int vd), .val (.int ve), .val (.int vf), .val (.int vg), .val (.int (1 : Int32)), .unset, .unset, .unset, .unset, .unset, .unset, .unset, .unset, .unset] [.null, (.int vg), (.ref b13), (.ref b13)]) (fun tq kq => st13 _ (XS.dup X13.here hx rfl (hb hby at_72) rfl rfl (XS.iload X13.here hx rfl (hb hby at_73) rfl (XS.aconstNull X13.here hx rfl (hb hby at_75) kq)))) ?_
    obtain ⟨_, _, ⟨T16, L16, k16, n16⟩, -, X16, ⟨Lc16, hQ16, l16, y16, z16⟩, st16⟩ := X13.specialBack hx (y := (⟨"com/example/warmjoin/warmjoin/PageReadings", "<init>", "(ILcom/example/warmjoin/warmjoin/PageReadings$Way;)V"⟩ : MethodName)) rfl hown (mvT hZ (own_w hw 6 rfl)) (mvT hZ (own_w hw 7 rfl)) (mvT hZ (own_w hw 8 rfl)) (by decide) (backOf (W := 1) (rm_init l Z a0 hw [] b13 kk ro vg h13 n0 Zs13 (show PRd Z h13 b13 kk ro (0 : Int32) (0 : Int32) (0 : Int64) (0 : UInt64) (0 : UInt64) (0 : UInt64) (0 : UInt64) from ⟨A13, F13_values, F13_only, F13_rowsTaken, F13_valueBytes, F13_rowsRead, F13_rowsWanted, F13_takenSince, F13_bytesSince, f14, f15⟩) sz13) hZ (own_w hw 8 rfl) (own_w hw 5 rfl) (by decide) (by decide)) (g := (mkF m 76 #[.val (.long j0), .second, .val (.long j1), .second, .val (.int i2), .val (.int i3), .val (.int i4), .val (.int i5), .val (.int va), .val (.int vb), .val (.int vc), .val (.int vd), .val (.int ve), .val (.int vf), .val (.int vg), .val (.int (1 : Int32)), .unset, .unset, .unset, .unset, .unset, .unset, .unset, .unset, .unset] [.null, (.int vg), (.ref b13), (.ref b13)])) rfl (by rw [hml]; rfl) (Steps.refl _) (a := b13) (argsL := [(.int vg), .null]) (rest := [(.ref b13)]) (lenOf pd_0 rfl) rfl (by show 2 * 0 + _ ≤ _; exact Nat.le_of_eq rfl) (hb hby at_76) (fun _ _ => ⟨rfl, e13, (by decide : 1 + 0 ≤ _), (by decide : 8 + 0 ≤ _)⟩)
    dsimp only [Pt.U, Pt.locs, Pt.cells, Pt.slots] at X16 l16 y16 z16 st16 hQ16
    have l16y := l16.symm
    clear l16
    subst l16y
    obtain rfl : k16 = 1 := y16
    obtain rfl : n16 = 8 := z16
    obtain ⟨rfl, N16q, K16q, U16⟩ := hQ16
    have N16 := Fr.app (Fr.nil n0) N16q
    have f17 := A13.keep K16q
    have Zs16 : n0 ≤ T16.heap.size := Nat.le_trans Zs13 K16q.1
    refine own_to T16 (mkF m 118 #[.val (.long j0), .second, .val (.long j1), .second, .val (.int i2), .val (.int i3), .val (.int i4), .val (.int i5), .val (.int va), .val (.int vb), .val (.int vc), .val (.int vd), .val (.int ve), .val (.int vf), .val (.int vg), .val (.int (1 : Int32)), .val (.ref b13), .unset, .unset, .unset, .unset, .unset, .unset, .unset, .unset] [(.int vb), (.int va), (.ref b13)]) (fun tq kq => st16.trans (XS.astore X16.here hx rfl (hb hby at_79) rfl rfl (l' := #[.val (.long j0), .second, .val (.long j1), .second, .val (.int i2), .val (.int i3), .val (.int i4), .val (.int i5), .val (.int va), .val (.int vb), .val (.int vc), .val (.int vd), .val (.int ve), .val (.int vf), .val (.int vg), .val (.int (1 : Int32)), .val (.ref b13), .unset, .unset, .unset, .unset, .unset, .unset, .unset, .unset]) rfl (XS.iload X16.here hx rfl (hb hby at_81) rfl (XS.iconst X16.here hx rfl (hb hby at_83) (XS.icmpYes X16.here hx rfl (pc0 := 84) (pc' := 112) rfl (hb hby at_84) rfl (feq (by decide : ¬ ((1 : Int32) = (2 : Int32)))).2 (by decide) (by decide) (XS.aload X16.here hx rfl (hb hby at_112) rfl rfl (XS.iload X16.here hx rfl (hb hby at_114) rfl (XS.iload X16.here hx rfl (hb hby at_116) rfl kq)))))))) ?_
    obtain ⟨cq18, kq18, q18a, q18b, q18c⟩ := isOf hZ rfl f17
    obtain ⟨_, _, ⟨T18, L18, k18, n18⟩, -, X18, ⟨Lc18, hQ18, l18, y18, z18⟩, st18⟩ := X16.virtualBack hx (y := (⟨"com/example/warmjoin/warmjoin/PageReadings", "read", "(II)V"⟩ : MethodName)) (z := (⟨"com/example/warmjoin/warmjoin/PageReadings", "read", "(II)V"⟩ : MethodName)) hown (mvT hZ (own_w hw 25 rfl)) (mvT hZ (own_w hw 26 rfl)) (notFace_of_selects (args := #[]) (mvT hZ (own_w hw 28 rfl))) (mvT hZ (own_w hw 28 rfl)) (mvT hZ (own_w hw 27 rfl)) (by decide) (backOf (W := 0) (rm_read0 l Z a0 hw [] b13 kk ro vg (0 : Int32) (0 : Int64) (0 : UInt64) (0 : UInt64) (0 : UInt64) (0 : UInt64) va vb (0) (0) (0) (0) va.toInt vb.toInt 0 0 T16.heap n0 Zs16 U16 own_zero own_zero own_zero own_zero (by omega) (by omega) (by omega) (by omega) rfl rfl (by decide) (by decide) (by omega) sz13) hZ (own_w hw 29 rfl) (own_w hw 5 rfl) (by decide) (by decide)) q18a q18c (g := (mkF m 118 #[.val (.long j0), .second, .val (.long j1), .second, .val (.int i2), .val (.int i3), .val (.int i4), .val (.int i5), .val (.int va), .val (.int vb), .val (.int vc), .val (.int vd), .val (.int ve), .val (.int vf), .val (.int vg), .val (.int (1 : Int32)), .val (.ref b13), .unset, .unset, .unset, .unset, .unset, .unset, .unset, .unset] [(.int vb), (.int va), (.ref b13)])) rfl (by rw [hml]; rfl) (Steps.refl _) (argsL := [(.int va), (.int vb)]) (rest := []) (lenOf pd_3 rfl) rfl (by show 2 * 0 + _ ≤ _; exact Nat.le_of_eq rfl) (hb hby at_118) (fun _ _ => ⟨rfl, rfl, (by decide : 1 + 0 ≤ _), (by decide : 8 + 0 ≤ _)⟩)
    dsimp only [Pt.U, Pt.locs, Pt.cells, Pt.slots] at X18 l18 y18 z18 st18 hQ18
    have l18y := l18.symm
    clear l18
    subst l18y
    obtain rfl : k18 = 1 := y18
    obtain rfl : n18 = 8 := z18
    obtain ⟨rfl, N18q, K18q, rt18, vb18, rr18, rw18, U18, Dt18, Dv18, Dr18, Dw18⟩ := hQ18
    have N18 := Fr.app N16 N18q
    have f19 := f17.keep K18q
    have Zs18 : n0 ≤ T18.heap.size := Nat.le_trans Zs16 K18q.1
    refine own_to T18 (mkF m 130 #[.val (.long j0), .second, .val (.long j1), .second, .val (.int i2), .val (.int i3), .val (.int i4), .val (.int i5), .val (.int va), .val (.int vb), .val (.int vc), .val (.int vd), .val (.int ve), .val (.int vf), .val (.int vg), .val (.int (1 : Int32)), .val (.ref b13), .unset, .unset, .unset, .unset, .unset, .unset, .unset, .unset] [(.int vf), (.ref b13)]) (fun tq kq => st18.trans (XS.iload X18.here hx rfl (hb hby at_121) rfl (XS.ifNo X18.here hx rfl (hb hby at_123) rfl ((if0 _ _).trans (feq (by decide : ¬ ((1 : Int32) = (0 : Int32)))).1) (XS.aload X18.here hx rfl (hb hby at_126) rfl rfl (XS.iload X18.here hx rfl (hb hby at_128) rfl kq))))) ?_
    obtain ⟨cq20, kq20, q20a, q20b, q20c⟩ := isOf hZ rfl f19
    obtain ⟨_, _, ⟨T20, L20, k20, n20⟩, -, X20, ⟨Lc20, hQ20, l20, y20, z20⟩, st20⟩ := X18.virtualBack hx (y := (⟨"com/example/warmjoin/warmjoin/PageReadings", "took", "(I)V"⟩ : MethodName)) (z := (⟨"com/example/warmjoin/warmjoin/PageReadings", "took", "(I)V"⟩ : MethodName)) hown (mvT hZ (own_w hw 16 rfl)) (mvT hZ (own_w hw 17 rfl)) (notFace_of_selects (args := #[]) (mvT hZ (own_w hw 19 rfl))) (mvT hZ (own_w hw 19 rfl)) (mvT hZ (own_w hw 18 rfl)) (by decide) (backOf (W := 0) (rm_took l Z a0 hw [] b13 kk ro vg (0 : Int32) (0 : Int64) rt18 vb18 rr18 rw18 vf (1 : Int32) (vf.toInt64) T18.heap n0 Zs18 U18 (by decide) (Int64.zero_add _) sz13) hZ (own_w hw 20 rfl) (own_w hw 5 rfl) (by decide) (by decide)) q20a q20c (g := (mkF m 130 #[.val (.long j0), .second, .val (.long j1), .second, .val (.int i2), .val (.int i3), .val (.int i4), .val (.int i5), .val (.int va), .val (.int vb), .val (.int vc), .val (.int vd), .val (.int ve), .val (.int vf), .val (.int vg), .val (.int (1 : Int32)), .val (.ref b13), .unset, .unset, .unset, .unset, .unset, .unset, .unset, .unset] [(.int vf), (.ref b13)])) rfl (by rw [hml]; rfl) (Steps.refl _) (argsL := [(.int vf)]) (rest := []) (lenOf pd_2 rfl) rfl (by show 2 * 0 + _ ≤ _; exact Nat.le_of_eq rfl) (hb hby at_130) (fun _ _ => ⟨rfl, rfl, (by decide : 1 + 0 ≤ _), (by decide : 8 + 0 ≤ _)⟩)
    dsimp only [Pt.U, Pt.locs, Pt.cells, Pt.slots] at X20 l20 y20 z20 st20 hQ20
    have l20y := l20.symm
    clear l20
    subst l20y
    obtain rfl : k20 = 1 := y20
    obtain rfl : n20 = 8 := z20
    obtain ⟨rfl, N20q, K20q, U20⟩ := hQ20
    have N20 := Fr.app N18 N20q
    have f21 := f19.keep K20q
    have Zs20 : n0 ≤ T20.heap.size := Nat.le_trans Zs18 K20q.1
    refine own_to T20 (mkF m 139 #[.val (.long j0), .second, .val (.long j1), .second, .val (.int i2), .val (.int i3), .val (.int i4), .val (.int i5), .val (.int va), .val (.int vb), .val (.int vc), .val (.int vd), .val (.int ve), .val (.int vf), .val (.int vg), .val (.int (1 : Int32)), .val (.ref b13), .unset, .unset, .unset, .unset, .unset, .unset, .unset, .unset] [(.int vd), (.int vc), (.ref b13)]) (fun tq kq => st20.trans (XS.aload X20.here hx rfl (hb hby at_133) rfl rfl (XS.iload X20.here hx rfl (hb hby at_135) rfl (XS.iload X20.here hx rfl (hb hby at_137) rfl kq)))) ?_
    obtain ⟨cq22, kq22, q22a, q22b, q22c⟩ := isOf hZ rfl f21
    obtain ⟨_, _, ⟨T22, L22, k22, n22⟩, -, X22, ⟨Lc22, hQ22, l22, y22, z22⟩, st22⟩ := X20.virtualBack hx (y := (⟨"com/example/warmjoin/warmjoin/PageReadings", "read", "(II)V"⟩ : MethodName)) (z := (⟨"com/example/warmjoin/warmjoin/PageReadings", "read", "(II)V"⟩ : MethodName)) hown (mvT hZ (own_w hw 25 rfl)) (mvT hZ (own_w hw 26 rfl)) (notFace_of_selects (args := #[]) (mvT hZ (own_w hw 28 rfl))) (mvT hZ (own_w hw 28 rfl)) (mvT hZ (own_w hw 27 rfl)) (by decide) (backOf (W := 0) (rm_read2 l Z a0 hw [] b13 kk ro vg (1 : Int32) (vf.toInt64) rt18 vb18 rr18 rw18 vc vd (((0) * 3 + va.toInt * 4)) (((0) * 3 + vb.toInt * 4)) (((0) * 3 + 0 * 4)) (((0) * 3 + 0 * 4)) vc.toInt vd.toInt 1 (vf.toInt) T20.heap n0 Zs20 U20 Dr18 Dw18 Dt18 Dv18 (by omega) (by omega) (by omega) (by omega) rfl rfl (by decide) (own_l _) (by omega) sz13) hZ (own_w hw 29 rfl) (own_w hw 5 rfl) (by decide) (by decide)) q22a q22c (g := (mkF m 139 #[.val (.long j0), .second, .val (.long j1), .second, .val (.int i2), .val (.int i3), .val (.int i4), .val (.int i5), .val (.int va), .val (.int vb), .val (.int vc), .val (.int vd), .val (.int ve), .val (.int vf), .val (.int vg), .val (.int (1 : Int32)), .val (.ref b13), .unset, .unset, .unset, .unset, .unset, .unset, .unset, .unset] [(.int vd), (.int vc), (.ref b13)])) rfl (by rw [hml]; rfl) (Steps.refl _) (argsL := [(.int vc), (.int vd)]) (rest := []) (lenOf pd_3 rfl) rfl (by show 2 * 0 + _ ≤ _; exact Nat.le_of_eq rfl) (hb hby at_139) (fun _ _ => ⟨rfl, rfl, (by decide : 1 + 0 ≤ _), (by decide : 8 + 0 ≤ _)⟩)
    dsimp only [Pt.U, Pt.locs, Pt.cells, Pt.slots] at X22 l22 y22 z22 st22 hQ22
    have l22y := l22.symm
    clear l22
    subst l22y
    obtain rfl : k22 = 1 := y22
    obtain rfl : n22 = 8 := z22
    obtain ⟨rfl, N22q, K22q, rt22, vb22, rr22, rw22, U22, Dt22, Dv22, Dr22, Dw22⟩ := hQ22
    have N22 := Fr.app N20 N22q
    have f23 := f21.keep K22q
    have Zs22 : n0 ≤ T22.heap.size := Nat.le_trans Zs20 K22q.1
    refine own_to T22 (mkF m 144 #[.val (.long j0), .second, .val (.long j1), .second, .val (.int i2), .val (.int i3), .val (.int i4), .val (.int i5), .val (.int va), .val (.int vb), .val (.int vc), .val (.int vd), .val (.int ve), .val (.int vf), .val (.int vg), .val (.int (1 : Int32)), .val (.ref b13), .unset, .unset, .unset, .unset, .unset, .unset, .unset, .unset] [(.ref b13)]) (fun tq kq => st22.trans (XS.aload X22.here hx rfl (hb hby at_142) rfl rfl kq)) ?_
    by_cases hcond : 16384 * (3 * vb.toInt + 4 * vd.toInt) < ((3 * va.toInt + 4 * vc.toInt) - (3 * vb.toInt + 4 * vd.toInt)) * (16 * vf.toInt + 512 * vg.toInt)
    · skip
      obtain ⟨cq24, kq24, q24a, q24b, q24c⟩ := isOf hZ rfl f23
      obtain ⟨_, _, ⟨T24, L24, k24, n24⟩, -, X24, ⟨Lc24, hQ24, l24, y24, z24⟩, st24⟩ := X22.virtualBack hx (y := (⟨"com/example/warmjoin/warmjoin/PageReadings", "next", "()Lcom/example/warmjoin/warmjoin/PageReadings$Way;"⟩ : MethodName)) (z := (⟨"com/example/warmjoin/warmjoin/PageReadings", "next", "()Lcom/example/warmjoin/warmjoin/PageReadings$Way;"⟩ : MethodName)) hown (mvT hZ (own_w hw 39 rfl)) (mvT hZ (own_w hw 40 rfl)) (notFace_of_selects (args := #[]) (mvT hZ (own_w hw 42 rfl))) (mvT hZ (own_w hw 42 rfl)) (mvT hZ (own_w hw 41 rfl)) (by decide) (backOf (W := 0) (rm_next4kk l Z a0 hw [] b13 kk ro vg (0 : Int32) (0 : Int64) rt22 vb22 rr22 rw22 (((((0) * 3 + va.toInt * 4)) * 3 + vc.toInt * 16)) (((((0) * 3 + vb.toInt * 4)) * 3 + vd.toInt * 16)) (((((0) * 3 + 0 * 4)) * 3 + (vf.toInt) * 16)) T22.heap n0 Zs22 U22 Dr22 Dw22 (Dy.cast (by decide) Dt22) Dv22 (by omega) (by omega) (by omega) bvg ((own_c4 (X := 3 * va.toInt + 4 * vc.toInt) (Y := 3 * vb.toInt + 4 * vd.toInt) (Z := 16 * vf.toInt + 512 * vg.toInt) (by omega) (by omega) (by omega)).mpr hcond)) hZ (own_w hw 43 rfl) (own_w hw 5 rfl) (by decide) (by decide)) q24a q24c (g := (mkF m 144 #[.val (.long j0), .second, .val (.long j1), .second, .val (.int i2), .val (.int i3), .val (.int i4), .val (.int i5), .val (.int va), .val (.int vb), .val (.int vc), .val (.int vd), .val (.int ve), .val (.int vf), .val (.int vg), .val (.int (1 : Int32)), .val (.ref b13), .unset, .unset, .unset, .unset, .unset, .unset, .unset, .unset] [(.ref b13)])) rfl (by rw [hml]; rfl) (Steps.refl _) (argsL := []) (rest := []) (lenOf pd_4 rfl) rfl (by show 2 * 0 + _ ≤ _; exact Nat.le_of_eq rfl) (hb hby at_144) (fun _ _ => ⟨rfl, rfl, (by decide : 1 + 0 ≤ _), (by decide : 8 + 0 ≤ _)⟩)
      dsimp only [Pt.U, Pt.locs, Pt.cells, Pt.slots] at X24 l24 y24 z24 st24 hQ24
      have l24y := l24.symm
      clear l24
      subst l24y
      obtain rfl : k24 = 1 := y24
      obtain rfl : n24 = 8 := z24
      obtain ⟨rfl, N24q, e24⟩ := hQ24
      have N24 := Fr.app N22 N24q
      refine own_to T24 (mkF m 172 #[.val (.long j0), .second, .val (.long j1), .second, .val (.int i2), .val (.int i3), .val (.int i4), .val (.int i5), .val (.int va), .val (.int vb), .val (.int vc), .val (.int vd), .val (.int ve), .val (.int vf), .val (.int vg), .val (.int (1 : Int32)), .val (.ref b13), .val (.ref kk), .unset, .unset, .unset, .unset, .unset, .unset, .unset] [(.int vc), (.long (4 : Int64)), (.long ((3 : Int64) * (va.toInt64)))]) (fun tq kq => st24.trans (XS.astore X24.here hx rfl (hb hby at_147) rfl rfl (l' := #[.val (.long j0), .second, .val (.long j1), .second, .val (.int i2), .val (.int i3), .val (.int i4), .val (.int i5), .val (.int va), .val (.int vb), .val (.int vc), .val (.int vd), .val (.int ve), .val (.int vf), .val (.int vg), .val (.int (1 : Int32)), .val (.ref b13), .val (.ref kk), .unset, .unset, .unset, .unset, .unset, .unset, .unset]) rfl (XS.iload X24.here hx rfl (hb hby at_149) rfl (XS.ifYes X24.here hx rfl (pc0 := 151) (pc' := 160) rfl (hb hby at_151) rfl ((if0 _ _).trans (feq (by decide : ¬ ((1 : Int32) = (0 : Int32)))).2) (by decide) (by decide) (X24.ldc2Long hx hown (mvT hZ (own_w hw 49 rfl)) (g := (mkF m 160 #[.val (.long j0), .second, .val (.long j1), .second, .val (.int i2), .val (.int i3), .val (.int i4), .val (.int i5), .val (.int va), .val (.int vb), .val (.int vc), .val (.int vd), .val (.int ve), .val (.int vf), .val (.int vg), .val (.int (1 : Int32)), .val (.ref b13), .val (.ref kk), .unset, .unset, .unset, .unset, .unset, .unset, .unset] [])) rfl (hb hby at_160) _ (XS.iload X24.here hx rfl (hb hby at_163) rfl (XS.i2l X24.here hx rfl (hb hby at_165) rfl (XS.lmul X24.here hx rfl (hb hby at_166) rfl (X24.ldc2Long hx hown (mvT hZ (own_w hw 50 rfl)) (g := (mkF m 167 #[.val (.long j0), .second, .val (.long j1), .second, .val (.int i2), .val (.int i3), .val (.int i4), .val (.int i5), .val (.int va), .val (.int vb), .val (.int vc), .val (.int vd), .val (.int ve), .val (.int vf), .val (.int vg), .val (.int (1 : Int32)), .val (.ref b13), .val (.ref kk), .unset, .unset, .unset, .unset, .unset, .unset, .unset] [(.long ((3 : Int64) * (va.toInt64)))])) rfl (hb hby at_167) _ (XS.iload X24.here hx rfl (hb hby at_170) rfl kq)))))))))) ?_
      refine own_to T24 (mkF m 175 #[.val (.long j0), .second, .val (.long j1), .second, .val (.int i2), .val (.int i3), .val (.int i4), .val (.int i5), .val (.int va), .val (.int vb), .val (.int vc), .val (.int vd), .val (.int ve), .val (.int vf), .val (.int vg), .val (.int (1 : Int32)), .val (.ref b13), .val (.ref kk), .unset, .unset, .unset, .unset, .unset, .unset, .unset] [(.long (((3 : Int64) * (va.toInt64)) + ((4 : Int64) * (vc.toInt64))))]) (fun tq kq => XS.i2l X24.here hx rfl (hb hby at_172) rfl (XS.lmul X24.here hx rfl (hb hby at_173) rfl (XS.ladd X24.here hx rfl (hb hby at_174) rfl kq))) ?_
      obtain ⟨jx, hjx⟩ : ∃ z0, z0 = (((3 : Int64) * (va.toInt64)) + ((4 : Int64) * (vc.toInt64))) := ⟨_, rfl⟩
      rw [← hjx]
      have ejx : jx.toInt = 3 * va.toInt + 4 * vc.toInt := by rw [hjx]; exact own_lin (by decide) (by decide) (by decide) (by decide) bva bvc (fun z h1 h2 => ⟨by omega, by omega⟩) (fun z h1 h2 => ⟨by omega, by omega⟩)
      clear hjx
      refine own_to T24 (mkF m 192 #[.val (.long j0), .second, .val (.long j1), .second, .val (.int i2), .val (.int i3), .val (.int i4), .val (.int i5), .val (.int va), .val (.int vb), .val (.int vc), .val (.int vd), .val (.int ve), .val (.int vf), .val (.int vg), .val (.int (1 : Int32)), .val (.ref b13), .val (.ref kk), .unset, .val (.long jx), .second, .unset, .unset, .unset, .unset] [(.long (((3 : Int64) * (vb.toInt64)) + ((4 : Int64) * (vd.toInt64))))]) (fun tq kq => XS.lstore X24.here hx rfl (hb hby at_175) rfl (l' := #[.val (.long j0), .second, .val (.long j1), .second, .val (.int i2), .val (.int i3), .val (.int i4), .val (.int i5), .val (.int va), .val (.int vb), .val (.int vc), .val (.int vd), .val (.int ve), .val (.int vf), .val (.int vg), .val (.int (1 : Int32)), .val (.ref b13), .val (.ref kk), .unset, .val (.long jx), .second, .unset, .unset, .unset, .unset]) rfl (X24.ldc2Long hx hown (mvT hZ (own_w hw 49 rfl)) (g := (mkF m 177 #[.val (.long j0), .second, .val (.long j1), .second, .val (.int i2), .val (.int i3), .val (.int i4), .val (.int i5), .val (.int va), .val (.int vb), .val (.int vc), .val (.int vd), .val (.int ve), .val (.int vf), .val (.int vg), .val (.int (1 : Int32)), .val (.ref b13), .val (.ref kk), .unset, .val (.long jx), .second, .unset, .unset, .unset, .unset] [])) rfl (hb hby at_177) _ (XS.iload X24.here hx rfl (hb hby at_180) rfl (XS.i2l X24.here hx rfl (hb hby at_182) rfl (XS.lmul X24.here hx rfl (hb hby at_183) rfl (X24.ldc2Long hx hown (mvT hZ (own_w hw 50 rfl)) (g := (mkF m 184 #[.val (.long j0), .second, .val (.long j1), .second, .val (.int i2), .val (.int i3), .val (.int i4), .val (.int i5), .val (.int va), .val (.int vb), .val (.int vc), .val (.int vd), .val (.int ve), .val (.int vf), .val (.int vg), .val (.int (1 : Int32)), .val (.ref b13), .val (.ref kk), .unset, .val (.long jx), .second, .unset, .unset, .unset, .unset] [(.long ((3 : Int64) * (vb.toInt64)))])) rfl (hb hby at_184) _ (XS.iload X24.here hx rfl (hb hby at_187) rfl (XS.i2l X24.here hx rfl (hb hby at_189) rfl (XS.lmul X24.here hx rfl (hb hby at_190) rfl (XS.ladd X24.here hx rfl (hb hby at_191) rfl kq)))))))))) ?_
      obtain ⟨jy, hjy⟩ : ∃ z0, z0 = (((3 : Int64) * (vb.toInt64)) + ((4 : Int64) * (vd.toInt64))) := ⟨_, rfl⟩
      rw [← hjy]
      have ejy : jy.toInt = 3 * vb.toInt + 4 * vd.toInt := by rw [hjy]; exact own_lin (by decide) (by decide) (by decide) (by decide) bvb bvd (fun z h1 h2 => ⟨by omega, by omega⟩) (fun z h1 h2 => ⟨by omega, by omega⟩)
      clear hjy
      refine own_to T24 (mkF m 212 #[.val (.long j0), .second, .val (.long j1), .second, .val (.int i2), .val (.int i3), .val (.int i4), .val (.int i5), .val (.int va), .val (.int vb), .val (.int vc), .val (.int vd), .val (.int ve), .val (.int vf), .val (.int vg), .val (.int (1 : Int32)), .val (.ref b13), .val (.ref kk), .unset, .val (.long jx), .second, .val (.long jy), .second, .unset, .unset] [(.int vg), (.long (512 : Int64)), (.long ((16 : Int64) * (vf.toInt64)))]) (fun tq kq => XS.lstore X24.here hx rfl (hb hby at_192) rfl (l' := #[.val (.long j0), .second, .val (.long j1), .second, .val (.int i2), .val (.int i3), .val (.int i4), .val (.int i5), .val (.int va), .val (.int vb), .val (.int vc), .val (.int vd), .val (.int ve), .val (.int vf), .val (.int vg), .val (.int (1 : Int32)), .val (.ref b13), .val (.ref kk), .unset, .val (.long jx), .second, .val (.long jy), .second, .unset, .unset]) rfl (XS.iload X24.here hx rfl (hb hby at_194) rfl (XS.iconst X24.here hx rfl (hb hby at_196) (XS.icmpNo X24.here hx rfl (hb hby at_197) rfl (teq (by decide : (1 : Int32) = (1 : Int32))).2 (X24.ldc2Long hx hown (mvT hZ (own_w hw 56 rfl)) (g := (mkF m 200 #[.val (.long j0), .second, .val (.long j1), .second, .val (.int i2), .val (.int i3), .val (.int i4), .val (.int i5), .val (.int va), .val (.int vb), .val (.int vc), .val (.int vd), .val (.int ve), .val (.int vf), .val (.int vg), .val (.int (1 : Int32)), .val (.ref b13), .val (.ref kk), .unset, .val (.long jx), .second, .val (.long jy), .second, .unset, .unset] [])) rfl (hb hby at_200) _ (XS.iload X24.here hx rfl (hb hby at_203) rfl (XS.i2l X24.here hx rfl (hb hby at_205) rfl (XS.lmul X24.here hx rfl (hb hby at_206) rfl (X24.ldc2Long hx hown (mvT hZ (own_w hw 51 rfl)) (g := (mkF m 207 #[.val (.long j0), .second, .val (.long j1), .second, .val (.int i2), .val (.int i3), .val (.int i4), .val (.int i5), .val (.int va), .val (.int vb), .val (.int vc), .val (.int vd), .val (.int ve), .val (.int vf), .val (.int vg), .val (.int (1 : Int32)), .val (.ref b13), .val (.ref kk), .unset, .val (.long jx), .second, .val (.long jy), .second, .unset, .unset] [(.long ((16 : Int64) * (vf.toInt64)))])) rfl (hb hby at_207) _ (XS.iload X24.here hx rfl (hb hby at_210) rfl kq)))))))))) ?_
      refine own_to T24 (mkF m 215 #[.val (.long j0), .second, .val (.long j1), .second, .val (.int i2), .val (.int i3), .val (.int i4), .val (.int i5), .val (.int va), .val (.int vb), .val (.int vc), .val (.int vd), .val (.int ve), .val (.int vf), .val (.int vg), .val (.int (1 : Int32)), .val (.ref b13), .val (.ref kk), .unset, .val (.long jx), .second, .val (.long jy), .second, .unset, .unset] [(.long (((16 : Int64) * (vf.toInt64)) + ((512 : Int64) * (vg.toInt64))))]) (fun tq kq => XS.i2l X24.here hx rfl (hb hby at_212) rfl (XS.lmul X24.here hx rfl (hb hby at_213) rfl (XS.ladd X24.here hx rfl (hb hby at_214) rfl kq))) ?_
      obtain ⟨jw, hjw⟩ : ∃ z0, z0 = (((16 : Int64) * (vf.toInt64)) + ((512 : Int64) * (vg.toInt64))) := ⟨_, rfl⟩
      rw [← hjw]
      have ejw : jw.toInt = 16 * vf.toInt + 512 * vg.toInt := by rw [hjw]; exact own_lin (by decide) (by decide) (by decide) (by decide) bvf ⟨bvg.1, by omega⟩ (fun z h1 h2 => ⟨by omega, by omega⟩) (fun z h1 h2 => ⟨by omega, by omega⟩)
      clear hjw
      refine own_to T24 (mkF m 259 #[.val (.long j0), .second, .val (.long j1), .second, .val (.int i2), .val (.int i3), .val (.int i4), .val (.int i5), .val (.int va), .val (.int vb), .val (.int vc), .val (.int vd), .val (.int ve), .val (.int vf), .val (.int vg), .val (.int (1 : Int32)), .val (.ref b13), .val (.ref kk), .unset, .val (.long jx), .second, .val (.long jy), .second, .val (.long jw), .second] [(.long ((16384 : Int64) * jy)), (.long ((jx - jy) * jw))]) (fun tq kq => XS.lstore X24.here hx rfl (hb hby at_215) rfl (l' := #[.val (.long j0), .second, .val (.long j1), .second, .val (.int i2), .val (.int i3), .val (.int i4), .val (.int i5), .val (.int va), .val (.int vb), .val (.int vc), .val (.int vd), .val (.int ve), .val (.int vf), .val (.int vg), .val (.int (1 : Int32)), .val (.ref b13), .val (.ref kk), .unset, .val (.long jx), .second, .val (.long jy), .second, .val (.long jw), .second]) rfl (XS.goto X24.here hx rfl (pc0 := 217) (pc' := 245) rfl (hb hby at_217) (by decide) (by decide) (XS.lload X24.here hx rfl (hb hby at_245) rfl (XS.lload X24.here hx rfl (hb hby at_247) rfl (XS.lsub X24.here hx rfl (hb hby at_249) rfl (XS.lload X24.here hx rfl (hb hby at_250) rfl (XS.lmul X24.here hx rfl (hb hby at_252) rfl (X24.ldc2Long hx hown (mvT hZ (own_w hw 52 rfl)) (g := (mkF m 253 #[.val (.long j0), .second, .val (.long j1), .second, .val (.int i2), .val (.int i3), .val (.int i4), .val (.int i5), .val (.int va), .val (.int vb), .val (.int vc), .val (.int vd), .val (.int ve), .val (.int vf), .val (.int vg), .val (.int (1 : Int32)), .val (.ref b13), .val (.ref kk), .unset, .val (.long jx), .second, .val (.long jy), .second, .val (.long jw), .second] [(.long ((jx - jy) * jw))])) rfl (hb hby at_253) _ (XS.lload X24.here hx rfl (hb hby at_256) rfl (XS.lmul X24.here hx rfl (hb hby at_258) rfl kq)))))))))) ?_
      refine own_to T24 (mkF m 260 #[.val (.long j0), .second, .val (.long j1), .second, .val (.int i2), .val (.int i3), .val (.int i4), .val (.int i5), .val (.int va), .val (.int vb), .val (.int vc), .val (.int vd), .val (.int ve), .val (.int vf), .val (.int vg), .val (.int (1 : Int32)), .val (.ref b13), .val (.ref kk), .unset, .val (.long jx), .second, .val (.long jy), .second, .val (.long jw), .second] [(.int (lcmpW ((jx - jy) * jw) ((16384 : Int64) * jy)))]) (fun tq kq => XS.lcmp X24.here hx rfl (hb hby at_259) rfl kq) ?_
      have hlw := own_law (X := jx) (Y := jy) (W := jw) (by rw [ejx]; omega) (by rw [ejy]; omega) (by rw [ejw]; omega)
      rw [ejx, ejy, ejw] at hlw
      refine own_to T24 (mkF m 275 #[.val (.long j0), .second, .val (.long j1), .second, .val (.int i2), .val (.int i3), .val (.int i4), .val (.int i5), .val (.int va), .val (.int vb), .val (.int vc), .val (.int vd), .val (.int ve), .val (.int vf), .val (.int vg), .val (.int (1 : Int32)), .val (.ref b13), .val (.ref kk), .val (.int (1 : Int32)), .val (.long jx), .second, .val (.long jy), .second, .val (.long jw), .second] []) (fun tq kq => XS.ifNo X24.here hx rfl (hb hby at_260) rfl ((if0 _ _).trans (tlt ((lw_gt ((jx - jy) * jw) ((16384 : Int64) * jy)).mpr (hlw.mpr hcond))).2.2.2) (XS.iconst X24.here hx rfl (hb hby at_263) (XS.goto X24.here hx rfl (pc0 := 264) (pc' := 268) rfl (hb hby at_264) (by decide) (by decide) (XS.istore X24.here hx rfl (hb hby at_268) rfl (l' := #[.val (.long j0), .second, .val (.long j1), .second, .val (.int i2), .val (.int i3), .val (.int i4), .val (.int i5), .val (.int va), .val (.int vb), .val (.int vc), .val (.int vd), .val (.int ve), .val (.int vf), .val (.int vg), .val (.int (1 : Int32)), .val (.ref b13), .val (.ref kk), .val (.int (1 : Int32)), .val (.long jx), .second, .val (.long jy), .second, .val (.long jw), .second]) rfl (XS.iload X24.here hx rfl (hb hby at_270) rfl (XS.ifNo X24.here hx rfl (hb hby at_272) rfl ((if0 _ _).trans (feq (by decide : ¬ ((1 : Int32) = (0 : Int32)))).1) kq)))))) ?_
      obtain ⟨-, -, -, -, -, -, -, -, -, SKs25, SRs25⟩ := id U22
      obtain ⟨T26, X26, e26, st26⟩ := getS2 X24 hx hZ hown (host := "") (Or.inl (own_w hw 53 rfl)) Via.refl e24 SKs25 (g := (mkF m 275 #[.val (.long j0), .second, .val (.long j1), .second, .val (.int i2), .val (.int i3), .val (.int i4), .val (.int i5), .val (.int va), .val (.int vb), .val (.int vc), .val (.int vd), .val (.int ve), .val (.int vf), .val (.int vg), .val (.int (1 : Int32)), .val (.ref b13), .val (.ref kk), .val (.int (1 : Int32)), .val (.long jx), .second, .val (.long jy), .second, .val (.long jw), .second] [])) rfl (hb hby at_275)
      refine own_to T26 (mkF m 298 #[.val (.long j0), .second, .val (.long j1), .second, .val (.int i2), .val (.int i3), .val (.int i4), .val (.int i5), .val (.int va), .val (.int vb), .val (.int vc), .val (.int vd), .val (.int ve), .val (.int vf), .val (.int vg), .val (.int (1 : Int32)), .val (.ref b13), .val (.ref kk), .val (.int (1 : Int32)), .val (.ref kk), .unset, .val (.long jy), .second, .val (.long jw), .second] [(.int (1 : Int32))]) (fun tq kq => st26 _ (XS.goto X26.here hx rfl (pc0 := 278) (pc' := 284) rfl (hb hby at_278) (by decide) (by decide) (XS.astore X26.here hx rfl (hb hby at_284) rfl rfl (l' := #[.val (.long j0), .second, .val (.long j1), .second, .val (.int i2), .val (.int i3), .val (.int i4), .val (.int i5), .val (.int va), .val (.int vb), .val (.int vc), .val (.int vd), .val (.int ve), .val (.int vf), .val (.int vg), .val (.int (1 : Int32)), .val (.ref b13), .val (.ref kk), .val (.int (1 : Int32)), .val (.ref kk), .unset, .val (.long jy), .second, .val (.long jw), .second]) rfl (XS.aload X26.here hx rfl (hb hby at_286) rfl rfl (XS.aload X26.here hx rfl (hb hby at_288) rfl rfl (Jvm.RoadKit.acmp (g := (mkF m 290 #[.val (.long j0), .second, .val (.long j1), .second, .val (.int i2), .val (.int i3), .val (.int i4), .val (.int i5), .val (.int va), .val (.int vb), .val (.int vc), .val (.int vd), .val (.int ve), .val (.int vf), .val (.int vg), .val (.int (1 : Int32)), .val (.ref b13), .val (.ref kk), .val (.int (1 : Int32)), .val (.ref kk), .unset, .val (.long jy), .second, .val (.long jw), .second] [(.ref kk), (.ref kk)])) X26 hx rfl rfl rfl (pc0 := 290) (pc' := 293) (same := true) rfl (hb hby at_290) rfl (decide_eq_true rfl) (by decide) (by decide) (XS.iconst X26.here hx rfl (hb hby at_293) (XS.goto X26.here hx rfl (pc0 := 294) (pc' := 298) rfl (hb hby at_294) (by decide) (by decide) kq)))))))) ?_
      exact own_retZ X26 hx hret hlk (hb hby at_298) (by decide) (by decide) (Or.inr rfl) ⟨rfl, N24⟩
    · skip
      obtain ⟨cq27, kq27, q27a, q27b, q27c⟩ := isOf hZ rfl f23
      obtain ⟨_, _, ⟨T27, L27, k27, n27⟩, -, X27, ⟨Lc27, hQ27, l27, y27, z27⟩, st27⟩ := X22.virtualBack hx (y := (⟨"com/example/warmjoin/warmjoin/PageReadings", "next", "()Lcom/example/warmjoin/warmjoin/PageReadings$Way;"⟩ : MethodName)) (z := (⟨"com/example/warmjoin/warmjoin/PageReadings", "next", "()Lcom/example/warmjoin/warmjoin/PageReadings$Way;"⟩ : MethodName)) hown (mvT hZ (own_w hw 39 rfl)) (mvT hZ (own_w hw 40 rfl)) (notFace_of_selects (args := #[]) (mvT hZ (own_w hw 42 rfl))) (mvT hZ (own_w hw 42 rfl)) (mvT hZ (own_w hw 41 rfl)) (by decide) (backOf (W := 0) (rm_next4ro l Z a0 hw [] b13 kk ro vg (0 : Int32) (0 : Int64) rt22 vb22 rr22 rw22 (((((0) * 3 + va.toInt * 4)) * 3 + vc.toInt * 16)) (((((0) * 3 + vb.toInt * 4)) * 3 + vd.toInt * 16)) (((((0) * 3 + 0 * 4)) * 3 + (vf.toInt) * 16)) T22.heap n0 Zs22 U22 Dr22 Dw22 (Dy.cast (by decide) Dt22) Dv22 (by omega) (by omega) (by omega) bvg (mt (own_c4 (X := 3 * va.toInt + 4 * vc.toInt) (Y := 3 * vb.toInt + 4 * vd.toInt) (Z := 16 * vf.toInt + 512 * vg.toInt) (by omega) (by omega) (by omega)).mp hcond)) hZ (own_w hw 43 rfl) (own_w hw 5 rfl) (by decide) (by decide)) q27a q27c (g := (mkF m 144 #[.val (.long j0), .second, .val (.long j1), .second, .val (.int i2), .val (.int i3), .val (.int i4), .val (.int i5), .val (.int va), .val (.int vb), .val (.int vc), .val (.int vd), .val (.int ve), .val (.int vf), .val (.int vg), .val (.int (1 : Int32)), .val (.ref b13), .unset, .unset, .unset, .unset, .unset, .unset, .unset, .unset] [(.ref b13)])) rfl (by rw [hml]; rfl) (Steps.refl _) (argsL := []) (rest := []) (lenOf pd_4 rfl) rfl (by show 2 * 0 + _ ≤ _; exact Nat.le_of_eq rfl) (hb hby at_144) (fun _ _ => ⟨rfl, rfl, (by decide : 1 + 0 ≤ _), (by decide : 8 + 0 ≤ _)⟩)
      dsimp only [Pt.U, Pt.locs, Pt.cells, Pt.slots] at X27 l27 y27 z27 st27 hQ27
      have l27y := l27.symm
      clear l27
      subst l27y
      obtain rfl : k27 = 1 := y27
      obtain rfl : n27 = 8 := z27
      obtain ⟨rfl, N27q, e27⟩ := hQ27
      have N27 := Fr.app N22 N27q
      refine own_to T27 (mkF m 172 #[.val (.long j0), .second, .val (.long j1), .second, .val (.int i2), .val (.int i3), .val (.int i4), .val (.int i5), .val (.int va), .val (.int vb), .val (.int vc), .val (.int vd), .val (.int ve), .val (.int vf), .val (.int vg), .val (.int (1 : Int32)), .val (.ref b13), .val (.ref ro), .unset, .unset, .unset, .unset, .unset, .unset, .unset] [(.int vc), (.long (4 : Int64)), (.long ((3 : Int64) * (va.toInt64)))]) (fun tq kq => st27.trans (XS.astore X27.here hx rfl (hb hby at_147) rfl rfl (l' := #[.val (.long j0), .second, .val (.long j1), .second, .val (.int i2), .val (.int i3), .val (.int i4), .val (.int i5), .val (.int va), .val (.int vb), .val (.int vc), .val (.int vd), .val (.int ve), .val (.int vf), .val (.int vg), .val (.int (1 : Int32)), .val (.ref b13), .val (.ref ro), .unset, .unset, .unset, .unset, .unset, .unset, .unset]) rfl (XS.iload X27.here hx rfl (hb hby at_149) rfl (XS.ifYes X27.here hx rfl (pc0 := 151) (pc' := 160) rfl (hb hby at_151) rfl ((if0 _ _).trans (feq (by decide : ¬ ((1 : Int32) = (0 : Int32)))).2) (by decide) (by decide) (X27.ldc2Long hx hown (mvT hZ (own_w hw 49 rfl)) (g := (mkF m 160 #[.val (.long j0), .second, .val (.long j1), .second, .val (.int i2), .val (.int i3), .val (.int i4), .val (.int i5), .val (.int va), .val (.int vb), .val (.int vc), .val (.int vd), .val (.int ve), .val (.int vf), .val (.int vg), .val (.int (1 : Int32)), .val (.ref b13), .val (.ref ro), .unset, .unset, .unset, .unset, .unset, .unset, .unset] [])) rfl (hb hby at_160) _ (XS.iload X27.here hx rfl (hb hby at_163) rfl (XS.i2l X27.here hx rfl (hb hby at_165) rfl (XS.lmul X27.here hx rfl (hb hby at_166) rfl (X27.ldc2Long hx hown (mvT hZ (own_w hw 50 rfl)) (g := (mkF m 167 #[.val (.long j0), .second, .val (.long j1), .second, .val (.int i2), .val (.int i3), .val (.int i4), .val (.int i5), .val (.int va), .val (.int vb), .val (.int vc), .val (.int vd), .val (.int ve), .val (.int vf), .val (.int vg), .val (.int (1 : Int32)), .val (.ref b13), .val (.ref ro), .unset, .unset, .unset, .unset, .unset, .unset, .unset] [(.long ((3 : Int64) * (va.toInt64)))])) rfl (hb hby at_167) _ (XS.iload X27.here hx rfl (hb hby at_170) rfl kq)))))))))) ?_
      refine own_to T27 (mkF m 175 #[.val (.long j0), .second, .val (.long j1), .second, .val (.int i2), .val (.int i3), .val (.int i4), .val (.int i5), .val (.int va), .val (.int vb), .val (.int vc), .val (.int vd), .val (.int ve), .val (.int vf), .val (.int vg), .val (.int (1 : Int32)), .val (.ref b13), .val (.ref ro), .unset, .unset, .unset, .unset, .unset, .unset, .unset] [(.long (((3 : Int64) * (va.toInt64)) + ((4 : Int64) * (vc.toInt64))))]) (fun tq kq => XS.i2l X27.here hx rfl (hb hby at_172) rfl (XS.lmul X27.here hx rfl (hb hby at_173) rfl (XS.ladd X27.here hx rfl (hb hby at_174) rfl kq))) ?_
      obtain ⟨jx, hjx⟩ : ∃ z0, z0 = (((3 : Int64) * (va.toInt64)) + ((4 : Int64) * (vc.toInt64))) := ⟨_, rfl⟩
      rw [← hjx]
      have ejx : jx.toInt = 3 * va.toInt + 4 * vc.toInt := by rw [hjx]; exact own_lin (by decide) (by decide) (by decide) (by decide) bva bvc (fun z h1 h2 => ⟨by omega, by omega⟩) (fun z h1 h2 => ⟨by omega, by omega⟩)
      clear hjx
      refine own_to T27 (mkF m 192 #[.val (.long j0), .second, .val (.long j1), .second, .val (.int i2), .val (.int i3), .val (.int i4), .val (.int i5), .val (.int va), .val (.int vb), .val (.int vc), .val (.int vd), .val (.int ve), .val (.int vf), .val (.int vg), .val (.int (1 : Int32)), .val (.ref b13), .val (.ref ro), .unset, .val (.long jx), .second, .unset, .unset, .unset, .unset] [(.long (((3 : Int64) * (vb.toInt64)) + ((4 : Int64) * (vd.toInt64))))]) (fun tq kq => XS.lstore X27.here hx rfl (hb hby at_175) rfl (l' := #[.val (.long j0), .second, .val (.long j1), .second, .val (.int i2), .val (.int i3), .val (.int i4), .val (.int i5), .val (.int va), .val (.int vb), .val (.int vc), .val (.int vd), .val (.int ve), .val (.int vf), .val (.int vg), .val (.int (1 : Int32)), .val (.ref b13), .val (.ref ro), .unset, .val (.long jx), .second, .unset, .unset, .unset, .unset]) rfl (X27.ldc2Long hx hown (mvT hZ (own_w hw 49 rfl)) (g := (mkF m 177 #[.val (.long j0), .second, .val (.long j1), .second, .val (.int i2), .val (.int i3), .val (.int i4), .val (.int i5), .val (.int va), .val (.int vb), .val (.int vc), .val (.int vd), .val (.int ve), .val (.int vf), .val (.int vg), .val (.int (1 : Int32)), .val (.ref b13), .val (.ref ro), .unset, .val (.long jx), .second, .unset, .unset, .unset, .unset] [])) rfl (hb hby at_177) _ (XS.iload X27.here hx rfl (hb hby at_180) rfl (XS.i2l X27.here hx rfl (hb hby at_182) rfl (XS.lmul X27.here hx rfl (hb hby at_183) rfl (X27.ldc2Long hx hown (mvT hZ (own_w hw 50 rfl)) (g := (mkF m 184 #[.val (.long j0), .second, .val (.long j1), .second, .val (.int i2), .val (.int i3), .val (.int i4), .val (.int i5), .val (.int va), .val (.int vb), .val (.int vc), .val (.int vd), .val (.int ve), .val (.int vf), .val (.int vg), .val (.int (1 : Int32)), .val (.ref b13), .val (.ref ro), .unset, .val (.long jx), .second, .unset, .unset, .unset, .unset] [(.long ((3 : Int64) * (vb.toInt64)))])) rfl (hb hby at_184) _ (XS.iload X27.here hx rfl (hb hby at_187) rfl (XS.i2l X27.here hx rfl (hb hby at_189) rfl (XS.lmul X27.here hx rfl (hb hby at_190) rfl (XS.ladd X27.here hx rfl (hb hby at_191) rfl kq)))))))))) ?_
      obtain ⟨jy, hjy⟩ : ∃ z0, z0 = (((3 : Int64) * (vb.toInt64)) + ((4 : Int64) * (vd.toInt64))) := ⟨_, rfl⟩
      rw [← hjy]
      have ejy : jy.toInt = 3 * vb.toInt + 4 * vd.toInt := by rw [hjy]; exact own_lin (by decide) (by decide) (by decide) (by decide) bvb bvd (fun z h1 h2 => ⟨by omega, by omega⟩) (fun z h1 h2 => ⟨by omega, by omega⟩)
      clear hjy
      refine own_to T27 (mkF m 212 #[.val (.long j0), .second, .val (.long j1), .second, .val (.int i2), .val (.int i3), .val (.int i4), .val (.int i5), .val (.int va), .val (.int vb), .val (.int vc), .val (.int vd), .val (.int ve), .val (.int vf), .val (.int vg), .val (.int (1 : Int32)), .val (.ref b13), .val (.ref ro), .unset, .val (.long jx), .second, .val (.long jy), .second, .unset, .unset] [(.int vg), (.long (512 : Int64)), (.long ((16 : Int64) * (vf.toInt64)))]) (fun tq kq => XS.lstore X27.here hx rfl (hb hby at_192) rfl (l' := #[.val (.long j0), .second, .val (.long j1), .second, .val (.int i2), .val (.int i3), .val (.int i4), .val (.int i5), .val (.int va), .val (.int vb), .val (.int vc), .val (.int vd), .val (.int ve), .val (.int vf), .val (.int vg), .val (.int (1 : Int32)), .val (.ref b13), .val (.ref ro), .unset, .val (.long jx), .second, .val (.long jy), .second, .unset, .unset]) rfl (XS.iload X27.here hx rfl (hb hby at_194) rfl (XS.iconst X27.here hx rfl (hb hby at_196) (XS.icmpNo X27.here hx rfl (hb hby at_197) rfl (teq (by decide : (1 : Int32) = (1 : Int32))).2 (X27.ldc2Long hx hown (mvT hZ (own_w hw 56 rfl)) (g := (mkF m 200 #[.val (.long j0), .second, .val (.long j1), .second, .val (.int i2), .val (.int i3), .val (.int i4), .val (.int i5), .val (.int va), .val (.int vb), .val (.int vc), .val (.int vd), .val (.int ve), .val (.int vf), .val (.int vg), .val (.int (1 : Int32)), .val (.ref b13), .val (.ref ro), .unset, .val (.long jx), .second, .val (.long jy), .second, .unset, .unset] [])) rfl (hb hby at_200) _ (XS.iload X27.here hx rfl (hb hby at_203) rfl (XS.i2l X27.here hx rfl (hb hby at_205) rfl (XS.lmul X27.here hx rfl (hb hby at_206) rfl (X27.ldc2Long hx hown (mvT hZ (own_w hw 51 rfl)) (g := (mkF m 207 #[.val (.long j0), .second, .val (.long j1), .second, .val (.int i2), .val (.int i3), .val (.int i4), .val (.int i5), .val (.int va), .val (.int vb), .val (.int vc), .val (.int vd), .val (.int ve), .val (.int vf), .val (.int vg), .val (.int (1 : Int32)), .val (.ref b13), .val (.ref ro), .unset, .val (.long jx), .second, .val (.long jy), .second, .unset, .unset] [(.long ((16 : Int64) * (vf.toInt64)))])) rfl (hb hby at_207) _ (XS.iload X27.here hx rfl (hb hby at_210) rfl kq)))))))))) ?_
      refine own_to T27 (mkF m 215 #[.val (.long j0), .second, .val (.long j1), .second, .val (.int i2), .val (.int i3), .val (.int i4), .val (.int i5), .val (.int va), .val (.int vb), .val (.int vc), .val (.int vd), .val (.int ve), .val (.int vf), .val (.int vg), .val (.int (1 : Int32)), .val (.ref b13), .val (.ref ro), .unset, .val (.long jx), .second, .val (.long jy), .second, .unset, .unset] [(.long (((16 : Int64) * (vf.toInt64)) + ((512 : Int64) * (vg.toInt64))))]) (fun tq kq => XS.i2l X27.here hx rfl (hb hby at_212) rfl (XS.lmul X27.here hx rfl (hb hby at_213) rfl (XS.ladd X27.here hx rfl (hb hby at_214) rfl kq))) ?_
      obtain ⟨jw, hjw⟩ : ∃ z0, z0 = (((16 : Int64) * (vf.toInt64)) + ((512 : Int64) * (vg.toInt64))) := ⟨_, rfl⟩
      rw [← hjw]
      have ejw : jw.toInt = 16 * vf.toInt + 512 * vg.toInt := by rw [hjw]; exact own_lin (by decide) (by decide) (by decide) (by decide) bvf ⟨bvg.1, by omega⟩ (fun z h1 h2 => ⟨by omega, by omega⟩) (fun z h1 h2 => ⟨by omega, by omega⟩)
      clear hjw
      refine own_to T27 (mkF m 259 #[.val (.long j0), .second, .val (.long j1), .second, .val (.int i2), .val (.int i3), .val (.int i4), .val (.int i5), .val (.int va), .val (.int vb), .val (.int vc), .val (.int vd), .val (.int ve), .val (.int vf), .val (.int vg), .val (.int (1 : Int32)), .val (.ref b13), .val (.ref ro), .unset, .val (.long jx), .second, .val (.long jy), .second, .val (.long jw), .second] [(.long ((16384 : Int64) * jy)), (.long ((jx - jy) * jw))]) (fun tq kq => XS.lstore X27.here hx rfl (hb hby at_215) rfl (l' := #[.val (.long j0), .second, .val (.long j1), .second, .val (.int i2), .val (.int i3), .val (.int i4), .val (.int i5), .val (.int va), .val (.int vb), .val (.int vc), .val (.int vd), .val (.int ve), .val (.int vf), .val (.int vg), .val (.int (1 : Int32)), .val (.ref b13), .val (.ref ro), .unset, .val (.long jx), .second, .val (.long jy), .second, .val (.long jw), .second]) rfl (XS.goto X27.here hx rfl (pc0 := 217) (pc' := 245) rfl (hb hby at_217) (by decide) (by decide) (XS.lload X27.here hx rfl (hb hby at_245) rfl (XS.lload X27.here hx rfl (hb hby at_247) rfl (XS.lsub X27.here hx rfl (hb hby at_249) rfl (XS.lload X27.here hx rfl (hb hby at_250) rfl (XS.lmul X27.here hx rfl (hb hby at_252) rfl (X27.ldc2Long hx hown (mvT hZ (own_w hw 52 rfl)) (g := (mkF m 253 #[.val (.long j0), .second, .val (.long j1), .second, .val (.int i2), .val (.int i3), .val (.int i4), .val (.int i5), .val (.int va), .val (.int vb), .val (.int vc), .val (.int vd), .val (.int ve), .val (.int vf), .val (.int vg), .val (.int (1 : Int32)), .val (.ref b13), .val (.ref ro), .unset, .val (.long jx), .second, .val (.long jy), .second, .val (.long jw), .second] [(.long ((jx - jy) * jw))])) rfl (hb hby at_253) _ (XS.lload X27.here hx rfl (hb hby at_256) rfl (XS.lmul X27.here hx rfl (hb hby at_258) rfl kq)))))))))) ?_
      refine own_to T27 (mkF m 260 #[.val (.long j0), .second, .val (.long j1), .second, .val (.int i2), .val (.int i3), .val (.int i4), .val (.int i5), .val (.int va), .val (.int vb), .val (.int vc), .val (.int vd), .val (.int ve), .val (.int vf), .val (.int vg), .val (.int (1 : Int32)), .val (.ref b13), .val (.ref ro), .unset, .val (.long jx), .second, .val (.long jy), .second, .val (.long jw), .second] [(.int (lcmpW ((jx - jy) * jw) ((16384 : Int64) * jy)))]) (fun tq kq => XS.lcmp X27.here hx rfl (hb hby at_259) rfl kq) ?_
      have hlw := own_law (X := jx) (Y := jy) (W := jw) (by rw [ejx]; omega) (by rw [ejy]; omega) (by rw [ejw]; omega)
      rw [ejx, ejy, ejw] at hlw
      refine own_to T27 (mkF m 281 #[.val (.long j0), .second, .val (.long j1), .second, .val (.int i2), .val (.int i3), .val (.int i4), .val (.int i5), .val (.int va), .val (.int vb), .val (.int vc), .val (.int vd), .val (.int ve), .val (.int vf), .val (.int vg), .val (.int (1 : Int32)), .val (.ref b13), .val (.ref ro), .val (.int (0 : Int32)), .val (.long jx), .second, .val (.long jy), .second, .val (.long jw), .second] []) (fun tq kq => XS.ifYes X27.here hx rfl (pc0 := 260) (pc' := 267) rfl (hb hby at_260) rfl ((if0 _ _).trans (flt (mt (lw_gt ((jx - jy) * jw) ((16384 : Int64) * jy)).mp (mt hlw.mp hcond))).2.2.2) (by decide) (by decide) (XS.iconst X27.here hx rfl (hb hby at_267) (XS.istore X27.here hx rfl (hb hby at_268) rfl (l' := #[.val (.long j0), .second, .val (.long j1), .second, .val (.int i2), .val (.int i3), .val (.int i4), .val (.int i5), .val (.int va), .val (.int vb), .val (.int vc), .val (.int vd), .val (.int ve), .val (.int vf), .val (.int vg), .val (.int (1 : Int32)), .val (.ref b13), .val (.ref ro), .val (.int (0 : Int32)), .val (.long jx), .second, .val (.long jy), .second, .val (.long jw), .second]) rfl (XS.iload X27.here hx rfl (hb hby at_270) rfl (XS.ifYes X27.here hx rfl (pc0 := 272) (pc' := 281) rfl (hb hby at_272) rfl ((if0 _ _).trans (teq (by decide : (0 : Int32) = (0 : Int32))).1) (by decide) (by decide) kq))))) ?_
      obtain ⟨-, -, -, -, -, -, -, -, -, SKs28, SRs28⟩ := id U22
      obtain ⟨T29, X29, e29, st29⟩ := getS2 X27 hx hZ hown (host := "") (Or.inl (own_w hw 57 rfl)) Via.refl e27 SRs28 (g := (mkF m 281 #[.val (.long j0), .second, .val (.long j1), .second, .val (.int i2), .val (.int i3), .val (.int i4), .val (.int i5), .val (.int va), .val (.int vb), .val (.int vc), .val (.int vd), .val (.int ve), .val (.int vf), .val (.int vg), .val (.int (1 : Int32)), .val (.ref b13), .val (.ref ro), .val (.int (0 : Int32)), .val (.long jx), .second, .val (.long jy), .second, .val (.long jw), .second] [])) rfl (hb hby at_281)
      refine own_to T29 (mkF m 298 #[.val (.long j0), .second, .val (.long j1), .second, .val (.int i2), .val (.int i3), .val (.int i4), .val (.int i5), .val (.int va), .val (.int vb), .val (.int vc), .val (.int vd), .val (.int ve), .val (.int vf), .val (.int vg), .val (.int (1 : Int32)), .val (.ref b13), .val (.ref ro), .val (.int (0 : Int32)), .val (.ref ro), .unset, .val (.long jy), .second, .val (.long jw), .second] [(.int (1 : Int32))]) (fun tq kq => st29 _ (XS.astore X29.here hx rfl (hb hby at_284) rfl rfl (l' := #[.val (.long j0), .second, .val (.long j1), .second, .val (.int i2), .val (.int i3), .val (.int i4), .val (.int i5), .val (.int va), .val (.int vb), .val (.int vc), .val (.int vd), .val (.int ve), .val (.int vf), .val (.int vg), .val (.int (1 : Int32)), .val (.ref b13), .val (.ref ro), .val (.int (0 : Int32)), .val (.ref ro), .unset, .val (.long jy), .second, .val (.long jw), .second]) rfl (XS.aload X29.here hx rfl (hb hby at_286) rfl rfl (XS.aload X29.here hx rfl (hb hby at_288) rfl rfl (Jvm.RoadKit.acmp (g := (mkF m 290 #[.val (.long j0), .second, .val (.long j1), .second, .val (.int i2), .val (.int i3), .val (.int i4), .val (.int i5), .val (.int va), .val (.int vb), .val (.int vc), .val (.int vd), .val (.int ve), .val (.int vf), .val (.int vg), .val (.int (1 : Int32)), .val (.ref b13), .val (.ref ro), .val (.int (0 : Int32)), .val (.ref ro), .unset, .val (.long jy), .second, .val (.long jw), .second] [(.ref ro), (.ref ro)])) X29 hx rfl rfl rfl (pc0 := 290) (pc' := 293) (same := true) rfl (hb hby at_290) rfl (decide_eq_true rfl) (by decide) (by decide) (XS.iconst X29.here hx rfl (hb hby at_293) (XS.goto X29.here hx rfl (pc0 := 294) (pc' := 298) rfl (hb hby at_294) (by decide) (by decide) kq))))))) ?_
      exact own_retZ X29 hx hret hlk (hb hby at_298) (by decide) (by decide) (Or.inr rfl) ⟨rfl, N27⟩
  · skip
    rw [hz3]
    refine own_to s₁ (mkF m 69 #[.val (.long j0), .second, .val (.long j1), .second, .val (.int i2), .val (.int i3), .val (.int i4), .val (.int i5), .val (.int va), .val (.int vb), .val (.int vc), .val (.int vd), .val (.int ve), .val (.int vf), .val (.int vg), .val (.int (2 : Int32)), .unset, .unset, .unset, .unset, .unset, .unset, .unset, .unset, .unset] []) (fun tq kq => XS.istore X0.here hx rfl (hb hby at_67) rfl (l' := #[.val (.long j0), .second, .val (.long j1), .second, .val (.int i2), .val (.int i3), .val (.int i4), .val (.int i5), .val (.int va), .val (.int vb), .val (.int vc), .val (.int vd), .val (.int ve), .val (.int vf), .val (.int vg), .val (.int (2 : Int32)), .unset, .unset, .unset, .unset, .unset, .unset, .unset, .unset, .unset]) rfl kq) ?_
    obtain ⟨T30, h30, X30, e30, E30, A30, D30, -, st30⟩ := newO X0 hx hZ hown (own_w hw 3 rfl) (own_w hw 4 rfl) (own_w hw 5 rfl) e0 (g := (mkF m 69 #[.val (.long j0), .second, .val (.long j1), .second, .val (.int i2), .val (.int i3), .val (.int i4), .val (.int i5), .val (.int va), .val (.int vb), .val (.int vc), .val (.int vd), .val (.int ve), .val (.int vf), .val (.int vg), .val (.int (2 : Int32)), .unset, .unset, .unset, .unset, .unset, .unset, .unset, .unset, .unset] [])) rfl (hb hby at_69) (by decide) (by decide)
    obtain ⟨b30, g30⟩ : ∃ z, z = h0.size := ⟨_, rfl⟩
    rw [← g30] at A30 D30 st30
    have f31 := SK.ext E30
    have f32 := SR.ext E30
    have sz30 : n0 ≤ b30 := Nat.le_trans Z0 (Nat.le_of_eq g30.symm)
    have Zs30 : n0 ≤ h30.size := Nat.le_trans Z0 E30.1
    have F30_values : Fld Z h30 b30 "com/example/warmjoin/warmjoin/PageReadings" "values" "I" (.int (0 : Int32)) := D30 (Or.inr (own_w hw 13 rfl)) (ty := .int) (by decide)
    have F30_only : Fld Z h30 b30 "com/example/warmjoin/warmjoin/PageReadings" "only" "Lcom/example/warmjoin/warmjoin/PageReadings$Way;" .null := D30 (Or.inr (own_w hw 15 rfl)) (ty := (.object "com/example/warmjoin/warmjoin/PageReadings$Way")) (by decide)
    have F30_takenSince : Fld Z h30 b30 "com/example/warmjoin/warmjoin/PageReadings" "takenSince" "I" (.int (0 : Int32)) := D30 (Or.inl (own_w hw 22 rfl)) (ty := .int) (by decide)
    have F30_bytesSince : Fld Z h30 b30 "com/example/warmjoin/warmjoin/PageReadings" "bytesSince" "J" (.long (0 : Int64)) := D30 (Or.inl (own_w hw 24 rfl)) (ty := .long) (by decide)
    have F30_rowsRead : Fld Z h30 b30 "com/example/warmjoin/warmjoin/PageReadings" "rowsRead" "D" (.double (0 : UInt64)) := D30 (Or.inl (own_w hw 31 rfl)) (ty := .double) (by decide)
    have F30_rowsWanted : Fld Z h30 b30 "com/example/warmjoin/warmjoin/PageReadings" "rowsWanted" "D" (.double (0 : UInt64)) := D30 (Or.inl (own_w hw 34 rfl)) (ty := .double) (by decide)
    have F30_rowsTaken : Fld Z h30 b30 "com/example/warmjoin/warmjoin/PageReadings" "rowsTaken" "D" (.double (0 : UInt64)) := D30 (Or.inl (own_w hw 36 rfl)) (ty := .double) (by decide)
    have F30_valueBytes : Fld Z h30 b30 "com/example/warmjoin/warmjoin/PageReadings" "valueBytes" "D" (.double (0 : UInt64)) := D30 (Or.inl (own_w hw 38 rfl)) (ty := .double) (by decide)
    refine own_to T30 (mkF m 76 #[.val (.long j0), .second, .val (.long j1), .second, .val (.int i2), .val (.int i3), .val (.int i4), .val (.int i5), .val (.int va), .val (.int vb), .val (.int vc), .val (.int vd), .val (.int ve), .val (.int vf), .val (.int vg), .val (.int (2 : Int32)), .unset, .unset, .unset, .unset, .unset, .unset, .unset, .unset, .unset] [.null, (.int vg), (.ref b30), (.ref b30)]) (fun tq kq => st30 _ (XS.dup X30.here hx rfl (hb hby at_72) rfl rfl (XS.iload X30.here hx rfl (hb hby at_73) rfl (XS.aconstNull X30.here hx rfl (hb hby at_75) kq)))) ?_
    obtain ⟨_, _, ⟨T33, L33, k33, n33⟩, -, X33, ⟨Lc33, hQ33, l33, y33, z33⟩, st33⟩ := X30.specialBack hx (y := (⟨"com/example/warmjoin/warmjoin/PageReadings", "<init>", "(ILcom/example/warmjoin/warmjoin/PageReadings$Way;)V"⟩ : MethodName)) rfl hown (mvT hZ (own_w hw 6 rfl)) (mvT hZ (own_w hw 7 rfl)) (mvT hZ (own_w hw 8 rfl)) (by decide) (backOf (W := 1) (rm_init l Z a0 hw [] b30 kk ro vg h30 n0 Zs30 (show PRd Z h30 b30 kk ro (0 : Int32) (0 : Int32) (0 : Int64) (0 : UInt64) (0 : UInt64) (0 : UInt64) (0 : UInt64) from ⟨A30, F30_values, F30_only, F30_rowsTaken, F30_valueBytes, F30_rowsRead, F30_rowsWanted, F30_takenSince, F30_bytesSince, f31, f32⟩) sz30) hZ (own_w hw 8 rfl) (own_w hw 5 rfl) (by decide) (by decide)) (g := (mkF m 76 #[.val (.long j0), .second, .val (.long j1), .second, .val (.int i2), .val (.int i3), .val (.int i4), .val (.int i5), .val (.int va), .val (.int vb), .val (.int vc), .val (.int vd), .val (.int ve), .val (.int vf), .val (.int vg), .val (.int (2 : Int32)), .unset, .unset, .unset, .unset, .unset, .unset, .unset, .unset, .unset] [.null, (.int vg), (.ref b30), (.ref b30)])) rfl (by rw [hml]; rfl) (Steps.refl _) (a := b30) (argsL := [(.int vg), .null]) (rest := [(.ref b30)]) (lenOf pd_0 rfl) rfl (by show 2 * 0 + _ ≤ _; exact Nat.le_of_eq rfl) (hb hby at_76) (fun _ _ => ⟨rfl, e30, (by decide : 1 + 0 ≤ _), (by decide : 8 + 0 ≤ _)⟩)
    dsimp only [Pt.U, Pt.locs, Pt.cells, Pt.slots] at X33 l33 y33 z33 st33 hQ33
    have l33y := l33.symm
    clear l33
    subst l33y
    obtain rfl : k33 = 1 := y33
    obtain rfl : n33 = 8 := z33
    obtain ⟨rfl, N33q, K33q, U33⟩ := hQ33
    have N33 := Fr.app (Fr.nil n0) N33q
    have f34 := A30.keep K33q
    have Zs33 : n0 ≤ T33.heap.size := Nat.le_trans Zs30 K33q.1
    refine own_to T33 (mkF m 91 #[.val (.long j0), .second, .val (.long j1), .second, .val (.int i2), .val (.int i3), .val (.int i4), .val (.int i5), .val (.int va), .val (.int vb), .val (.int vc), .val (.int vd), .val (.int ve), .val (.int vf), .val (.int vg), .val (.int (2 : Int32)), .val (.ref b30), .unset, .unset, .unset, .unset, .unset, .unset, .unset, .unset] [(.int ve), (.ref b30)]) (fun tq kq => st33.trans (XS.astore X33.here hx rfl (hb hby at_79) rfl rfl (l' := #[.val (.long j0), .second, .val (.long j1), .second, .val (.int i2), .val (.int i3), .val (.int i4), .val (.int i5), .val (.int va), .val (.int vb), .val (.int vc), .val (.int vd), .val (.int ve), .val (.int vf), .val (.int vg), .val (.int (2 : Int32)), .val (.ref b30), .unset, .unset, .unset, .unset, .unset, .unset, .unset, .unset]) rfl (XS.iload X33.here hx rfl (hb hby at_81) rfl (XS.iconst X33.here hx rfl (hb hby at_83) (XS.icmpNo X33.here hx rfl (hb hby at_84) rfl (teq (by decide : (2 : Int32) = (2 : Int32))).2 (XS.aload X33.here hx rfl (hb hby at_87) rfl rfl (XS.iload X33.here hx rfl (hb hby at_89) rfl kq))))))) ?_
    obtain ⟨cq35, kq35, q35a, q35b, q35c⟩ := isOf hZ rfl f34
    obtain ⟨_, _, ⟨T35, L35, k35, n35⟩, -, X35, ⟨Lc35, hQ35, l35, y35, z35⟩, st35⟩ := X33.virtualBack hx (y := (⟨"com/example/warmjoin/warmjoin/PageReadings", "took", "(I)V"⟩ : MethodName)) (z := (⟨"com/example/warmjoin/warmjoin/PageReadings", "took", "(I)V"⟩ : MethodName)) hown (mvT hZ (own_w hw 16 rfl)) (mvT hZ (own_w hw 17 rfl)) (notFace_of_selects (args := #[]) (mvT hZ (own_w hw 19 rfl))) (mvT hZ (own_w hw 19 rfl)) (mvT hZ (own_w hw 18 rfl)) (by decide) (backOf (W := 0) (rm_took l Z a0 hw [] b30 kk ro vg (0 : Int32) (0 : Int64) (0 : UInt64) (0 : UInt64) (0 : UInt64) (0 : UInt64) ve (1 : Int32) (ve.toInt64) T33.heap n0 Zs33 U33 (by decide) (Int64.zero_add _) sz30) hZ (own_w hw 20 rfl) (own_w hw 5 rfl) (by decide) (by decide)) q35a q35c (g := (mkF m 91 #[.val (.long j0), .second, .val (.long j1), .second, .val (.int i2), .val (.int i3), .val (.int i4), .val (.int i5), .val (.int va), .val (.int vb), .val (.int vc), .val (.int vd), .val (.int ve), .val (.int vf), .val (.int vg), .val (.int (2 : Int32)), .val (.ref b30), .unset, .unset, .unset, .unset, .unset, .unset, .unset, .unset] [(.int ve), (.ref b30)])) rfl (by rw [hml]; rfl) (Steps.refl _) (argsL := [(.int ve)]) (rest := []) (lenOf pd_2 rfl) rfl (by show 2 * 0 + _ ≤ _; exact Nat.le_of_eq rfl) (hb hby at_91) (fun _ _ => ⟨rfl, rfl, (by decide : 1 + 0 ≤ _), (by decide : 8 + 0 ≤ _)⟩)
    dsimp only [Pt.U, Pt.locs, Pt.cells, Pt.slots] at X35 l35 y35 z35 st35 hQ35
    have l35y := l35.symm
    clear l35
    subst l35y
    obtain rfl : k35 = 1 := y35
    obtain rfl : n35 = 8 := z35
    obtain ⟨rfl, N35q, K35q, U35⟩ := hQ35
    have N35 := Fr.app N33 N35q
    have f36 := f34.keep K35q
    have Zs35 : n0 ≤ T35.heap.size := Nat.le_trans Zs33 K35q.1
    refine own_to T35 (mkF m 97 #[.val (.long j0), .second, .val (.long j1), .second, .val (.int i2), .val (.int i3), .val (.int i4), .val (.int i5), .val (.int va), .val (.int vb), .val (.int vc), .val (.int vd), .val (.int ve), .val (.int vf), .val (.int vg), .val (.int (2 : Int32)), .val (.ref b30), .unset, .unset, .unset, .unset, .unset, .unset, .unset, .unset] [(.int (0 : Int32)), (.ref b30)]) (fun tq kq => st35.trans (XS.aload X35.here hx rfl (hb hby at_94) rfl rfl (XS.iconst X35.here hx rfl (hb hby at_96) kq))) ?_
    obtain ⟨cq37, kq37, q37a, q37b, q37c⟩ := isOf hZ rfl f36
    obtain ⟨_, _, ⟨T37, L37, k37, n37⟩, -, X37, ⟨Lc37, hQ37, l37, y37, z37⟩, st37⟩ := X35.virtualBack hx (y := (⟨"com/example/warmjoin/warmjoin/PageReadings", "took", "(I)V"⟩ : MethodName)) (z := (⟨"com/example/warmjoin/warmjoin/PageReadings", "took", "(I)V"⟩ : MethodName)) hown (mvT hZ (own_w hw 16 rfl)) (mvT hZ (own_w hw 17 rfl)) (notFace_of_selects (args := #[]) (mvT hZ (own_w hw 19 rfl))) (mvT hZ (own_w hw 19 rfl)) (mvT hZ (own_w hw 18 rfl)) (by decide) (backOf (W := 0) (rm_took l Z a0 hw [] b30 kk ro vg (1 : Int32) (ve.toInt64) (0 : UInt64) (0 : UInt64) (0 : UInt64) (0 : UInt64) (0 : Int32) (2 : Int32) ((ve.toInt64)) T35.heap n0 Zs35 U35 (by decide) (Int64.add_zero _) sz30) hZ (own_w hw 20 rfl) (own_w hw 5 rfl) (by decide) (by decide)) q37a q37c (g := (mkF m 97 #[.val (.long j0), .second, .val (.long j1), .second, .val (.int i2), .val (.int i3), .val (.int i4), .val (.int i5), .val (.int va), .val (.int vb), .val (.int vc), .val (.int vd), .val (.int ve), .val (.int vf), .val (.int vg), .val (.int (2 : Int32)), .val (.ref b30), .unset, .unset, .unset, .unset, .unset, .unset, .unset, .unset] [(.int (0 : Int32)), (.ref b30)])) rfl (by rw [hml]; rfl) (Steps.refl _) (argsL := [(.int (0 : Int32))]) (rest := []) (lenOf pd_2 rfl) rfl (by show 2 * 0 + _ ≤ _; exact Nat.le_of_eq rfl) (hb hby at_97) (fun _ _ => ⟨rfl, rfl, (by decide : 1 + 0 ≤ _), (by decide : 8 + 0 ≤ _)⟩)
    dsimp only [Pt.U, Pt.locs, Pt.cells, Pt.slots] at X37 l37 y37 z37 st37 hQ37
    have l37y := l37.symm
    clear l37
    subst l37y
    obtain rfl : k37 = 1 := y37
    obtain rfl : n37 = 8 := z37
    obtain ⟨rfl, N37q, K37q, U37⟩ := hQ37
    have N37 := Fr.app N35 N37q
    have f38 := f36.keep K37q
    have Zs37 : n0 ≤ T37.heap.size := Nat.le_trans Zs35 K37q.1
    refine own_to T37 (mkF m 103 #[.val (.long j0), .second, .val (.long j1), .second, .val (.int i2), .val (.int i3), .val (.int i4), .val (.int i5), .val (.int va), .val (.int vb), .val (.int vc), .val (.int vd), .val (.int ve), .val (.int vf), .val (.int vg), .val (.int (2 : Int32)), .val (.ref b30), .unset, .unset, .unset, .unset, .unset, .unset, .unset, .unset] [(.int (0 : Int32)), (.ref b30)]) (fun tq kq => st37.trans (XS.aload X37.here hx rfl (hb hby at_100) rfl rfl (XS.iconst X37.here hx rfl (hb hby at_102) kq))) ?_
    obtain ⟨cq39, kq39, q39a, q39b, q39c⟩ := isOf hZ rfl f38
    obtain ⟨_, _, ⟨T39, L39, k39, n39⟩, -, X39, ⟨Lc39, hQ39, l39, y39, z39⟩, st39⟩ := X37.virtualBack hx (y := (⟨"com/example/warmjoin/warmjoin/PageReadings", "took", "(I)V"⟩ : MethodName)) (z := (⟨"com/example/warmjoin/warmjoin/PageReadings", "took", "(I)V"⟩ : MethodName)) hown (mvT hZ (own_w hw 16 rfl)) (mvT hZ (own_w hw 17 rfl)) (notFace_of_selects (args := #[]) (mvT hZ (own_w hw 19 rfl))) (mvT hZ (own_w hw 19 rfl)) (mvT hZ (own_w hw 18 rfl)) (by decide) (backOf (W := 0) (rm_took l Z a0 hw [] b30 kk ro vg (2 : Int32) (ve.toInt64) (0 : UInt64) (0 : UInt64) (0 : UInt64) (0 : UInt64) (0 : Int32) (3 : Int32) ((ve.toInt64)) T37.heap n0 Zs37 U37 (by decide) (Int64.add_zero _) sz30) hZ (own_w hw 20 rfl) (own_w hw 5 rfl) (by decide) (by decide)) q39a q39c (g := (mkF m 103 #[.val (.long j0), .second, .val (.long j1), .second, .val (.int i2), .val (.int i3), .val (.int i4), .val (.int i5), .val (.int va), .val (.int vb), .val (.int vc), .val (.int vd), .val (.int ve), .val (.int vf), .val (.int vg), .val (.int (2 : Int32)), .val (.ref b30), .unset, .unset, .unset, .unset, .unset, .unset, .unset, .unset] [(.int (0 : Int32)), (.ref b30)])) rfl (by rw [hml]; rfl) (Steps.refl _) (argsL := [(.int (0 : Int32))]) (rest := []) (lenOf pd_2 rfl) rfl (by show 2 * 0 + _ ≤ _; exact Nat.le_of_eq rfl) (hb hby at_103) (fun _ _ => ⟨rfl, rfl, (by decide : 1 + 0 ≤ _), (by decide : 8 + 0 ≤ _)⟩)
    dsimp only [Pt.U, Pt.locs, Pt.cells, Pt.slots] at X39 l39 y39 z39 st39 hQ39
    have l39y := l39.symm
    clear l39
    subst l39y
    obtain rfl : k39 = 1 := y39
    obtain rfl : n39 = 8 := z39
    obtain ⟨rfl, N39q, K39q, U39⟩ := hQ39
    have N39 := Fr.app N37 N39q
    have f40 := f38.keep K39q
    have Zs39 : n0 ≤ T39.heap.size := Nat.le_trans Zs37 K39q.1
    refine own_to T39 (mkF m 109 #[.val (.long j0), .second, .val (.long j1), .second, .val (.int i2), .val (.int i3), .val (.int i4), .val (.int i5), .val (.int va), .val (.int vb), .val (.int vc), .val (.int vd), .val (.int ve), .val (.int vf), .val (.int vg), .val (.int (2 : Int32)), .val (.ref b30), .unset, .unset, .unset, .unset, .unset, .unset, .unset, .unset] [(.int (0 : Int32)), (.ref b30)]) (fun tq kq => st39.trans (XS.aload X39.here hx rfl (hb hby at_106) rfl rfl (XS.iconst X39.here hx rfl (hb hby at_108) kq))) ?_
    obtain ⟨cq41, kq41, q41a, q41b, q41c⟩ := isOf hZ rfl f40
    obtain ⟨_, _, ⟨T41, L41, k41, n41⟩, -, X41, ⟨Lc41, hQ41, l41, y41, z41⟩, st41⟩ := X39.virtualBack hx (y := (⟨"com/example/warmjoin/warmjoin/PageReadings", "took", "(I)V"⟩ : MethodName)) (z := (⟨"com/example/warmjoin/warmjoin/PageReadings", "took", "(I)V"⟩ : MethodName)) hown (mvT hZ (own_w hw 16 rfl)) (mvT hZ (own_w hw 17 rfl)) (notFace_of_selects (args := #[]) (mvT hZ (own_w hw 19 rfl))) (mvT hZ (own_w hw 19 rfl)) (mvT hZ (own_w hw 18 rfl)) (by decide) (backOf (W := 0) (rm_took l Z a0 hw [] b30 kk ro vg (3 : Int32) (ve.toInt64) (0 : UInt64) (0 : UInt64) (0 : UInt64) (0 : UInt64) (0 : Int32) (4 : Int32) ((ve.toInt64)) T39.heap n0 Zs39 U39 (by decide) (Int64.add_zero _) sz30) hZ (own_w hw 20 rfl) (own_w hw 5 rfl) (by decide) (by decide)) q41a q41c (g := (mkF m 109 #[.val (.long j0), .second, .val (.long j1), .second, .val (.int i2), .val (.int i3), .val (.int i4), .val (.int i5), .val (.int va), .val (.int vb), .val (.int vc), .val (.int vd), .val (.int ve), .val (.int vf), .val (.int vg), .val (.int (2 : Int32)), .val (.ref b30), .unset, .unset, .unset, .unset, .unset, .unset, .unset, .unset] [(.int (0 : Int32)), (.ref b30)])) rfl (by rw [hml]; rfl) (Steps.refl _) (argsL := [(.int (0 : Int32))]) (rest := []) (lenOf pd_2 rfl) rfl (by show 2 * 0 + _ ≤ _; exact Nat.le_of_eq rfl) (hb hby at_109) (fun _ _ => ⟨rfl, rfl, (by decide : 1 + 0 ≤ _), (by decide : 8 + 0 ≤ _)⟩)
    dsimp only [Pt.U, Pt.locs, Pt.cells, Pt.slots] at X41 l41 y41 z41 st41 hQ41
    have l41y := l41.symm
    clear l41
    subst l41y
    obtain rfl : k41 = 1 := y41
    obtain rfl : n41 = 8 := z41
    obtain ⟨rfl, N41q, K41q, U41⟩ := hQ41
    have N41 := Fr.app N39 N41q
    have f42 := f40.keep K41q
    have Zs41 : n0 ≤ T41.heap.size := Nat.le_trans Zs39 K41q.1
    refine own_to T41 (mkF m 118 #[.val (.long j0), .second, .val (.long j1), .second, .val (.int i2), .val (.int i3), .val (.int i4), .val (.int i5), .val (.int va), .val (.int vb), .val (.int vc), .val (.int vd), .val (.int ve), .val (.int vf), .val (.int vg), .val (.int (2 : Int32)), .val (.ref b30), .unset, .unset, .unset, .unset, .unset, .unset, .unset, .unset] [(.int vb), (.int va), (.ref b30)]) (fun tq kq => st41.trans (XS.aload X41.here hx rfl (hb hby at_112) rfl rfl (XS.iload X41.here hx rfl (hb hby at_114) rfl (XS.iload X41.here hx rfl (hb hby at_116) rfl kq)))) ?_
    obtain ⟨cq43, kq43, q43a, q43b, q43c⟩ := isOf hZ rfl f42
    obtain ⟨_, _, ⟨T43, L43, k43, n43⟩, -, X43, ⟨Lc43, hQ43, l43, y43, z43⟩, st43⟩ := X41.virtualBack hx (y := (⟨"com/example/warmjoin/warmjoin/PageReadings", "read", "(II)V"⟩ : MethodName)) (z := (⟨"com/example/warmjoin/warmjoin/PageReadings", "read", "(II)V"⟩ : MethodName)) hown (mvT hZ (own_w hw 25 rfl)) (mvT hZ (own_w hw 26 rfl)) (notFace_of_selects (args := #[]) (mvT hZ (own_w hw 28 rfl))) (mvT hZ (own_w hw 28 rfl)) (mvT hZ (own_w hw 27 rfl)) (by decide) (backOf (W := 0) (rm_read0 l Z a0 hw [] b30 kk ro vg (4 : Int32) (ve.toInt64) (0 : UInt64) (0 : UInt64) (0 : UInt64) (0 : UInt64) va vb (0) (0) (0) (0) va.toInt vb.toInt 4 (ve.toInt) T41.heap n0 Zs41 U41 own_zero own_zero own_zero own_zero (by omega) (by omega) (by omega) (by omega) rfl rfl (by decide) (own_l _) (by omega) sz30) hZ (own_w hw 29 rfl) (own_w hw 5 rfl) (by decide) (by decide)) q43a q43c (g := (mkF m 118 #[.val (.long j0), .second, .val (.long j1), .second, .val (.int i2), .val (.int i3), .val (.int i4), .val (.int i5), .val (.int va), .val (.int vb), .val (.int vc), .val (.int vd), .val (.int ve), .val (.int vf), .val (.int vg), .val (.int (2 : Int32)), .val (.ref b30), .unset, .unset, .unset, .unset, .unset, .unset, .unset, .unset] [(.int vb), (.int va), (.ref b30)])) rfl (by rw [hml]; rfl) (Steps.refl _) (argsL := [(.int va), (.int vb)]) (rest := []) (lenOf pd_3 rfl) rfl (by show 2 * 0 + _ ≤ _; exact Nat.le_of_eq rfl) (hb hby at_118) (fun _ _ => ⟨rfl, rfl, (by decide : 1 + 0 ≤ _), (by decide : 8 + 0 ≤ _)⟩)
    dsimp only [Pt.U, Pt.locs, Pt.cells, Pt.slots] at X43 l43 y43 z43 st43 hQ43
    have l43y := l43.symm
    clear l43
    subst l43y
    obtain rfl : k43 = 1 := y43
    obtain rfl : n43 = 8 := z43
    obtain ⟨rfl, N43q, K43q, rt43, vb43, rr43, rw43, U43, Dt43, Dv43, Dr43, Dw43⟩ := hQ43
    have N43 := Fr.app N41 N43q
    have f44 := f42.keep K43q
    have Zs43 : n0 ≤ T43.heap.size := Nat.le_trans Zs41 K43q.1
    refine own_to T43 (mkF m 130 #[.val (.long j0), .second, .val (.long j1), .second, .val (.int i2), .val (.int i3), .val (.int i4), .val (.int i5), .val (.int va), .val (.int vb), .val (.int vc), .val (.int vd), .val (.int ve), .val (.int vf), .val (.int vg), .val (.int (2 : Int32)), .val (.ref b30), .unset, .unset, .unset, .unset, .unset, .unset, .unset, .unset] [(.int vf), (.ref b30)]) (fun tq kq => st43.trans (XS.iload X43.here hx rfl (hb hby at_121) rfl (XS.ifNo X43.here hx rfl (hb hby at_123) rfl ((if0 _ _).trans (feq (by decide : ¬ ((2 : Int32) = (0 : Int32)))).1) (XS.aload X43.here hx rfl (hb hby at_126) rfl rfl (XS.iload X43.here hx rfl (hb hby at_128) rfl kq))))) ?_
    obtain ⟨cq45, kq45, q45a, q45b, q45c⟩ := isOf hZ rfl f44
    obtain ⟨_, _, ⟨T45, L45, k45, n45⟩, -, X45, ⟨Lc45, hQ45, l45, y45, z45⟩, st45⟩ := X43.virtualBack hx (y := (⟨"com/example/warmjoin/warmjoin/PageReadings", "took", "(I)V"⟩ : MethodName)) (z := (⟨"com/example/warmjoin/warmjoin/PageReadings", "took", "(I)V"⟩ : MethodName)) hown (mvT hZ (own_w hw 16 rfl)) (mvT hZ (own_w hw 17 rfl)) (notFace_of_selects (args := #[]) (mvT hZ (own_w hw 19 rfl))) (mvT hZ (own_w hw 19 rfl)) (mvT hZ (own_w hw 18 rfl)) (by decide) (backOf (W := 0) (rm_took l Z a0 hw [] b30 kk ro vg (0 : Int32) (0 : Int64) rt43 vb43 rr43 rw43 vf (1 : Int32) (vf.toInt64) T43.heap n0 Zs43 U43 (by decide) (Int64.zero_add _) sz30) hZ (own_w hw 20 rfl) (own_w hw 5 rfl) (by decide) (by decide)) q45a q45c (g := (mkF m 130 #[.val (.long j0), .second, .val (.long j1), .second, .val (.int i2), .val (.int i3), .val (.int i4), .val (.int i5), .val (.int va), .val (.int vb), .val (.int vc), .val (.int vd), .val (.int ve), .val (.int vf), .val (.int vg), .val (.int (2 : Int32)), .val (.ref b30), .unset, .unset, .unset, .unset, .unset, .unset, .unset, .unset] [(.int vf), (.ref b30)])) rfl (by rw [hml]; rfl) (Steps.refl _) (argsL := [(.int vf)]) (rest := []) (lenOf pd_2 rfl) rfl (by show 2 * 0 + _ ≤ _; exact Nat.le_of_eq rfl) (hb hby at_130) (fun _ _ => ⟨rfl, rfl, (by decide : 1 + 0 ≤ _), (by decide : 8 + 0 ≤ _)⟩)
    dsimp only [Pt.U, Pt.locs, Pt.cells, Pt.slots] at X45 l45 y45 z45 st45 hQ45
    have l45y := l45.symm
    clear l45
    subst l45y
    obtain rfl : k45 = 1 := y45
    obtain rfl : n45 = 8 := z45
    obtain ⟨rfl, N45q, K45q, U45⟩ := hQ45
    have N45 := Fr.app N43 N45q
    have f46 := f44.keep K45q
    have Zs45 : n0 ≤ T45.heap.size := Nat.le_trans Zs43 K45q.1
    refine own_to T45 (mkF m 139 #[.val (.long j0), .second, .val (.long j1), .second, .val (.int i2), .val (.int i3), .val (.int i4), .val (.int i5), .val (.int va), .val (.int vb), .val (.int vc), .val (.int vd), .val (.int ve), .val (.int vf), .val (.int vg), .val (.int (2 : Int32)), .val (.ref b30), .unset, .unset, .unset, .unset, .unset, .unset, .unset, .unset] [(.int vd), (.int vc), (.ref b30)]) (fun tq kq => st45.trans (XS.aload X45.here hx rfl (hb hby at_133) rfl rfl (XS.iload X45.here hx rfl (hb hby at_135) rfl (XS.iload X45.here hx rfl (hb hby at_137) rfl kq)))) ?_
    obtain ⟨cq47, kq47, q47a, q47b, q47c⟩ := isOf hZ rfl f46
    obtain ⟨_, _, ⟨T47, L47, k47, n47⟩, -, X47, ⟨Lc47, hQ47, l47, y47, z47⟩, st47⟩ := X45.virtualBack hx (y := (⟨"com/example/warmjoin/warmjoin/PageReadings", "read", "(II)V"⟩ : MethodName)) (z := (⟨"com/example/warmjoin/warmjoin/PageReadings", "read", "(II)V"⟩ : MethodName)) hown (mvT hZ (own_w hw 25 rfl)) (mvT hZ (own_w hw 26 rfl)) (notFace_of_selects (args := #[]) (mvT hZ (own_w hw 28 rfl))) (mvT hZ (own_w hw 28 rfl)) (mvT hZ (own_w hw 27 rfl)) (by decide) (backOf (W := 0) (rm_read2 l Z a0 hw [] b30 kk ro vg (1 : Int32) (vf.toInt64) rt43 vb43 rr43 rw43 vc vd (((0) * 3 + va.toInt * 4)) (((0) * 3 + vb.toInt * 4)) (((0) * 3 + 4 * 4)) (((0) * 3 + (ve.toInt) * 4)) vc.toInt vd.toInt 1 (vf.toInt) T45.heap n0 Zs45 U45 Dr43 Dw43 Dt43 Dv43 (by omega) (by omega) (by omega) (by omega) rfl rfl (by decide) (own_l _) (by omega) sz30) hZ (own_w hw 29 rfl) (own_w hw 5 rfl) (by decide) (by decide)) q47a q47c (g := (mkF m 139 #[.val (.long j0), .second, .val (.long j1), .second, .val (.int i2), .val (.int i3), .val (.int i4), .val (.int i5), .val (.int va), .val (.int vb), .val (.int vc), .val (.int vd), .val (.int ve), .val (.int vf), .val (.int vg), .val (.int (2 : Int32)), .val (.ref b30), .unset, .unset, .unset, .unset, .unset, .unset, .unset, .unset] [(.int vd), (.int vc), (.ref b30)])) rfl (by rw [hml]; rfl) (Steps.refl _) (argsL := [(.int vc), (.int vd)]) (rest := []) (lenOf pd_3 rfl) rfl (by show 2 * 0 + _ ≤ _; exact Nat.le_of_eq rfl) (hb hby at_139) (fun _ _ => ⟨rfl, rfl, (by decide : 1 + 0 ≤ _), (by decide : 8 + 0 ≤ _)⟩)
    dsimp only [Pt.U, Pt.locs, Pt.cells, Pt.slots] at X47 l47 y47 z47 st47 hQ47
    have l47y := l47.symm
    clear l47
    subst l47y
    obtain rfl : k47 = 1 := y47
    obtain rfl : n47 = 8 := z47
    obtain ⟨rfl, N47q, K47q, rt47, vb47, rr47, rw47, U47, Dt47, Dv47, Dr47, Dw47⟩ := hQ47
    have N47 := Fr.app N45 N47q
    have f48 := f46.keep K47q
    have Zs47 : n0 ≤ T47.heap.size := Nat.le_trans Zs45 K47q.1
    refine own_to T47 (mkF m 144 #[.val (.long j0), .second, .val (.long j1), .second, .val (.int i2), .val (.int i3), .val (.int i4), .val (.int i5), .val (.int va), .val (.int vb), .val (.int vc), .val (.int vd), .val (.int ve), .val (.int vf), .val (.int vg), .val (.int (2 : Int32)), .val (.ref b30), .unset, .unset, .unset, .unset, .unset, .unset, .unset, .unset] [(.ref b30)]) (fun tq kq => st47.trans (XS.aload X47.here hx rfl (hb hby at_142) rfl rfl kq)) ?_
    by_cases hcond : 16384 * (3 * vb.toInt + 4 * vd.toInt) < ((3 * va.toInt + 4 * vc.toInt) - (3 * vb.toInt + 4 * vd.toInt)) * (3 * ve.toInt + 4 * vf.toInt + 512 * vg.toInt)
    · skip
      obtain ⟨cq49, kq49, q49a, q49b, q49c⟩ := isOf hZ rfl f48
      obtain ⟨_, _, ⟨T49, L49, k49, n49⟩, -, X49, ⟨Lc49, hQ49, l49, y49, z49⟩, st49⟩ := X47.virtualBack hx (y := (⟨"com/example/warmjoin/warmjoin/PageReadings", "next", "()Lcom/example/warmjoin/warmjoin/PageReadings$Way;"⟩ : MethodName)) (z := (⟨"com/example/warmjoin/warmjoin/PageReadings", "next", "()Lcom/example/warmjoin/warmjoin/PageReadings$Way;"⟩ : MethodName)) hown (mvT hZ (own_w hw 39 rfl)) (mvT hZ (own_w hw 40 rfl)) (notFace_of_selects (args := #[]) (mvT hZ (own_w hw 42 rfl))) (mvT hZ (own_w hw 42 rfl)) (mvT hZ (own_w hw 41 rfl)) (by decide) (backOf (W := 0) (rm_next6kk l Z a0 hw [] b30 kk ro vg (0 : Int32) (0 : Int64) rt47 vb47 rr47 rw47 (((((0) * 3 + va.toInt * 4)) * 3 + vc.toInt * 16)) (((((0) * 3 + vb.toInt * 4)) * 3 + vd.toInt * 16)) (((((0) * 3 + (ve.toInt) * 4)) * 3 + (vf.toInt) * 16)) T47.heap n0 Zs47 U47 Dr47 Dw47 (Dy.cast (by decide) Dt47) Dv47 (by omega) (by omega) (by omega) bvg ((own_c6 (X := 3 * va.toInt + 4 * vc.toInt) (Y := 3 * vb.toInt + 4 * vd.toInt) (Z := 3 * ve.toInt + 4 * vf.toInt + 512 * vg.toInt) (by omega) (by omega) (by omega)).mpr hcond)) hZ (own_w hw 43 rfl) (own_w hw 5 rfl) (by decide) (by decide)) q49a q49c (g := (mkF m 144 #[.val (.long j0), .second, .val (.long j1), .second, .val (.int i2), .val (.int i3), .val (.int i4), .val (.int i5), .val (.int va), .val (.int vb), .val (.int vc), .val (.int vd), .val (.int ve), .val (.int vf), .val (.int vg), .val (.int (2 : Int32)), .val (.ref b30), .unset, .unset, .unset, .unset, .unset, .unset, .unset, .unset] [(.ref b30)])) rfl (by rw [hml]; rfl) (Steps.refl _) (argsL := []) (rest := []) (lenOf pd_4 rfl) rfl (by show 2 * 0 + _ ≤ _; exact Nat.le_of_eq rfl) (hb hby at_144) (fun _ _ => ⟨rfl, rfl, (by decide : 1 + 0 ≤ _), (by decide : 8 + 0 ≤ _)⟩)
      dsimp only [Pt.U, Pt.locs, Pt.cells, Pt.slots] at X49 l49 y49 z49 st49 hQ49
      have l49y := l49.symm
      clear l49
      subst l49y
      obtain rfl : k49 = 1 := y49
      obtain rfl : n49 = 8 := z49
      obtain ⟨rfl, N49q, e49⟩ := hQ49
      have N49 := Fr.app N47 N49q
      refine own_to T49 (mkF m 172 #[.val (.long j0), .second, .val (.long j1), .second, .val (.int i2), .val (.int i3), .val (.int i4), .val (.int i5), .val (.int va), .val (.int vb), .val (.int vc), .val (.int vd), .val (.int ve), .val (.int vf), .val (.int vg), .val (.int (2 : Int32)), .val (.ref b30), .val (.ref kk), .unset, .unset, .unset, .unset, .unset, .unset, .unset] [(.int vc), (.long (4 : Int64)), (.long ((3 : Int64) * (va.toInt64)))]) (fun tq kq => st49.trans (XS.astore X49.here hx rfl (hb hby at_147) rfl rfl (l' := #[.val (.long j0), .second, .val (.long j1), .second, .val (.int i2), .val (.int i3), .val (.int i4), .val (.int i5), .val (.int va), .val (.int vb), .val (.int vc), .val (.int vd), .val (.int ve), .val (.int vf), .val (.int vg), .val (.int (2 : Int32)), .val (.ref b30), .val (.ref kk), .unset, .unset, .unset, .unset, .unset, .unset, .unset]) rfl (XS.iload X49.here hx rfl (hb hby at_149) rfl (XS.ifYes X49.here hx rfl (pc0 := 151) (pc' := 160) rfl (hb hby at_151) rfl ((if0 _ _).trans (feq (by decide : ¬ ((2 : Int32) = (0 : Int32)))).2) (by decide) (by decide) (X49.ldc2Long hx hown (mvT hZ (own_w hw 49 rfl)) (g := (mkF m 160 #[.val (.long j0), .second, .val (.long j1), .second, .val (.int i2), .val (.int i3), .val (.int i4), .val (.int i5), .val (.int va), .val (.int vb), .val (.int vc), .val (.int vd), .val (.int ve), .val (.int vf), .val (.int vg), .val (.int (2 : Int32)), .val (.ref b30), .val (.ref kk), .unset, .unset, .unset, .unset, .unset, .unset, .unset] [])) rfl (hb hby at_160) _ (XS.iload X49.here hx rfl (hb hby at_163) rfl (XS.i2l X49.here hx rfl (hb hby at_165) rfl (XS.lmul X49.here hx rfl (hb hby at_166) rfl (X49.ldc2Long hx hown (mvT hZ (own_w hw 50 rfl)) (g := (mkF m 167 #[.val (.long j0), .second, .val (.long j1), .second, .val (.int i2), .val (.int i3), .val (.int i4), .val (.int i5), .val (.int va), .val (.int vb), .val (.int vc), .val (.int vd), .val (.int ve), .val (.int vf), .val (.int vg), .val (.int (2 : Int32)), .val (.ref b30), .val (.ref kk), .unset, .unset, .unset, .unset, .unset, .unset, .unset] [(.long ((3 : Int64) * (va.toInt64)))])) rfl (hb hby at_167) _ (XS.iload X49.here hx rfl (hb hby at_170) rfl kq)))))))))) ?_
      refine own_to T49 (mkF m 175 #[.val (.long j0), .second, .val (.long j1), .second, .val (.int i2), .val (.int i3), .val (.int i4), .val (.int i5), .val (.int va), .val (.int vb), .val (.int vc), .val (.int vd), .val (.int ve), .val (.int vf), .val (.int vg), .val (.int (2 : Int32)), .val (.ref b30), .val (.ref kk), .unset, .unset, .unset, .unset, .unset, .unset, .unset] [(.long (((3 : Int64) * (va.toInt64)) + ((4 : Int64) * (vc.toInt64))))]) (fun tq kq => XS.i2l X49.here hx rfl (hb hby at_172) rfl (XS.lmul X49.here hx rfl (hb hby at_173) rfl (XS.ladd X49.here hx rfl (hb hby at_174) rfl kq))) ?_
      obtain ⟨jx, hjx⟩ : ∃ z0, z0 = (((3 : Int64) * (va.toInt64)) + ((4 : Int64) * (vc.toInt64))) := ⟨_, rfl⟩
      rw [← hjx]
      have ejx : jx.toInt = 3 * va.toInt + 4 * vc.toInt := by rw [hjx]; exact own_lin (by decide) (by decide) (by decide) (by decide) bva bvc (fun z h1 h2 => ⟨by omega, by omega⟩) (fun z h1 h2 => ⟨by omega, by omega⟩)
      clear hjx
      refine own_to T49 (mkF m 192 #[.val (.long j0), .second, .val (.long j1), .second, .val (.int i2), .val (.int i3), .val (.int i4), .val (.int i5), .val (.int va), .val (.int vb), .val (.int vc), .val (.int vd), .val (.int ve), .val (.int vf), .val (.int vg), .val (.int (2 : Int32)), .val (.ref b30), .val (.ref kk), .unset, .val (.long jx), .second, .unset, .unset, .unset, .unset] [(.long (((3 : Int64) * (vb.toInt64)) + ((4 : Int64) * (vd.toInt64))))]) (fun tq kq => XS.lstore X49.here hx rfl (hb hby at_175) rfl (l' := #[.val (.long j0), .second, .val (.long j1), .second, .val (.int i2), .val (.int i3), .val (.int i4), .val (.int i5), .val (.int va), .val (.int vb), .val (.int vc), .val (.int vd), .val (.int ve), .val (.int vf), .val (.int vg), .val (.int (2 : Int32)), .val (.ref b30), .val (.ref kk), .unset, .val (.long jx), .second, .unset, .unset, .unset, .unset]) rfl (X49.ldc2Long hx hown (mvT hZ (own_w hw 49 rfl)) (g := (mkF m 177 #[.val (.long j0), .second, .val (.long j1), .second, .val (.int i2), .val (.int i3), .val (.int i4), .val (.int i5), .val (.int va), .val (.int vb), .val (.int vc), .val (.int vd), .val (.int ve), .val (.int vf), .val (.int vg), .val (.int (2 : Int32)), .val (.ref b30), .val (.ref kk), .unset, .val (.long jx), .second, .unset, .unset, .unset, .unset] [])) rfl (hb hby at_177) _ (XS.iload X49.here hx rfl (hb hby at_180) rfl (XS.i2l X49.here hx rfl (hb hby at_182) rfl (XS.lmul X49.here hx rfl (hb hby at_183) rfl (X49.ldc2Long hx hown (mvT hZ (own_w hw 50 rfl)) (g := (mkF m 184 #[.val (.long j0), .second, .val (.long j1), .second, .val (.int i2), .val (.int i3), .val (.int i4), .val (.int i5), .val (.int va), .val (.int vb), .val (.int vc), .val (.int vd), .val (.int ve), .val (.int vf), .val (.int vg), .val (.int (2 : Int32)), .val (.ref b30), .val (.ref kk), .unset, .val (.long jx), .second, .unset, .unset, .unset, .unset] [(.long ((3 : Int64) * (vb.toInt64)))])) rfl (hb hby at_184) _ (XS.iload X49.here hx rfl (hb hby at_187) rfl (XS.i2l X49.here hx rfl (hb hby at_189) rfl (XS.lmul X49.here hx rfl (hb hby at_190) rfl (XS.ladd X49.here hx rfl (hb hby at_191) rfl kq)))))))))) ?_
      obtain ⟨jy, hjy⟩ : ∃ z0, z0 = (((3 : Int64) * (vb.toInt64)) + ((4 : Int64) * (vd.toInt64))) := ⟨_, rfl⟩
      rw [← hjy]
      have ejy : jy.toInt = 3 * vb.toInt + 4 * vd.toInt := by rw [hjy]; exact own_lin (by decide) (by decide) (by decide) (by decide) bvb bvd (fun z h1 h2 => ⟨by omega, by omega⟩) (fun z h1 h2 => ⟨by omega, by omega⟩)
      clear hjy
      refine own_to T49 (mkF m 232 #[.val (.long j0), .second, .val (.long j1), .second, .val (.int i2), .val (.int i3), .val (.int i4), .val (.int i5), .val (.int va), .val (.int vb), .val (.int vc), .val (.int vd), .val (.int ve), .val (.int vf), .val (.int vg), .val (.int (2 : Int32)), .val (.ref b30), .val (.ref kk), .unset, .val (.long jx), .second, .val (.long jy), .second, .unset, .unset] [(.int vf), (.long (4 : Int64)), (.long ((3 : Int64) * (ve.toInt64)))]) (fun tq kq => XS.lstore X49.here hx rfl (hb hby at_192) rfl (l' := #[.val (.long j0), .second, .val (.long j1), .second, .val (.int i2), .val (.int i3), .val (.int i4), .val (.int i5), .val (.int va), .val (.int vb), .val (.int vc), .val (.int vd), .val (.int ve), .val (.int vf), .val (.int vg), .val (.int (2 : Int32)), .val (.ref b30), .val (.ref kk), .unset, .val (.long jx), .second, .val (.long jy), .second, .unset, .unset]) rfl (XS.iload X49.here hx rfl (hb hby at_194) rfl (XS.iconst X49.here hx rfl (hb hby at_196) (XS.icmpYes X49.here hx rfl (pc0 := 197) (pc' := 220) rfl (hb hby at_197) rfl (feq (by decide : ¬ ((2 : Int32) = (1 : Int32)))).2 (by decide) (by decide) (X49.ldc2Long hx hown (mvT hZ (own_w hw 49 rfl)) (g := (mkF m 220 #[.val (.long j0), .second, .val (.long j1), .second, .val (.int i2), .val (.int i3), .val (.int i4), .val (.int i5), .val (.int va), .val (.int vb), .val (.int vc), .val (.int vd), .val (.int ve), .val (.int vf), .val (.int vg), .val (.int (2 : Int32)), .val (.ref b30), .val (.ref kk), .unset, .val (.long jx), .second, .val (.long jy), .second, .unset, .unset] [])) rfl (hb hby at_220) _ (XS.iload X49.here hx rfl (hb hby at_223) rfl (XS.i2l X49.here hx rfl (hb hby at_225) rfl (XS.lmul X49.here hx rfl (hb hby at_226) rfl (X49.ldc2Long hx hown (mvT hZ (own_w hw 50 rfl)) (g := (mkF m 227 #[.val (.long j0), .second, .val (.long j1), .second, .val (.int i2), .val (.int i3), .val (.int i4), .val (.int i5), .val (.int va), .val (.int vb), .val (.int vc), .val (.int vd), .val (.int ve), .val (.int vf), .val (.int vg), .val (.int (2 : Int32)), .val (.ref b30), .val (.ref kk), .unset, .val (.long jx), .second, .val (.long jy), .second, .unset, .unset] [(.long ((3 : Int64) * (ve.toInt64)))])) rfl (hb hby at_227) _ (XS.iload X49.here hx rfl (hb hby at_230) rfl kq)))))))))) ?_
      refine own_to T49 (mkF m 243 #[.val (.long j0), .second, .val (.long j1), .second, .val (.int i2), .val (.int i3), .val (.int i4), .val (.int i5), .val (.int va), .val (.int vb), .val (.int vc), .val (.int vd), .val (.int ve), .val (.int vf), .val (.int vg), .val (.int (2 : Int32)), .val (.ref b30), .val (.ref kk), .unset, .val (.long jx), .second, .val (.long jy), .second, .unset, .unset] [(.long ((((3 : Int64) * (ve.toInt64)) + ((4 : Int64) * (vf.toInt64))) + ((512 : Int64) * (vg.toInt64))))]) (fun tq kq => XS.i2l X49.here hx rfl (hb hby at_232) rfl (XS.lmul X49.here hx rfl (hb hby at_233) rfl (XS.ladd X49.here hx rfl (hb hby at_234) rfl (X49.ldc2Long hx hown (mvT hZ (own_w hw 51 rfl)) (g := (mkF m 235 #[.val (.long j0), .second, .val (.long j1), .second, .val (.int i2), .val (.int i3), .val (.int i4), .val (.int i5), .val (.int va), .val (.int vb), .val (.int vc), .val (.int vd), .val (.int ve), .val (.int vf), .val (.int vg), .val (.int (2 : Int32)), .val (.ref b30), .val (.ref kk), .unset, .val (.long jx), .second, .val (.long jy), .second, .unset, .unset] [(.long (((3 : Int64) * (ve.toInt64)) + ((4 : Int64) * (vf.toInt64))))])) rfl (hb hby at_235) _ (XS.iload X49.here hx rfl (hb hby at_238) rfl (XS.i2l X49.here hx rfl (hb hby at_240) rfl (XS.lmul X49.here hx rfl (hb hby at_241) rfl (XS.ladd X49.here hx rfl (hb hby at_242) rfl kq)))))))) ?_
      obtain ⟨jw, hjw⟩ : ∃ z0, z0 = ((((3 : Int64) * (ve.toInt64)) + ((4 : Int64) * (vf.toInt64))) + ((512 : Int64) * (vg.toInt64))) := ⟨_, rfl⟩
      rw [← hjw]
      have ejv := (own_lin (k := 3) (j := 4) (ki := 3) (ji := 4) (by decide) (by decide) (by decide) (by decide) bve bvf (fun z h1 h2 => ⟨by omega, by omega⟩) (fun z h1 h2 => ⟨by omega, by omega⟩))
      have eju : ((512 : Int64) * vg.toInt64).toInt = 512 * vg.toInt := (by rw [own_lmul (by rw [own_l, show (512 : Int64).toInt = 512 from by decide]; omega), own_l, show (512 : Int64).toInt = 512 from by decide])
      have ejw : jw.toInt = 3 * ve.toInt + 4 * vf.toInt + 512 * vg.toInt := (by rw [hjw, own_ladd (by rw [ejv, eju]; omega), ejv, eju])
      clear hjw
      refine own_to T49 (mkF m 260 #[.val (.long j0), .second, .val (.long j1), .second, .val (.int i2), .val (.int i3), .val (.int i4), .val (.int i5), .val (.int va), .val (.int vb), .val (.int vc), .val (.int vd), .val (.int ve), .val (.int vf), .val (.int vg), .val (.int (2 : Int32)), .val (.ref b30), .val (.ref kk), .unset, .val (.long jx), .second, .val (.long jy), .second, .val (.long jw), .second] [(.int (lcmpW ((jx - jy) * jw) ((16384 : Int64) * jy)))]) (fun tq kq => XS.lstore X49.here hx rfl (hb hby at_243) rfl (l' := #[.val (.long j0), .second, .val (.long j1), .second, .val (.int i2), .val (.int i3), .val (.int i4), .val (.int i5), .val (.int va), .val (.int vb), .val (.int vc), .val (.int vd), .val (.int ve), .val (.int vf), .val (.int vg), .val (.int (2 : Int32)), .val (.ref b30), .val (.ref kk), .unset, .val (.long jx), .second, .val (.long jy), .second, .val (.long jw), .second]) rfl (XS.lload X49.here hx rfl (hb hby at_245) rfl (XS.lload X49.here hx rfl (hb hby at_247) rfl (XS.lsub X49.here hx rfl (hb hby at_249) rfl (XS.lload X49.here hx rfl (hb hby at_250) rfl (XS.lmul X49.here hx rfl (hb hby at_252) rfl (X49.ldc2Long hx hown (mvT hZ (own_w hw 52 rfl)) (g := (mkF m 253 #[.val (.long j0), .second, .val (.long j1), .second, .val (.int i2), .val (.int i3), .val (.int i4), .val (.int i5), .val (.int va), .val (.int vb), .val (.int vc), .val (.int vd), .val (.int ve), .val (.int vf), .val (.int vg), .val (.int (2 : Int32)), .val (.ref b30), .val (.ref kk), .unset, .val (.long jx), .second, .val (.long jy), .second, .val (.long jw), .second] [(.long ((jx - jy) * jw))])) rfl (hb hby at_253) _ (XS.lload X49.here hx rfl (hb hby at_256) rfl (XS.lmul X49.here hx rfl (hb hby at_258) rfl (XS.lcmp X49.here hx rfl (hb hby at_259) rfl kq)))))))))) ?_
      have hlw := own_law (X := jx) (Y := jy) (W := jw) (by rw [ejx]; omega) (by rw [ejy]; omega) (by rw [ejw]; omega)
      rw [ejx, ejy, ejw] at hlw
      refine own_to T49 (mkF m 275 #[.val (.long j0), .second, .val (.long j1), .second, .val (.int i2), .val (.int i3), .val (.int i4), .val (.int i5), .val (.int va), .val (.int vb), .val (.int vc), .val (.int vd), .val (.int ve), .val (.int vf), .val (.int vg), .val (.int (2 : Int32)), .val (.ref b30), .val (.ref kk), .val (.int (1 : Int32)), .val (.long jx), .second, .val (.long jy), .second, .val (.long jw), .second] []) (fun tq kq => XS.ifNo X49.here hx rfl (hb hby at_260) rfl ((if0 _ _).trans (tlt ((lw_gt ((jx - jy) * jw) ((16384 : Int64) * jy)).mpr (hlw.mpr hcond))).2.2.2) (XS.iconst X49.here hx rfl (hb hby at_263) (XS.goto X49.here hx rfl (pc0 := 264) (pc' := 268) rfl (hb hby at_264) (by decide) (by decide) (XS.istore X49.here hx rfl (hb hby at_268) rfl (l' := #[.val (.long j0), .second, .val (.long j1), .second, .val (.int i2), .val (.int i3), .val (.int i4), .val (.int i5), .val (.int va), .val (.int vb), .val (.int vc), .val (.int vd), .val (.int ve), .val (.int vf), .val (.int vg), .val (.int (2 : Int32)), .val (.ref b30), .val (.ref kk), .val (.int (1 : Int32)), .val (.long jx), .second, .val (.long jy), .second, .val (.long jw), .second]) rfl (XS.iload X49.here hx rfl (hb hby at_270) rfl (XS.ifNo X49.here hx rfl (hb hby at_272) rfl ((if0 _ _).trans (feq (by decide : ¬ ((1 : Int32) = (0 : Int32)))).1) kq)))))) ?_
      obtain ⟨-, -, -, -, -, -, -, -, -, SKs50, SRs50⟩ := id U47
      obtain ⟨T51, X51, e51, st51⟩ := getS2 X49 hx hZ hown (host := "") (Or.inl (own_w hw 53 rfl)) Via.refl e49 SKs50 (g := (mkF m 275 #[.val (.long j0), .second, .val (.long j1), .second, .val (.int i2), .val (.int i3), .val (.int i4), .val (.int i5), .val (.int va), .val (.int vb), .val (.int vc), .val (.int vd), .val (.int ve), .val (.int vf), .val (.int vg), .val (.int (2 : Int32)), .val (.ref b30), .val (.ref kk), .val (.int (1 : Int32)), .val (.long jx), .second, .val (.long jy), .second, .val (.long jw), .second] [])) rfl (hb hby at_275)
      refine own_to T51 (mkF m 298 #[.val (.long j0), .second, .val (.long j1), .second, .val (.int i2), .val (.int i3), .val (.int i4), .val (.int i5), .val (.int va), .val (.int vb), .val (.int vc), .val (.int vd), .val (.int ve), .val (.int vf), .val (.int vg), .val (.int (2 : Int32)), .val (.ref b30), .val (.ref kk), .val (.int (1 : Int32)), .val (.ref kk), .unset, .val (.long jy), .second, .val (.long jw), .second] [(.int (1 : Int32))]) (fun tq kq => st51 _ (XS.goto X51.here hx rfl (pc0 := 278) (pc' := 284) rfl (hb hby at_278) (by decide) (by decide) (XS.astore X51.here hx rfl (hb hby at_284) rfl rfl (l' := #[.val (.long j0), .second, .val (.long j1), .second, .val (.int i2), .val (.int i3), .val (.int i4), .val (.int i5), .val (.int va), .val (.int vb), .val (.int vc), .val (.int vd), .val (.int ve), .val (.int vf), .val (.int vg), .val (.int (2 : Int32)), .val (.ref b30), .val (.ref kk), .val (.int (1 : Int32)), .val (.ref kk), .unset, .val (.long jy), .second, .val (.long jw), .second]) rfl (XS.aload X51.here hx rfl (hb hby at_286) rfl rfl (XS.aload X51.here hx rfl (hb hby at_288) rfl rfl (Jvm.RoadKit.acmp (g := (mkF m 290 #[.val (.long j0), .second, .val (.long j1), .second, .val (.int i2), .val (.int i3), .val (.int i4), .val (.int i5), .val (.int va), .val (.int vb), .val (.int vc), .val (.int vd), .val (.int ve), .val (.int vf), .val (.int vg), .val (.int (2 : Int32)), .val (.ref b30), .val (.ref kk), .val (.int (1 : Int32)), .val (.ref kk), .unset, .val (.long jy), .second, .val (.long jw), .second] [(.ref kk), (.ref kk)])) X51 hx rfl rfl rfl (pc0 := 290) (pc' := 293) (same := true) rfl (hb hby at_290) rfl (decide_eq_true rfl) (by decide) (by decide) (XS.iconst X51.here hx rfl (hb hby at_293) (XS.goto X51.here hx rfl (pc0 := 294) (pc' := 298) rfl (hb hby at_294) (by decide) (by decide) kq)))))))) ?_
      exact own_retZ X51 hx hret hlk (hb hby at_298) (by decide) (by decide) (Or.inr rfl) ⟨rfl, N49⟩
    · skip
      obtain ⟨cq52, kq52, q52a, q52b, q52c⟩ := isOf hZ rfl f48
      obtain ⟨_, _, ⟨T52, L52, k52, n52⟩, -, X52, ⟨Lc52, hQ52, l52, y52, z52⟩, st52⟩ := X47.virtualBack hx (y := (⟨"com/example/warmjoin/warmjoin/PageReadings", "next", "()Lcom/example/warmjoin/warmjoin/PageReadings$Way;"⟩ : MethodName)) (z := (⟨"com/example/warmjoin/warmjoin/PageReadings", "next", "()Lcom/example/warmjoin/warmjoin/PageReadings$Way;"⟩ : MethodName)) hown (mvT hZ (own_w hw 39 rfl)) (mvT hZ (own_w hw 40 rfl)) (notFace_of_selects (args := #[]) (mvT hZ (own_w hw 42 rfl))) (mvT hZ (own_w hw 42 rfl)) (mvT hZ (own_w hw 41 rfl)) (by decide) (backOf (W := 0) (rm_next6ro l Z a0 hw [] b30 kk ro vg (0 : Int32) (0 : Int64) rt47 vb47 rr47 rw47 (((((0) * 3 + va.toInt * 4)) * 3 + vc.toInt * 16)) (((((0) * 3 + vb.toInt * 4)) * 3 + vd.toInt * 16)) (((((0) * 3 + (ve.toInt) * 4)) * 3 + (vf.toInt) * 16)) T47.heap n0 Zs47 U47 Dr47 Dw47 (Dy.cast (by decide) Dt47) Dv47 (by omega) (by omega) (by omega) bvg (mt (own_c6 (X := 3 * va.toInt + 4 * vc.toInt) (Y := 3 * vb.toInt + 4 * vd.toInt) (Z := 3 * ve.toInt + 4 * vf.toInt + 512 * vg.toInt) (by omega) (by omega) (by omega)).mp hcond)) hZ (own_w hw 43 rfl) (own_w hw 5 rfl) (by decide) (by decide)) q52a q52c (g := (mkF m 144 #[.val (.long j0), .second, .val (.long j1), .second, .val (.int i2), .val (.int i3), .val (.int i4), .val (.int i5), .val (.int va), .val (.int vb), .val (.int vc), .val (.int vd), .val (.int ve), .val (.int vf), .val (.int vg), .val (.int (2 : Int32)), .val (.ref b30), .unset, .unset, .unset, .unset, .unset, .unset, .unset, .unset] [(.ref b30)])) rfl (by rw [hml]; rfl) (Steps.refl _) (argsL := []) (rest := []) (lenOf pd_4 rfl) rfl (by show 2 * 0 + _ ≤ _; exact Nat.le_of_eq rfl) (hb hby at_144) (fun _ _ => ⟨rfl, rfl, (by decide : 1 + 0 ≤ _), (by decide : 8 + 0 ≤ _)⟩)
      dsimp only [Pt.U, Pt.locs, Pt.cells, Pt.slots] at X52 l52 y52 z52 st52 hQ52
      have l52y := l52.symm
      clear l52
      subst l52y
      obtain rfl : k52 = 1 := y52
      obtain rfl : n52 = 8 := z52
      obtain ⟨rfl, N52q, e52⟩ := hQ52
      have N52 := Fr.app N47 N52q
      refine own_to T52 (mkF m 172 #[.val (.long j0), .second, .val (.long j1), .second, .val (.int i2), .val (.int i3), .val (.int i4), .val (.int i5), .val (.int va), .val (.int vb), .val (.int vc), .val (.int vd), .val (.int ve), .val (.int vf), .val (.int vg), .val (.int (2 : Int32)), .val (.ref b30), .val (.ref ro), .unset, .unset, .unset, .unset, .unset, .unset, .unset] [(.int vc), (.long (4 : Int64)), (.long ((3 : Int64) * (va.toInt64)))]) (fun tq kq => st52.trans (XS.astore X52.here hx rfl (hb hby at_147) rfl rfl (l' := #[.val (.long j0), .second, .val (.long j1), .second, .val (.int i2), .val (.int i3), .val (.int i4), .val (.int i5), .val (.int va), .val (.int vb), .val (.int vc), .val (.int vd), .val (.int ve), .val (.int vf), .val (.int vg), .val (.int (2 : Int32)), .val (.ref b30), .val (.ref ro), .unset, .unset, .unset, .unset, .unset, .unset, .unset]) rfl (XS.iload X52.here hx rfl (hb hby at_149) rfl (XS.ifYes X52.here hx rfl (pc0 := 151) (pc' := 160) rfl (hb hby at_151) rfl ((if0 _ _).trans (feq (by decide : ¬ ((2 : Int32) = (0 : Int32)))).2) (by decide) (by decide) (X52.ldc2Long hx hown (mvT hZ (own_w hw 49 rfl)) (g := (mkF m 160 #[.val (.long j0), .second, .val (.long j1), .second, .val (.int i2), .val (.int i3), .val (.int i4), .val (.int i5), .val (.int va), .val (.int vb), .val (.int vc), .val (.int vd), .val (.int ve), .val (.int vf), .val (.int vg), .val (.int (2 : Int32)), .val (.ref b30), .val (.ref ro), .unset, .unset, .unset, .unset, .unset, .unset, .unset] [])) rfl (hb hby at_160) _ (XS.iload X52.here hx rfl (hb hby at_163) rfl (XS.i2l X52.here hx rfl (hb hby at_165) rfl (XS.lmul X52.here hx rfl (hb hby at_166) rfl (X52.ldc2Long hx hown (mvT hZ (own_w hw 50 rfl)) (g := (mkF m 167 #[.val (.long j0), .second, .val (.long j1), .second, .val (.int i2), .val (.int i3), .val (.int i4), .val (.int i5), .val (.int va), .val (.int vb), .val (.int vc), .val (.int vd), .val (.int ve), .val (.int vf), .val (.int vg), .val (.int (2 : Int32)), .val (.ref b30), .val (.ref ro), .unset, .unset, .unset, .unset, .unset, .unset, .unset] [(.long ((3 : Int64) * (va.toInt64)))])) rfl (hb hby at_167) _ (XS.iload X52.here hx rfl (hb hby at_170) rfl kq)))))))))) ?_
      refine own_to T52 (mkF m 175 #[.val (.long j0), .second, .val (.long j1), .second, .val (.int i2), .val (.int i3), .val (.int i4), .val (.int i5), .val (.int va), .val (.int vb), .val (.int vc), .val (.int vd), .val (.int ve), .val (.int vf), .val (.int vg), .val (.int (2 : Int32)), .val (.ref b30), .val (.ref ro), .unset, .unset, .unset, .unset, .unset, .unset, .unset] [(.long (((3 : Int64) * (va.toInt64)) + ((4 : Int64) * (vc.toInt64))))]) (fun tq kq => XS.i2l X52.here hx rfl (hb hby at_172) rfl (XS.lmul X52.here hx rfl (hb hby at_173) rfl (XS.ladd X52.here hx rfl (hb hby at_174) rfl kq))) ?_
      obtain ⟨jx, hjx⟩ : ∃ z0, z0 = (((3 : Int64) * (va.toInt64)) + ((4 : Int64) * (vc.toInt64))) := ⟨_, rfl⟩
      rw [← hjx]
      have ejx : jx.toInt = 3 * va.toInt + 4 * vc.toInt := by rw [hjx]; exact own_lin (by decide) (by decide) (by decide) (by decide) bva bvc (fun z h1 h2 => ⟨by omega, by omega⟩) (fun z h1 h2 => ⟨by omega, by omega⟩)
      clear hjx
      refine own_to T52 (mkF m 192 #[.val (.long j0), .second, .val (.long j1), .second, .val (.int i2), .val (.int i3), .val (.int i4), .val (.int i5), .val (.int va), .val (.int vb), .val (.int vc), .val (.int vd), .val (.int ve), .val (.int vf), .val (.int vg), .val (.int (2 : Int32)), .val (.ref b30), .val (.ref ro), .unset, .val (.long jx), .second, .unset, .unset, .unset, .unset] [(.long (((3 : Int64) * (vb.toInt64)) + ((4 : Int64) * (vd.toInt64))))]) (fun tq kq => XS.lstore X52.here hx rfl (hb hby at_175) rfl (l' := #[.val (.long j0), .second, .val (.long j1), .second, .val (.int i2), .val (.int i3), .val (.int i4), .val (.int i5), .val (.int va), .val (.int vb), .val (.int vc), .val (.int vd), .val (.int ve), .val (.int vf), .val (.int vg), .val (.int (2 : Int32)), .val (.ref b30), .val (.ref ro), .unset, .val (.long jx), .second, .unset, .unset, .unset, .unset]) rfl (X52.ldc2Long hx hown (mvT hZ (own_w hw 49 rfl)) (g := (mkF m 177 #[.val (.long j0), .second, .val (.long j1), .second, .val (.int i2), .val (.int i3), .val (.int i4), .val (.int i5), .val (.int va), .val (.int vb), .val (.int vc), .val (.int vd), .val (.int ve), .val (.int vf), .val (.int vg), .val (.int (2 : Int32)), .val (.ref b30), .val (.ref ro), .unset, .val (.long jx), .second, .unset, .unset, .unset, .unset] [])) rfl (hb hby at_177) _ (XS.iload X52.here hx rfl (hb hby at_180) rfl (XS.i2l X52.here hx rfl (hb hby at_182) rfl (XS.lmul X52.here hx rfl (hb hby at_183) rfl (X52.ldc2Long hx hown (mvT hZ (own_w hw 50 rfl)) (g := (mkF m 184 #[.val (.long j0), .second, .val (.long j1), .second, .val (.int i2), .val (.int i3), .val (.int i4), .val (.int i5), .val (.int va), .val (.int vb), .val (.int vc), .val (.int vd), .val (.int ve), .val (.int vf), .val (.int vg), .val (.int (2 : Int32)), .val (.ref b30), .val (.ref ro), .unset, .val (.long jx), .second, .unset, .unset, .unset, .unset] [(.long ((3 : Int64) * (vb.toInt64)))])) rfl (hb hby at_184) _ (XS.iload X52.here hx rfl (hb hby at_187) rfl (XS.i2l X52.here hx rfl (hb hby at_189) rfl (XS.lmul X52.here hx rfl (hb hby at_190) rfl (XS.ladd X52.here hx rfl (hb hby at_191) rfl kq)))))))))) ?_
      obtain ⟨jy, hjy⟩ : ∃ z0, z0 = (((3 : Int64) * (vb.toInt64)) + ((4 : Int64) * (vd.toInt64))) := ⟨_, rfl⟩
      rw [← hjy]
      have ejy : jy.toInt = 3 * vb.toInt + 4 * vd.toInt := by rw [hjy]; exact own_lin (by decide) (by decide) (by decide) (by decide) bvb bvd (fun z h1 h2 => ⟨by omega, by omega⟩) (fun z h1 h2 => ⟨by omega, by omega⟩)
      clear hjy
      refine own_to T52 (mkF m 232 #[.val (.long j0), .second, .val (.long j1), .second, .val (.int i2), .val (.int i3), .val (.int i4), .val (.int i5), .val (.int va), .val (.int vb), .val (.int vc), .val (.int vd), .val (.int ve), .val (.int vf), .val (.int vg), .val (.int (2 : Int32)), .val (.ref b30), .val (.ref ro), .unset, .val (.long jx), .second, .val (.long jy), .second, .unset, .unset] [(.int vf), (.long (4 : Int64)), (.long ((3 : Int64) * (ve.toInt64)))]) (fun tq kq => XS.lstore X52.here hx rfl (hb hby at_192) rfl (l' := #[.val (.long j0), .second, .val (.long j1), .second, .val (.int i2), .val (.int i3), .val (.int i4), .val (.int i5), .val (.int va), .val (.int vb), .val (.int vc), .val (.int vd), .val (.int ve), .val (.int vf), .val (.int vg), .val (.int (2 : Int32)), .val (.ref b30), .val (.ref ro), .unset, .val (.long jx), .second, .val (.long jy), .second, .unset, .unset]) rfl (XS.iload X52.here hx rfl (hb hby at_194) rfl (XS.iconst X52.here hx rfl (hb hby at_196) (XS.icmpYes X52.here hx rfl (pc0 := 197) (pc' := 220) rfl (hb hby at_197) rfl (feq (by decide : ¬ ((2 : Int32) = (1 : Int32)))).2 (by decide) (by decide) (X52.ldc2Long hx hown (mvT hZ (own_w hw 49 rfl)) (g := (mkF m 220 #[.val (.long j0), .second, .val (.long j1), .second, .val (.int i2), .val (.int i3), .val (.int i4), .val (.int i5), .val (.int va), .val (.int vb), .val (.int vc), .val (.int vd), .val (.int ve), .val (.int vf), .val (.int vg), .val (.int (2 : Int32)), .val (.ref b30), .val (.ref ro), .unset, .val (.long jx), .second, .val (.long jy), .second, .unset, .unset] [])) rfl (hb hby at_220) _ (XS.iload X52.here hx rfl (hb hby at_223) rfl (XS.i2l X52.here hx rfl (hb hby at_225) rfl (XS.lmul X52.here hx rfl (hb hby at_226) rfl (X52.ldc2Long hx hown (mvT hZ (own_w hw 50 rfl)) (g := (mkF m 227 #[.val (.long j0), .second, .val (.long j1), .second, .val (.int i2), .val (.int i3), .val (.int i4), .val (.int i5), .val (.int va), .val (.int vb), .val (.int vc), .val (.int vd), .val (.int ve), .val (.int vf), .val (.int vg), .val (.int (2 : Int32)), .val (.ref b30), .val (.ref ro), .unset, .val (.long jx), .second, .val (.long jy), .second, .unset, .unset] [(.long ((3 : Int64) * (ve.toInt64)))])) rfl (hb hby at_227) _ (XS.iload X52.here hx rfl (hb hby at_230) rfl kq)))))))))) ?_
      refine own_to T52 (mkF m 243 #[.val (.long j0), .second, .val (.long j1), .second, .val (.int i2), .val (.int i3), .val (.int i4), .val (.int i5), .val (.int va), .val (.int vb), .val (.int vc), .val (.int vd), .val (.int ve), .val (.int vf), .val (.int vg), .val (.int (2 : Int32)), .val (.ref b30), .val (.ref ro), .unset, .val (.long jx), .second, .val (.long jy), .second, .unset, .unset] [(.long ((((3 : Int64) * (ve.toInt64)) + ((4 : Int64) * (vf.toInt64))) + ((512 : Int64) * (vg.toInt64))))]) (fun tq kq => XS.i2l X52.here hx rfl (hb hby at_232) rfl (XS.lmul X52.here hx rfl (hb hby at_233) rfl (XS.ladd X52.here hx rfl (hb hby at_234) rfl (X52.ldc2Long hx hown (mvT hZ (own_w hw 51 rfl)) (g := (mkF m 235 #[.val (.long j0), .second, .val (.long j1), .second, .val (.int i2), .val (.int i3), .val (.int i4), .val (.int i5), .val (.int va), .val (.int vb), .val (.int vc), .val (.int vd), .val (.int ve), .val (.int vf), .val (.int vg), .val (.int (2 : Int32)), .val (.ref b30), .val (.ref ro), .unset, .val (.long jx), .second, .val (.long jy), .second, .unset, .unset] [(.long (((3 : Int64) * (ve.toInt64)) + ((4 : Int64) * (vf.toInt64))))])) rfl (hb hby at_235) _ (XS.iload X52.here hx rfl (hb hby at_238) rfl (XS.i2l X52.here hx rfl (hb hby at_240) rfl (XS.lmul X52.here hx rfl (hb hby at_241) rfl (XS.ladd X52.here hx rfl (hb hby at_242) rfl kq)))))))) ?_
      obtain ⟨jw, hjw⟩ : ∃ z0, z0 = ((((3 : Int64) * (ve.toInt64)) + ((4 : Int64) * (vf.toInt64))) + ((512 : Int64) * (vg.toInt64))) := ⟨_, rfl⟩
      rw [← hjw]
      have ejv := (own_lin (k := 3) (j := 4) (ki := 3) (ji := 4) (by decide) (by decide) (by decide) (by decide) bve bvf (fun z h1 h2 => ⟨by omega, by omega⟩) (fun z h1 h2 => ⟨by omega, by omega⟩))
      have eju : ((512 : Int64) * vg.toInt64).toInt = 512 * vg.toInt := (by rw [own_lmul (by rw [own_l, show (512 : Int64).toInt = 512 from by decide]; omega), own_l, show (512 : Int64).toInt = 512 from by decide])
      have ejw : jw.toInt = 3 * ve.toInt + 4 * vf.toInt + 512 * vg.toInt := (by rw [hjw, own_ladd (by rw [ejv, eju]; omega), ejv, eju])
      clear hjw
      refine own_to T52 (mkF m 260 #[.val (.long j0), .second, .val (.long j1), .second, .val (.int i2), .val (.int i3), .val (.int i4), .val (.int i5), .val (.int va), .val (.int vb), .val (.int vc), .val (.int vd), .val (.int ve), .val (.int vf), .val (.int vg), .val (.int (2 : Int32)), .val (.ref b30), .val (.ref ro), .unset, .val (.long jx), .second, .val (.long jy), .second, .val (.long jw), .second] [(.int (lcmpW ((jx - jy) * jw) ((16384 : Int64) * jy)))]) (fun tq kq => XS.lstore X52.here hx rfl (hb hby at_243) rfl (l' := #[.val (.long j0), .second, .val (.long j1), .second, .val (.int i2), .val (.int i3), .val (.int i4), .val (.int i5), .val (.int va), .val (.int vb), .val (.int vc), .val (.int vd), .val (.int ve), .val (.int vf), .val (.int vg), .val (.int (2 : Int32)), .val (.ref b30), .val (.ref ro), .unset, .val (.long jx), .second, .val (.long jy), .second, .val (.long jw), .second]) rfl (XS.lload X52.here hx rfl (hb hby at_245) rfl (XS.lload X52.here hx rfl (hb hby at_247) rfl (XS.lsub X52.here hx rfl (hb hby at_249) rfl (XS.lload X52.here hx rfl (hb hby at_250) rfl (XS.lmul X52.here hx rfl (hb hby at_252) rfl (X52.ldc2Long hx hown (mvT hZ (own_w hw 52 rfl)) (g := (mkF m 253 #[.val (.long j0), .second, .val (.long j1), .second, .val (.int i2), .val (.int i3), .val (.int i4), .val (.int i5), .val (.int va), .val (.int vb), .val (.int vc), .val (.int vd), .val (.int ve), .val (.int vf), .val (.int vg), .val (.int (2 : Int32)), .val (.ref b30), .val (.ref ro), .unset, .val (.long jx), .second, .val (.long jy), .second, .val (.long jw), .second] [(.long ((jx - jy) * jw))])) rfl (hb hby at_253) _ (XS.lload X52.here hx rfl (hb hby at_256) rfl (XS.lmul X52.here hx rfl (hb hby at_258) rfl (XS.lcmp X52.here hx rfl (hb hby at_259) rfl kq)))))))))) ?_
      have hlw := own_law (X := jx) (Y := jy) (W := jw) (by rw [ejx]; omega) (by rw [ejy]; omega) (by rw [ejw]; omega)
      rw [ejx, ejy, ejw] at hlw
      refine own_to T52 (mkF m 281 #[.val (.long j0), .second, .val (.long j1), .second, .val (.int i2), .val (.int i3), .val (.int i4), .val (.int i5), .val (.int va), .val (.int vb), .val (.int vc), .val (.int vd), .val (.int ve), .val (.int vf), .val (.int vg), .val (.int (2 : Int32)), .val (.ref b30), .val (.ref ro), .val (.int (0 : Int32)), .val (.long jx), .second, .val (.long jy), .second, .val (.long jw), .second] []) (fun tq kq => XS.ifYes X52.here hx rfl (pc0 := 260) (pc' := 267) rfl (hb hby at_260) rfl ((if0 _ _).trans (flt (mt (lw_gt ((jx - jy) * jw) ((16384 : Int64) * jy)).mp (mt hlw.mp hcond))).2.2.2) (by decide) (by decide) (XS.iconst X52.here hx rfl (hb hby at_267) (XS.istore X52.here hx rfl (hb hby at_268) rfl (l' := #[.val (.long j0), .second, .val (.long j1), .second, .val (.int i2), .val (.int i3), .val (.int i4), .val (.int i5), .val (.int va), .val (.int vb), .val (.int vc), .val (.int vd), .val (.int ve), .val (.int vf), .val (.int vg), .val (.int (2 : Int32)), .val (.ref b30), .val (.ref ro), .val (.int (0 : Int32)), .val (.long jx), .second, .val (.long jy), .second, .val (.long jw), .second]) rfl (XS.iload X52.here hx rfl (hb hby at_270) rfl (XS.ifYes X52.here hx rfl (pc0 := 272) (pc' := 281) rfl (hb hby at_272) rfl ((if0 _ _).trans (teq (by decide : (0 : Int32) = (0 : Int32))).1) (by decide) (by decide) kq))))) ?_
      obtain ⟨-, -, -, -, -, -, -, -, -, SKs53, SRs53⟩ := id U47
      obtain ⟨T54, X54, e54, st54⟩ := getS2 X52 hx hZ hown (host := "") (Or.inl (own_w hw 57 rfl)) Via.refl e52 SRs53 (g := (mkF m 281 #[.val (.long j0), .second, .val (.long j1), .second, .val (.int i2), .val (.int i3), .val (.int i4), .val (.int i5), .val (.int va), .val (.int vb), .val (.int vc), .val (.int vd), .val (.int ve), .val (.int vf), .val (.int vg), .val (.int (2 : Int32)), .val (.ref b30), .val (.ref ro), .val (.int (0 : Int32)), .val (.long jx), .second, .val (.long jy), .second, .val (.long jw), .second] [])) rfl (hb hby at_281)
      refine own_to T54 (mkF m 298 #[.val (.long j0), .second, .val (.long j1), .second, .val (.int i2), .val (.int i3), .val (.int i4), .val (.int i5), .val (.int va), .val (.int vb), .val (.int vc), .val (.int vd), .val (.int ve), .val (.int vf), .val (.int vg), .val (.int (2 : Int32)), .val (.ref b30), .val (.ref ro), .val (.int (0 : Int32)), .val (.ref ro), .unset, .val (.long jy), .second, .val (.long jw), .second] [(.int (1 : Int32))]) (fun tq kq => st54 _ (XS.astore X54.here hx rfl (hb hby at_284) rfl rfl (l' := #[.val (.long j0), .second, .val (.long j1), .second, .val (.int i2), .val (.int i3), .val (.int i4), .val (.int i5), .val (.int va), .val (.int vb), .val (.int vc), .val (.int vd), .val (.int ve), .val (.int vf), .val (.int vg), .val (.int (2 : Int32)), .val (.ref b30), .val (.ref ro), .val (.int (0 : Int32)), .val (.ref ro), .unset, .val (.long jy), .second, .val (.long jw), .second]) rfl (XS.aload X54.here hx rfl (hb hby at_286) rfl rfl (XS.aload X54.here hx rfl (hb hby at_288) rfl rfl (Jvm.RoadKit.acmp (g := (mkF m 290 #[.val (.long j0), .second, .val (.long j1), .second, .val (.int i2), .val (.int i3), .val (.int i4), .val (.int i5), .val (.int va), .val (.int vb), .val (.int vc), .val (.int vd), .val (.int ve), .val (.int vf), .val (.int vg), .val (.int (2 : Int32)), .val (.ref b30), .val (.ref ro), .val (.int (0 : Int32)), .val (.ref ro), .unset, .val (.long jy), .second, .val (.long jw), .second] [(.ref ro), (.ref ro)])) X54 hx rfl rfl rfl (pc0 := 290) (pc' := 293) (same := true) rfl (hb hby at_290) rfl (decide_eq_true rfl) (by decide) (by decide) (XS.iconst X54.here hx rfl (hb hby at_293) (XS.goto X54.here hx rfl (pc0 := 294) (pc' := 298) rfl (hb hby at_294) (by decide) (by decide) kq))))))) ?_
      exact own_retZ X54 hx hret hlk (hb hby at_298) (by decide) (by decide) (Or.inr rfl) ⟨rfl, N52⟩
set_option maxRecDepth 65536 in
set_option maxHeartbeats 40000000 in
theorem comes_1 {Post : Tables → Env → Array Value → State → Outcome → State → Prop} (hpost : ∀ tb e args s v u, (limb_1_1.after args s (.returned v) u = true ∧ limb_1_2.after args s (.returned v) u = true ∧ True) → FrameEnd s (.returned v) u (Jvm.fieldLocs frame_1_writes args s ++ Jvm.arrayLocs frame_1_arrays args s ++ Jvm.staticLocs frame_1_statics s) 16 128 → Post tb e args s (.returned v) u) :
    ArmFor flags0 classFile x code maxLocals ret World_1 tables_1 room_1 Calls_1 rest_1 Pre_1 Post := by
  intro l hfl _ _ p e ha hc hk s m args below hf hA hF happ hP
  obtain ⟨hcalls, hrest, hpre⟩ := hP
  obtain ⟨-, -, -, hnamed, -, -, -, hat⟩ := (Spec.applies_iff hf).mp happ
  obtain ⟨hg, hn⟩ := and_e (Cond.before_iff.mp (show (Jvm.Cond.and given_1 narrow_1).before args s = true from hpre))
  obtain ⟨q1, q2⟩ := and_e hg
  obtain ⟨q3, q4⟩ := and_e q2
  obtain ⟨q5, q6⟩ := and_e q4
  obtain ⟨q7, q8⟩ := and_e q6
  obtain ⟨q9, q10⟩ := and_e q8
  obtain ⟨q11, q12⟩ := and_e q10
  obtain ⟨w0, w1, w2, w3, w4, w5, rfl⟩ : ∃ w0 w1 w2 w3 w4 w5 : Value, args = #[w0, w1, w2, w3, w4, w5] := by
    have hs : args.size = 6 := by simpa [Cond.value, given_1] using q1
    obtain ⟨L⟩ := args
    match L, hs with
    | [w0, w1, w2, w3, w4, w5], _ => exact ⟨w0, w1, w2, w3, w4, w5, rfl⟩
  have hw := fun d (hd : d ∈ tables_1) => atoms_spec (ws := Jvm.Cond.code x code maxLocals ret :: tables_1) hat d (List.mem_cons_of_mem _ hd)
  have hfit : Fit s := fun {y c} hc i hi => by
    obtain ⟨ha, rfl⟩ := Array.getElem?_eq_some_iff.mp hc
    have q := List.all_eq_true.mp ((Array.all_eq_true_iff_forall_mem.mp hF) _ (Array.getElem_mem ha)) i (List.mem_range.mpr hi)
    simpa [Array.getElem?_eq_getElem hi] using q
  obtain ⟨i0, ei0⟩ := isL_v q3
  obtain rfl : w0 = (.long i0) := Option.some.inj ei0
  obtain ⟨i1, ei1⟩ := isL_v q5
  obtain rfl : w1 = (.long i1) := Option.some.inj ei1
  obtain ⟨i2, ei2⟩ := is_v q7
  obtain rfl : w2 = (.int i2) := Option.some.inj ei2
  obtain ⟨i3, ei3⟩ := is_v q9
  obtain rfl : w3 = (.int i3) := Option.some.inj ei3
  obtain ⟨i4, ei4⟩ := is_v q11
  obtain rfl : w4 = (.int i4) := Option.some.inj ei4
  obtain ⟨i5, ei5⟩ := is_v q12
  obtain rfl : w5 = (.int i5) := Option.some.inj ei5
  obtain ⟨nn1, nn2⟩ := and_e hn
  obtain ⟨w_PageReadings_Way_KEYS, ev_w_PageReadings_Way_KEYS⟩ := exa_v nn1
  have S_w_PageReadings_Way_KEYS := Sta.start ev_w_PageReadings_Way_KEYS (Or.inr ⟨(own_w hw 47 rfl), (own_w hw 48 rfl)⟩)
  have E_w_PageReadings_Way_KEYS := Exa.start ev_w_PageReadings_Way_KEYS nn1
  obtain ⟨w_PageReadings_Way_ROWS, ev_w_PageReadings_Way_ROWS⟩ := exa_v nn2
  have S_w_PageReadings_Way_ROWS := Sta.start ev_w_PageReadings_Way_ROWS (Or.inr ⟨(own_w hw 47 rfl), (own_w hw 55 rfl)⟩)
  have E_w_PageReadings_Way_ROWS := Exa.start ev_w_PageReadings_Way_ROWS nn2
  obtain ⟨n, o, h1, h2, h3, _, L, rfl, ⟨rfl, N⟩, hq⟩ := rm0 l s _ hw tables_1 i0 i1 i2 i3 i4 i5 w_PageReadings_Way_KEYS w_PageReadings_Way_ROWS s.heap s.heap.size (Nat.le_refl _) S_w_PageReadings_Way_KEYS S_w_PageReadings_Way_ROWS p e ha hc hk s m _ below hf ((Spec.applies_iff_loose hf).mp happ).1 ⟨rfl, State.Warmed39.refl s, rfl⟩ trivial
  refine ⟨n, _, h1, h2, h3, hpost _ _ _ _ _ _ ⟨Cond.after_iff.mpr rfl, Cond.after_iff.mpr (eq_i res_at (Term.int_eval (1)) rfl), trivial⟩ ⟨hq.1, hq.2.1, (hq.2.2.sift fun y hy => Or.inr (N y hy)).mono (by decide) (by decide)⟩⟩
theorem main_1_1 : Claimed_1_1 := comes_1 fun _ _ _ _ _ _ h hF => ⟨h.1, hF⟩
theorem main_1_2 : Claimed_1_2 := comes_1 fun _ _ _ _ _ _ h hF => ⟨h.2.1, hF⟩
end Jvm.Pilot.@@N@@
namespace Jvm.Pilot.@@N@@
open Jvm Jvm.ClassFile Sem Op Lib Jvm.Free Jvm.Stand Jvm.Pilot.@@N@@.Jvm.D
/-! MADE BY PROGRAM (witnessworld.py) out of the Statement's table words and the real class files: 13 classes; the members and pool entries that the words name. The judged class is class 1, her method 1. -/
namespace start1
open Jvm.ClassFile
def u (s : String) : CpInfo := .utf8 (stringToUtf16 s)
/-- a pool by its gaps: so many unusable entries, then the entry; so many at the end -/
def gap : Nat → List CpInfo → List CpInfo
  | 0, r => r
  | n + 1, r => .unusable :: gap n r
def poolList (es : List (Nat × CpInfo)) (last : Nat) : List CpInfo := es.foldr (fun e r => gap e.1 (e.2 :: r)) (gap last [])
def pool (es : List (Nat × CpInfo)) (last : Nat) : Array CpInfo := ⟨poolList es last⟩
def fileOf (pool : Array CpInfo) (this : Nat) (attrs : Array Attribute := #[]) (ms : Array MethodInfo := #[]) (fl : Nat := 33) (sup : Nat := 0) (ifs : Array Nat := #[]) (fds : Array FieldInfo := #[]) : ClassFile where
  minorVersion := 0
  majorVersion := 65
  constantPool := pool
  accessFlags := fl
  thisClass := this
  superClass := sup
  interfaces := ifs
  fields := fds
  methods := ms
  attributes := attrs
def plain (name : String) (sup : Option ClassId) : Class where
  name := name
  kind := .ordinary
  loader := none
  accessFlags := 33
  super := sup
  interfaces := #[]
  cf := none
  fields := #[]
  methods := #[]
  instanceTypes := #[]
  staticTypes := #[]
  resolved := #[]
  callSites := []
  init := .initialized
  statics := none
  mirror := none

def pool0 : Array CpInfo := pool [(5, u "<init>"), (0, u "()V"), (1, .class_ 10), (1, u "java/lang/Object")] 113

def k0c0 : Code := { maxStack := 0, maxLocals := 1, code := object_method_1_code, exceptionTable := #[], attributes := #[] }
def k0m0 : Method := { name := "<init>", desc := "()V", sig := { parameters := [], returnType := none }, accessFlags := 1, code := some k0c0 }
/-- java/lang/Object -/
def k0 : Class := { plain "java/lang/Object" none with
  accessFlags := 33
  interfaces := #[]
  cf := some (fileOf pool0 8 #[] #[{ accessFlags := 1, nameIndex := 5, descriptorIndex := 6, attributes := #[] }] 33 0 #[] #[])
  fields := #[]
  methods := #[k0m0]
  instanceTypes := #[]
  staticTypes := #[]
  resolved := Array.replicate 124 none
  statics := none }

def pool1 : Array CpInfo := pool [(2, .class_ 4), (1, u "java/lang/Object"), (0, u "<init>"), (0, u "()V"), (0, .long 1048575), (1, .integer 1048575), (0, .integer 2147483647), (0, .class_ 12), (0, u "com/example/warmjoin/warmjoin/PageReadings"), (0, .methodref 11 14), (0, .nameAndType 5 15), (0, u "(ILcom/example/warmjoin/warmjoin/PageReadings$Way;)V"), (0, .methodref 11 17), (0, .nameAndType 18 19), (0, u "took"), (0, u "(I)V"), (0, .methodref 11 21), (0, .nameAndType 22 23), (0, u "read"), (0, u "(II)V"), (0, .methodref 11 25), (0, .nameAndType 26 27), (0, u "next"), (0, u "()Lcom/example/warmjoin/warmjoin/PageReadings$Way;"), (0, .long 3), (1, .long 4), (1, .long 16), (1, .long 512), (1, .long 16384), (1, .fieldref 39 40), (0, .class_ 41), (0, .nameAndType 42 43), (0, u "com/example/warmjoin/warmjoin/PageReadings$Way"), (0, u "KEYS"), (0, u "Lcom/example/warmjoin/warmjoin/PageReadings$Way;"), (0, .fieldref 39 45), (0, .nameAndType 46 43), (0, u "ROWS"), (0, .class_ 48), (0, u "com/example/warmjoin/warmjoin/PageReadingsReadPinLaw"), (2, u "law"), (0, u "(JJIIII)Z")] 5

def k1m0 : Method := { name := "<init>", desc := "()V", sig := { parameters := [], returnType := none }, accessFlags := 1, code := none }
def k1c1 : Code := { maxStack := 6, maxLocals := 25, code := code, exceptionTable := #[], attributes := #[] }
def k1m1 : Method := { name := "law", desc := "(JJIIII)Z", sig := { parameters := [.long, .long, .int, .int, .int, .int], returnType := some .boolean }, accessFlags := 9, code := some k1c1 }
/-- com/example/warmjoin/warmjoin/PageReadingsReadPinLaw -/
def k1 : Class := { plain "com/example/warmjoin/warmjoin/PageReadingsReadPinLaw" (some 0) with
  accessFlags := 49
  interfaces := #[]
  cf := some (fileOf pool1 47 #[] #[{ accessFlags := 1, nameIndex := 5, descriptorIndex := 6, attributes := #[] }, { accessFlags := 9, nameIndex := 51, descriptorIndex := 52, attributes := #[] }] 49 2 #[] #[])
  fields := #[]
  methods := #[k1m0, k1m1]
  instanceTypes := #[]
  staticTypes := #[]
  resolved := Array.replicate 58 none
  statics := none }

def pool2 : Array CpInfo := pool [(1, .methodref 2 3), (0, .class_ 4), (0, .nameAndType 5 6), (0, u "java/lang/Object"), (0, u "<init>"), (0, u "()V"), (0, .fieldref 8 9), (0, .class_ 10), (0, .nameAndType 11 12), (0, u "com/example/warmjoin/warmjoin/PageReadings"), (0, u "values"), (0, u "I"), (0, .fieldref 8 14), (0, .nameAndType 15 16), (0, u "only"), (0, u "Lcom/example/warmjoin/warmjoin/PageReadings$Way;"), (0, .fieldref 8 18), (0, .nameAndType 19 20), (0, u "rowsTaken"), (0, u "D"), (0, .fieldref 22 23), (0, .class_ 24), (0, .nameAndType 25 16), (0, u "com/example/warmjoin/warmjoin/PageReadings$Way"), (0, u "ROWS"), (0, .fieldref 8 27), (0, .nameAndType 28 20), (0, u "valueBytes"), (0, .double 4629700416936869888), (1, .fieldref 8 32), (0, .nameAndType 33 20), (0, u "rowsRead"), (0, .fieldref 8 35), (0, .nameAndType 36 20), (0, u "rowsWanted"), (0, .double 4652218415073722368), (1, .fieldref 22 40), (0, .nameAndType 41 16), (0, u "KEYS"), (0, .fieldref 8 43), (0, .nameAndType 44 12), (0, u "takenSince"), (0, .fieldref 8 46), (0, .nameAndType 47 48), (0, u "bytesSince"), (0, u "J"), (0, .double 4604930618986332160), (1, u "VALUE_BYTES"), (2, u "LOOKUP_BYTES"), (1, u "KEPT"), (0, u "(ILcom/example/warmjoin/warmjoin/PageReadings$Way;)V"), (2, u "next"), (0, u "()Lcom/example/warmjoin/warmjoin/PageReadings$Way;"), (1, u "took"), (0, u "(I)V"), (0, u "read"), (0, u "(II)V")] 5

def k2c0 : Code := { maxStack := 2, maxLocals := 3, code := prog_102_method_1_code, exceptionTable := #[], attributes := #[] }
def k2m0 : Method := { name := "<init>", desc := "(ILcom/example/warmjoin/warmjoin/PageReadings$Way;)V", sig := { parameters := [.int, (.object "com/example/warmjoin/warmjoin/PageReadings$Way")], returnType := none }, accessFlags := 0, code := some k2c0 }
def k2c1 : Code := { maxStack := 6, maxLocals := 5, code := prog_102_method_2_code, exceptionTable := #[], attributes := #[] }
def k2m1 : Method := { name := "next", desc := "()Lcom/example/warmjoin/warmjoin/PageReadings$Way;", sig := { parameters := [], returnType := some (.object "com/example/warmjoin/warmjoin/PageReadings$Way") }, accessFlags := 0, code := some k2c1 }
def k2c2 : Code := { maxStack := 5, maxLocals := 2, code := prog_102_method_3_code, exceptionTable := #[], attributes := #[] }
def k2m2 : Method := { name := "took", desc := "(I)V", sig := { parameters := [.int], returnType := none }, accessFlags := 0, code := some k2c2 }
def k2c3 : Code := { maxStack := 5, maxLocals := 3, code := prog_102_method_4_code, exceptionTable := #[], attributes := #[] }
def k2m3 : Method := { name := "read", desc := "(II)V", sig := { parameters := [.int, .int], returnType := none }, accessFlags := 0, code := some k2c3 }
/-- com/example/warmjoin/warmjoin/PageReadings -/
def k2 : Class := { plain "com/example/warmjoin/warmjoin/PageReadings" (some 0) with
  accessFlags := 48
  interfaces := #[]
  cf := some (fileOf pool2 8 #[.nestMembers #[22]] #[{ accessFlags := 0, nameIndex := 5, descriptorIndex := 57, attributes := #[] }, { accessFlags := 0, nameIndex := 60, descriptorIndex := 61, attributes := #[] }, { accessFlags := 0, nameIndex := 63, descriptorIndex := 64, attributes := #[] }, { accessFlags := 0, nameIndex := 65, descriptorIndex := 66, attributes := #[] }] 48 2 #[] #[{ accessFlags := 24, nameIndex := 51, descriptorIndex := 12, attributes := #[] }, { accessFlags := 24, nameIndex := 54, descriptorIndex := 12, attributes := #[] }, { accessFlags := 26, nameIndex := 56, descriptorIndex := 20, attributes := #[] }, { accessFlags := 18, nameIndex := 11, descriptorIndex := 12, attributes := #[] }, { accessFlags := 18, nameIndex := 15, descriptorIndex := 16, attributes := #[] }, { accessFlags := 2, nameIndex := 33, descriptorIndex := 20, attributes := #[] }, { accessFlags := 2, nameIndex := 36, descriptorIndex := 20, attributes := #[] }, { accessFlags := 2, nameIndex := 19, descriptorIndex := 20, attributes := #[] }, { accessFlags := 2, nameIndex := 28, descriptorIndex := 20, attributes := #[] }, { accessFlags := 2, nameIndex := 44, descriptorIndex := 12, attributes := #[] }, { accessFlags := 2, nameIndex := 47, descriptorIndex := 48, attributes := #[] }])
  fields := #[{ name := "VALUE_BYTES", type := .int, accessFlags := 24, slot := 0, constantValue := 0 }, { name := "LOOKUP_BYTES", type := .int, accessFlags := 24, slot := 1, constantValue := 0 }, { name := "KEPT", type := .double, accessFlags := 26, slot := 2, constantValue := 0 }, { name := "values", type := .int, accessFlags := 18, slot := 0, constantValue := 0 }, { name := "only", type := (.object "com/example/warmjoin/warmjoin/PageReadings$Way"), accessFlags := 18, slot := 1, constantValue := 0 }, { name := "rowsRead", type := .double, accessFlags := 2, slot := 2, constantValue := 0 }, { name := "rowsWanted", type := .double, accessFlags := 2, slot := 3, constantValue := 0 }, { name := "rowsTaken", type := .double, accessFlags := 2, slot := 4, constantValue := 0 }, { name := "valueBytes", type := .double, accessFlags := 2, slot := 5, constantValue := 0 }, { name := "takenSince", type := .int, accessFlags := 2, slot := 6, constantValue := 0 }, { name := "bytesSince", type := .long, accessFlags := 2, slot := 7, constantValue := 0 }]
  methods := #[k2m0, k2m1, k2m2, k2m3]
  instanceTypes := #[.int, (.object "com/example/warmjoin/warmjoin/PageReadings$Way"), .double, .double, .double, .double, .int, .long]
  staticTypes := #[.int, .int, .double]
  resolved := Array.replicate 72 none
  statics := none }

def pool3 : Array CpInfo := pool [(1, .class_ 2), (0, u "java/lang/constant/Constable"), (0, .class_ 4), (0, u "java/lang/Object")] 6

/-- java/lang/constant/Constable -/
def k3 : Class := { plain "java/lang/constant/Constable" (some 0) with
  accessFlags := 1537
  interfaces := #[]
  cf := some (fileOf pool3 1 #[] #[] 1537 3 #[] #[])
  fields := #[]
  methods := #[]
  instanceTypes := #[]
  staticTypes := #[]
  resolved := Array.replicate 11 none
  statics := none }

def pool4 : Array CpInfo := pool [(1, .class_ 2), (0, u "java/lang/Comparable"), (0, .class_ 4), (0, u "java/lang/Object")] 7

/-- java/lang/Comparable -/
def k4 : Class := { plain "java/lang/Comparable" (some 0) with
  accessFlags := 1537
  interfaces := #[]
  cf := some (fileOf pool4 1 #[] #[] 1537 3 #[] #[])
  fields := #[]
  methods := #[]
  instanceTypes := #[]
  staticTypes := #[]
  resolved := Array.replicate 12 none
  statics := none }

def pool5 : Array CpInfo := pool [(1, .class_ 2), (0, u "java/io/Serializable"), (0, .class_ 4), (0, u "java/lang/Object")] 2

/-- java/io/Serializable -/
def k5 : Class := { plain "java/io/Serializable" (some 0) with
  accessFlags := 1537
  interfaces := #[]
  cf := some (fileOf pool5 1 #[] #[] 1537 3 #[] #[])
  fields := #[]
  methods := #[]
  instanceTypes := #[]
  staticTypes := #[]
  resolved := Array.replicate 7 none
  statics := none }

def pool6 : Array CpInfo := pool [(2, .class_ 4), (1, u "java/lang/Enum"), (0, u "name"), (0, u "Ljava/lang/String;"), (2, u "ordinal"), (0, u "I"), (1, .class_ 14), (1, u "java/lang/Object"), (4, u "hash"), (86, .class_ 108), (1, u "java/lang/Enum$EnumDesc"), (2, .class_ 112), (0, u "java/lang/constant/Constable"), (0, .class_ 114), (0, u "java/lang/Comparable"), (0, .class_ 116), (0, u "java/io/Serializable")] 87

/-- java/lang/Enum -/
def k6 : Class := { plain "java/lang/Enum" (some 0) with
  accessFlags := 1057
  interfaces := #[3, 4, 5]
  cf := some (fileOf pool6 2 #[.nestMembers #[106]] #[] 1057 12 #[111, 113, 115] #[{ accessFlags := 18, nameIndex := 5, descriptorIndex := 6, attributes := #[] }, { accessFlags := 18, nameIndex := 9, descriptorIndex := 10, attributes := #[] }, { accessFlags := 2, nameIndex := 19, descriptorIndex := 10, attributes := #[] }])
  fields := #[{ name := "name", type := (.object "java/lang/String"), accessFlags := 18, slot := 0, constantValue := 0 }, { name := "ordinal", type := .int, accessFlags := 18, slot := 1, constantValue := 0 }, { name := "hash", type := .int, accessFlags := 2, slot := 2, constantValue := 0 }]
  methods := #[]
  instanceTypes := #[(.object "java/lang/String"), .int, .int]
  staticTypes := #[]
  resolved := Array.replicate 204 none
  statics := none }

def pool7 : Array CpInfo := pool [(1, .class_ 2), (0, u "com/example/warmjoin/warmjoin/PageReadings$Way"), (2, u "ROWS"), (0, u "Lcom/example/warmjoin/warmjoin/PageReadings$Way;"), (2, u "KEYS"), (2, u "$VALUES"), (0, u "[Lcom/example/warmjoin/warmjoin/PageReadings$Way;"), (6, .class_ 22), (1, u "java/lang/Enum"), (25, .class_ 49), (0, u "com/example/warmjoin/warmjoin/PageReadings")] 2

/-- com/example/warmjoin/warmjoin/PageReadings$Way -/
def k7 : Class := { plain "com/example/warmjoin/warmjoin/PageReadings$Way" (some 6) with
  accessFlags := 16432
  interfaces := #[]
  cf := some (fileOf pool7 1 #[.nestHost 48] #[] 16432 20 #[] #[{ accessFlags := 16409, nameIndex := 5, descriptorIndex := 6, attributes := #[] }, { accessFlags := 16409, nameIndex := 9, descriptorIndex := 6, attributes := #[] }, { accessFlags := 4122, nameIndex := 12, descriptorIndex := 13, attributes := #[] }])
  fields := #[{ name := "ROWS", type := (.object "com/example/warmjoin/warmjoin/PageReadings$Way"), accessFlags := 16409, slot := 0, constantValue := 0 }, { name := "KEYS", type := (.object "com/example/warmjoin/warmjoin/PageReadings$Way"), accessFlags := 16409, slot := 1, constantValue := 0 }, { name := "$VALUES", type := (.array (.object "com/example/warmjoin/warmjoin/PageReadings$Way")), accessFlags := 4122, slot := 2, constantValue := 0 }]
  methods := #[]
  instanceTypes := #[(.object "java/lang/String"), .int, .int]
  staticTypes := #[(.object "com/example/warmjoin/warmjoin/PageReadings$Way"), (.object "com/example/warmjoin/warmjoin/PageReadings$Way"), (.array (.object "com/example/warmjoin/warmjoin/PageReadings$Way"))]
  resolved := Array.replicate 52 none
  statics := some 0 }

def pool8 : Array CpInfo := pool [(1, u "java/lang/Cloneable"), (0, .class_ 1), (0, u "java/lang/Object"), (0, .class_ 3)] 3

/-- java/lang/Cloneable -/
def k8 : Class := { plain "java/lang/Cloneable" (some 0) with
  accessFlags := 1537
  interfaces := #[]
  cf := some (fileOf pool8 2 #[] #[] 1537 4 #[] #[])
  fields := #[]
  methods := #[]
  instanceTypes := #[]
  staticTypes := #[]
  resolved := Array.replicate 8 none
  statics := none }

/-- the primitive byte -/
def k9 : Class := { plain "byte" none with kind := .primitive 'B', accessFlags := 0x411 }
/-- [B -/
def k10 : Class := { plain "[B" (some 0) with kind := .array 9 .byte, interfaces := #[8, 5], accessFlags := 1041 }

/-- the primitive int -/
def k11 : Class := { plain "int" none with kind := .primitive 'I', accessFlags := 0x411 }
/-- [I -/
def k12 : Class := { plain "[I" (some 0) with kind := .array 11 .int, interfaces := #[8, 5], accessFlags := 1041 }

def heap : Heap := #[{ cls := 7, slots := #[.ref 2, .ref 1, .null], vm := .statics 7 },
  { cls := 7, slots := #[.null, .int 0, .int 0], vm := .none },
  { cls := 7, slots := #[.null, .int 1, .int 0], vm := .none }]
def classes : Array Class := #[k0, k1, k2, k3, k4, k5, k6, k7, k8, k9, k10, k11, k12]
def interned : List (Array UInt16 × Addr) := []
def slotsUsed : Nat := 9
def theMethod : MethodId := ⟨1, 1⟩
def args0 : Array Value := #[.long 5, .long 5, .int 1, .int 1, .int 1, .int 1]
def aboutOver (below : List Frame) : State where
  vm := { classes := classes, interned := interned.toArray }
  heap := heap
  slotsUsed := slotsUsed
  threads := #[{ frames := .invoking theMethod args0 :: below }]
def below0 : List Frame := [.native { method := ⟨0, 0⟩, args := #[] }]
def about1 : State := aboutOver below0
def p0 : Program := .bare "" "" ""
def e0 : Env := launch0.env 0 0 0
theorem w_frames : about1.frames = Frame.invoking theMethod args0 :: below0 := rfl
set_option maxRecDepth 65536 in
theorem w_args : argsFit about1.vm theMethod args0 = true := by decide +kernel
set_option maxRecDepth 65536 in
theorem w_heap : heapFits about1 = true := by decide +kernel
set_option maxRecDepth 65536 in
theorem w_runnable : about1.curStatus? = some .runnable := by decide +kernel
set_option maxRecDepth 65536 in
theorem w_alone : about1.alone = true := by decide +kernel
set_option maxRecDepth 65536 in
theorem w_named : about1.methodNamed? x = some theMethod := by decide +kernel
set_option maxRecDepth 65536 in
theorem w_hears : about1.hears theMethod below0 = true := by decide +kernel
set_option maxRecDepth 65536 in
theorem w_ripe : about1.ripe theMethod args0 below0 = true := by decide +kernel
theorem w_running : about1.status = .running := rfl
set_option maxRecDepth 65536 in
theorem w_room : about1.hasRoom e0.platform room_1 = true :=
  launch0.hasRoom_least _ room_1 (by decide +kernel) (by decide +kernel) (by decide +kernel) (by decide +kernel) (by decide +kernel) (by decide +kernel)
theorem allAtoms_all (ts : List Jvm.Cond) (a : Array Jvm.Value) (st : Jvm.State) : (allAtoms ts).before a st = ts.all (fun c => c.before a st) := by
  induction ts with
  | nil => rfl
  | cons c t ih =>
    show (Jvm.Cond.and c (allAtoms t)).before a st = _
    rw [Jvm.Cond.before_and, ih, List.all_cons]
def words1 : List Jvm.Cond := Jvm.Cond.code x code maxLocals ret :: tables_1
/-- a 'code' word, met by the world's own term for the bytes: nothing is compared byte by byte -/
theorem code_word {y : MethodName} {bytes : ByteArray} {mx : Nat} {rt : Option FieldType} {a : Array Value} {s : State} {m : MethodId} {meth : Method} {c : Code} (h1 : s.methodNamed? y = some m) (h2 : s.vm.method? m = some meth) (h3 : meth.code = some c) (h4 : c.code = bytes)
    (h5 : (c.maxLocals == mx && c.exceptionTable.isEmpty && decide (c.maxStack ≤ mostOperands) && decide (meth.sig.returnType = rt) && !meth.locks && decide (parseMethodDescriptor y.desc = some meth.sig)) = true) : (Jvm.Cond.code y bytes mx rt).before a s = true := by
  simp only [Bool.and_eq_true, beq_iff_eq, Bool.not_eq_true', decide_eq_true_eq] at h5
  obtain ⟨⟨⟨⟨⟨g1, g2⟩, g3⟩, g4⟩, g5⟩, g6⟩ := h5
  simp [Cond.before, Cond.holds, Cond.value, h1, h2, h3, h4, g1, g2, g3, g4, g5, g6]
def isCode : Jvm.Cond → Bool
  | .code _ _ _ _ => true
  | _ => false
theorem all_split {L : List Jvm.Cond} {P : Jvm.Cond → Bool} (h1 : L.all (fun c => isCode c || P c) = true) (h2 : ∀ c ∈ L.filter isCode, P c = true) : L.all P = true := by
  refine List.all_eq_true.mpr fun c hc => ?_
  have h := List.all_eq_true.mp h1 c hc
  rcases Bool.eq_false_or_eq_true (isCode c) with hi | hi
  · exact h2 c (List.mem_filter.mpr ⟨hc, hi⟩)
  · simpa [hi] using h
set_option maxRecDepth 65536 in
theorem w_c0 : (Jvm.Cond.code x code maxLocals ret).before args0 about1 = true := code_word (m := ⟨1, 1⟩) (meth := k1m1) (c := k1c1) (by decide +kernel) rfl rfl rfl (by decide +kernel)
set_option maxRecDepth 65536 in
theorem w_c1 : (Jvm.Cond.code ({ cls := "com/example/warmjoin/warmjoin/PageReadings", name := "<init>", desc := "(ILcom/example/warmjoin/warmjoin/PageReadings$Way;)V" } : Jvm.MethodName) prog_102_method_1_code (3 : Nat) (Option.none : Option Jvm.ClassFile.FieldType)).before args0 about1 = true := code_word (m := ⟨2, 0⟩) (meth := k2m0) (c := k2c0) (by decide +kernel) rfl rfl rfl (by decide +kernel)
set_option maxRecDepth 65536 in
theorem w_c2 : (Jvm.Cond.code ({ cls := "java/lang/Object", name := "<init>", desc := "()V" } : Jvm.MethodName) object_method_1_code (1 : Nat) (Option.none : Option Jvm.ClassFile.FieldType)).before args0 about1 = true := code_word (m := ⟨0, 0⟩) (meth := k0m0) (c := k0c0) (by decide +kernel) rfl rfl rfl (by decide +kernel)
set_option maxRecDepth 65536 in
theorem w_c3 : (Jvm.Cond.code ({ cls := "com/example/warmjoin/warmjoin/PageReadings", name := "took", desc := "(I)V" } : Jvm.MethodName) prog_102_method_3_code (2 : Nat) (Option.none : Option Jvm.ClassFile.FieldType)).before args0 about1 = true := code_word (m := ⟨2, 2⟩) (meth := k2m2) (c := k2c2) (by decide +kernel) rfl rfl rfl (by decide +kernel)
set_option maxRecDepth 65536 in
theorem w_c4 : (Jvm.Cond.code ({ cls := "com/example/warmjoin/warmjoin/PageReadings", name := "read", desc := "(II)V" } : Jvm.MethodName) prog_102_method_4_code (3 : Nat) (Option.none : Option Jvm.ClassFile.FieldType)).before args0 about1 = true := code_word (m := ⟨2, 3⟩) (meth := k2m3) (c := k2c3) (by decide +kernel) rfl rfl rfl (by decide +kernel)
set_option maxRecDepth 65536 in
theorem w_c5 : (Jvm.Cond.code ({ cls := "com/example/warmjoin/warmjoin/PageReadings", name := "next", desc := "()Lcom/example/warmjoin/warmjoin/PageReadings$Way;" } : Jvm.MethodName) prog_102_method_2_code (5 : Nat) (Option.some (Jvm.ClassFile.FieldType.object "com/example/warmjoin/warmjoin/PageReadings$Way"))).before args0 about1 = true := code_word (m := ⟨2, 1⟩) (meth := k2m1) (c := k2c1) (by decide +kernel) rfl rfl rfl (by decide +kernel)
def codes1 : List Jvm.Cond := [Jvm.Cond.code x code maxLocals ret, Jvm.Cond.code ({ cls := "com/example/warmjoin/warmjoin/PageReadings", name := "<init>", desc := "(ILcom/example/warmjoin/warmjoin/PageReadings$Way;)V" } : Jvm.MethodName) prog_102_method_1_code (3 : Nat) (Option.none : Option Jvm.ClassFile.FieldType), Jvm.Cond.code ({ cls := "java/lang/Object", name := "<init>", desc := "()V" } : Jvm.MethodName) object_method_1_code (1 : Nat) (Option.none : Option Jvm.ClassFile.FieldType), Jvm.Cond.code ({ cls := "com/example/warmjoin/warmjoin/PageReadings", name := "took", desc := "(I)V" } : Jvm.MethodName) prog_102_method_3_code (2 : Nat) (Option.none : Option Jvm.ClassFile.FieldType), Jvm.Cond.code ({ cls := "com/example/warmjoin/warmjoin/PageReadings", name := "read", desc := "(II)V" } : Jvm.MethodName) prog_102_method_4_code (3 : Nat) (Option.none : Option Jvm.ClassFile.FieldType), Jvm.Cond.code ({ cls := "com/example/warmjoin/warmjoin/PageReadings", name := "next", desc := "()Lcom/example/warmjoin/warmjoin/PageReadings$Way;" } : Jvm.MethodName) prog_102_method_2_code (5 : Nat) (Option.some (Jvm.ClassFile.FieldType.object "com/example/warmjoin/warmjoin/PageReadings$Way"))]
set_option maxRecDepth 65536 in
theorem codes_eq : words1.filter isCode = codes1 := rfl
theorem w_codes : ∀ c ∈ words1.filter isCode, c.before args0 about1 = true := by
  rw [codes_eq]
  intro c hc
  simp only [codes1, List.mem_cons, List.not_mem_nil, or_false] at hc
  rcases hc with rfl | rfl | rfl | rfl | rfl | rfl
  · exact w_c0
  · exact w_c1
  · exact w_c2
  · exact w_c3
  · exact w_c4
  · exact w_c5
set_option maxRecDepth 65536 in
theorem w_t1 : (words1.take 24).all (fun c => isCode c || c.before args0 about1) = true := by decide +kernel
set_option maxRecDepth 65536 in
theorem w_t2 : ((words1.drop 24).take 24).all (fun c => isCode c || c.before args0 about1) = true := by decide +kernel
set_option maxRecDepth 65536 in
theorem w_t3 : ((words1.drop 24).drop 24).all (fun c => isCode c || c.before args0 about1) = true := by decide +kernel
theorem w_tables : (allAtoms (Jvm.Cond.code x code maxLocals ret :: tables_1)).before args0 about1 = true := by
  rw [allAtoms_all]
  show words1.all (fun c => c.before args0 about1) = true
  refine all_split ?_ w_codes
  rw [← List.take_append_drop 24 words1, List.all_append, w_t1, ← List.take_append_drop 24 (words1.drop 24), List.all_append, w_t2, w_t3]
  rfl
set_option maxRecDepth 65536 in
theorem w_case : (Jvm.Cond.and given_1 narrow_1).before args0 about1 = true := by decide +kernel
theorem w_applies : (headSpec (Jvm.Cond.code x code maxLocals ret :: tables_1) room_1).applies x e0.platform about1 = true :=
  (Spec.applies_iff w_frames).mpr ⟨w_running, w_runnable, w_alone, w_named, w_hears, w_ripe, w_room, w_tables⟩
theorem atStart : AtStart classFile x code maxLocals ret World_1 tables_1 room_1 Calls_1 rest_1 Pre_1 launch0 p0 e0 about1 theMethod args0 below0 :=
  ⟨lists_1, trivial, launch0.admits_env _ _ _, launch0.least_env, fairChoices_fair.cas, fairChoices_fair.clock, w_frames, w_args, w_heap, w_applies, trivial, trivial, w_case⟩
end start1
theorem witness_1 : WitnessClaimed_1 := ⟨start1.p0, start1.e0, start1.about1, start1.theMethod, start1.args0, start1.below0, start1.atStart⟩
end Jvm.Pilot.@@N@@
