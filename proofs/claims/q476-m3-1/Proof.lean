import JvmDerived
import JvmDerived.Pilot.@@N@@Statement
import JvmDerived.Pilot.@@N@@Code
set_option linter.unusedVariables false
set_option linter.unusedSimpArgs false
namespace Jvm.Pilot.@@N@@
open Jvm Jvm.ClassFile Sem Op Lib Jvm.Free Jvm.Stand Jvm.LawKit Jvm.RoadKit Bundle Jvm.Pilot.@@N@@.Jvm.D
/-! own kit: a walk as a chain of "from here the run ends well" -/
section OwnKit
/-- from T with the frame g on top the run goes on and ends as Q says -/
def Own (p : Program) (e : Env) (below : List Frame) (s : State) (kc ks : Nat) (Q : Option Value → Heap → List Loc → Prop) (T : State) (g : JFrame) : Prop :=
  ∃ s₂ o, Steps p.tables e below (T.setTop g) s₂ ∧ s₂.status = .running ∧ Ended s₂ below o ∧ ∃ v L, o = .returned v ∧ Q v s₂.heap L ∧ FrameEnd s o s₂ L kc ks
variable {p : Program} {l : Launch} {e : Env} {R : Room} {s : State} {m : MethodId} {args : Array Value} {below : List Frame} {meth : Method} {c : Code} {T T' : State} {locs : List Loc} {cells slots kc ks : Nat} {Q : Option Value → Heap → List Loc → Prop}
theorem own_go {g g' : JFrame} (h : ∀ t, Steps p.tables e below (T'.setTop g') t → Steps p.tables e below (T.setTop g) t) (k : Own p e below s kc ks Q T' g') : Own p e below s kc ks Q T g := by
  obtain ⟨s₂, o, h1, r⟩ := k
  exact ⟨s₂, o, h _ h1, r⟩
theorem own_to (T' : State) (g' : JFrame) {g : JFrame} (h : ∀ t, Steps p.tables e below (T'.setTop g') t → Steps p.tables e below (T.setTop g) t) (k : Own p e below s kc ks Q T' g') : Own p e below s kc ks Q T g := own_go h k
theorem own_ret (X : Stand p l e R s m args below meth c T locs cells slots) (hx : p.tables.exec = Jvm.exec) {pc : Nat} {Ls : Array Slot} {w : Value} {t : FieldType} {i : Instr} {rest : List Value} (hret : meth.sig.returnType = some t) (hlk : meth.locks = false) (hn : narrow t w = w)
    (hi : (i = .ireturn ∧ (t = .int ∨ t = .boolean ∨ t = .byte ∨ t = .char ∨ t = .short) ∧ ∃ z, w = .int z) ∨ (i = .lreturn ∧ t = .long ∧ ∃ z, w = .long z) ∨ (i = .dreturn ∧ t = .double ∧ ∃ z, w = .double z) ∨ (i = .freturn ∧ t = .float ∧ ∃ z, w = .float z) ∨ (i = .areturn ∧ t.isReference = true ∧ w.isRef = true))
    (hd : decode c.code pc = .ok (i, 1)) (hc : cells ≤ kc) (hs : slots ≤ ks) (q : Q (some w) T.heap locs) : Own p e below s kc ks Q T (mkF m pc Ls (w :: rest)) := by
  obtain ⟨fs, hr, hrun, hended, hW, hsame⟩ := X.leave (v := some w) (fun h => by rw [hret] at h; cases h) hlk
  exact ⟨_, _, retOut X hx hret hn hi hd hr, hrun, hended, _, locs, rfl, q, ⟨_, rfl⟩, hW, hsame.mono hc hs⟩
theorem own_retI (X : Stand p l e R s m args below meth c T locs cells slots) (hx : p.tables.exec = Jvm.exec) {pc : Nat} {Ls : Array Slot} {z : Int32} {rest : List Value} (hret : meth.sig.returnType = some .int) (hlk : meth.locks = false)
    (hd : decode c.code pc = .ok (.ireturn, 1)) (hc : cells ≤ kc) (hs : slots ≤ ks) (q : Q (some (.int z)) T.heap locs) : Own p e below s kc ks Q T (mkF m pc Ls (.int z :: rest)) :=
  own_ret X hx hret hlk rfl (Or.inl ⟨rfl, Or.inl rfl, _, rfl⟩) hd hc hs q
theorem own_retZ (X : Stand p l e R s m args below meth c T locs cells slots) (hx : p.tables.exec = Jvm.exec) {pc : Nat} {Ls : Array Slot} {z : Int32} {rest : List Value} (hret : meth.sig.returnType = some .boolean) (hlk : meth.locks = false)
    (hd : decode c.code pc = .ok (.ireturn, 1)) (hc : cells ≤ kc) (hs : slots ≤ ks) (hz : z = 0 ∨ z = 1) (q : Q (some (.int z)) T.heap locs) : Own p e below s kc ks Q T (mkF m pc Ls (.int z :: rest)) :=
  own_ret X hx hret hlk (by rcases hz with rfl | rfl <;> rfl) (Or.inl ⟨rfl, Or.inr (Or.inl rfl), _, rfl⟩) hd hc hs q
theorem own_retC (X : Stand p l e R s m args below meth c T locs cells slots) (hx : p.tables.exec = Jvm.exec) {pc : Nat} {Ls : Array Slot} {z : Int32} {rest : List Value} (hret : meth.sig.returnType = some .char) (hlk : meth.locks = false)
    (hd : decode c.code pc = .ok (.ireturn, 1)) (hc : cells ≤ kc) (hs : slots ≤ ks) (hz : z.toUInt32.toUInt16.toUInt32.toInt32 = z) (q : Q (some (.int z)) T.heap locs) : Own p e below s kc ks Q T (mkF m pc Ls (.int z :: rest)) :=
  own_ret X hx hret hlk (congrArg Value.int hz) (Or.inl ⟨rfl, Or.inr (Or.inr (Or.inr (Or.inl rfl))), _, rfl⟩) hd hc hs q
theorem own_retJ (X : Stand p l e R s m args below meth c T locs cells slots) (hx : p.tables.exec = Jvm.exec) {pc : Nat} {Ls : Array Slot} {z : Int64} {rest : List Value} (hret : meth.sig.returnType = some .long) (hlk : meth.locks = false)
    (hd : decode c.code pc = .ok (.lreturn, 1)) (hc : cells ≤ kc) (hs : slots ≤ ks) (q : Q (some (.long z)) T.heap locs) : Own p e below s kc ks Q T (mkF m pc Ls (.long z :: rest)) :=
  own_ret X hx hret hlk rfl (Or.inr (Or.inl ⟨rfl, rfl, _, rfl⟩)) hd hc hs q
theorem own_retD (X : Stand p l e R s m args below meth c T locs cells slots) (hx : p.tables.exec = Jvm.exec) {pc : Nat} {Ls : Array Slot} {z : UInt64} {rest : List Value} (hret : meth.sig.returnType = some .double) (hlk : meth.locks = false)
    (hd : decode c.code pc = .ok (.dreturn, 1)) (hc : cells ≤ kc) (hs : slots ≤ ks) (q : Q (some (.double z)) T.heap locs) : Own p e below s kc ks Q T (mkF m pc Ls (.double z :: rest)) :=
  own_ret X hx hret hlk rfl (Or.inr (Or.inr (Or.inl ⟨rfl, rfl, _, rfl⟩))) hd hc hs q
theorem own_retA (X : Stand p l e R s m args below meth c T locs cells slots) (hx : p.tables.exec = Jvm.exec) {pc : Nat} {Ls : Array Slot} {w : Value} {t : FieldType} {rest : List Value} (hret : meth.sig.returnType = some t) (hlk : meth.locks = false)
    (ht : t.isReference = true) (hw : w.isRef = true) (hd : decode c.code pc = .ok (.areturn, 1)) (hc : cells ≤ kc) (hs : slots ≤ ks) (q : Q (some w) T.heap locs) : Own p e below s kc ks Q T (mkF m pc Ls (w :: rest)) :=
  own_ret X hx hret hlk (by cases t <;> cases w <;> first | rfl | (cases ht; done) | (cases hw; done)) (Or.inr (Or.inr (Or.inr (Or.inr ⟨rfl, ht, hw⟩)))) hd hc hs q
theorem own_retV (X : Stand p l e R s m args below meth c T locs cells slots) (hx : p.tables.exec = Jvm.exec) {pc : Nat} {Ls : Array Slot} (hret : meth.sig.returnType = none) (hlk : meth.locks = false)
    (hd : decode c.code pc = .ok (.return_, 1)) (hc : cells ≤ kc) (hs : slots ≤ ks) (q : Q none T.heap locs) : Own p e below s kc ks Q T (mkF m pc Ls []) := by
  obtain ⟨fs, hr, hrun, hended, hW, hsame⟩ := X.leave (v := none) (fun _ => rfl) hlk
  exact ⟨_, _, X.returnOut hx hret hd hr, hrun, hended, _, locs, rfl, q, ⟨_, rfl⟩, hW, hsame.mono hc hs⟩
/-- a body's contract out of its walk -/
theorem own_met {Z : State} {h0 : Heap} {y : MethodName} {bytes : ByteArray} {ml : Nat} {ret : Option FieldType} {ws : List Jvm.Cond} {rm : Room} {as' : Array Value} (hp : plainFor y = true)
    (body : ∀ (p : Program) (e : Env) (s : State) (m : MethodId) (below : List Frame) (meth : Method) (c : Code) (s₁ : State), Stand p l e rm s m as' below meth c s₁ [] 0 0 → p.tables.exec = Jvm.exec → c.code = bytes → c.maxLocals = ml → meth.sig.returnType = ret → meth.locks = false →
      s.vm.findClass y.cls = some m.cls → meth.name = y.name → Z.Warmed39 s.vm → s₁.heap = h0 → Own p e below s rm.cells rm.slots Q s₁ (entryFrame m as' ml)) :
    MetFree l y (head1 (Jvm.Cond.code y bytes ml ret :: ws) rm) (fun a U => a = as' ∧ Z.Warmed39 U.vm ∧ U.heap = h0) (fun _ _ _ _ _ => True) (fun _ U o U' => ∃ v L, o = .returned v ∧ Q v U'.heap L ∧ FrameEnd U o U' L rm.cells rm.slots) := by
  refine MetFree.of_bodySF hp hisR ?_
  intro p e s m args below meth c s₁ Bd hml0 hP hK
  obtain ⟨rfl, hZ, hh⟩ := hP
  exact body p e s m below meth c s₁ (Stand.of_body Bd) Bd.exec Bd.bytes hml0 Bd.returns Bd.notSynchronized (findClass_of_methodNamed Bd.named) (name_of_methodNamed Bd.named Bd.method).1 hZ (by rw [← hh, Bd.state]; rfl)
theorem own_entry {g g' : JFrame} (q : g = g') (k : Own p e below s kc ks Q T g') : Own p e below s kc ks Q T g := q ▸ k
theorem own_mvMN {Z s : State} {a0 args : Array Value} {own host : String} {index : Nat} {y : MethodName} (hZ : Z.Warmed39 s.vm) (w : (Jvm.Cond.methodLinkNest own index y host).before a0 Z = true) : (Jvm.Cond.methodLinkNest own index y host).before args s = true := (Jvm.Cond.methodLinkNest_wide hZ w :)
theorem own_w {Z : State} {a0 : Array Value} (hw : ∀ d ∈ tables_1, d.before a0 Z = true) (i : Nat) {d : Jvm.Cond} (h : tables_1[i]? = some d) : d.before a0 Z = true := hw _ (List.mem_of_getElem? h)
end OwnKit
def own_h (s : Int64) : Nat := ((((s * (-7046029254386353131 : Int64)).toUInt64 >>> ((32 : Int32) &&& 0x3f).toInt64.toUInt64).toInt64).toInt32 &&& (16383 : Int32)).toNatClampNeg
def own_pos (s : Int64) (k : Nat) : Nat := (own_h s + k) % 16384
def own_upd (f : Nat → Int64) (i : Nat) (x : Int64) : Nat → Int64 := fun j => if j = i then x else f j
def own_stop (f : Nat → Int64) (s : Int64) (k : Nat) : Prop := (∀ j, j < k → f (own_pos s j) ≠ 0 ∧ f (own_pos s j) ≠ s) ∧ (f (own_pos s k) = 0 ∨ f (own_pos s k) = s)
def own_inv (f g : Nat → Int64) (xs : List Int64) : Prop :=
  (∀ i, f i ≠ 0 → f i ∈ xs) ∧ (∀ s ∈ xs, s ≠ 0 ∧ ∃ k, own_stop f s k ∧ f (own_pos s k) = s) ∧ (∀ i, g i ≠ 0 → g i ∈ xs) ∧ ∃ S : List Nat, S.length ≤ xs.length ∧ ∀ i, f i ≠ 0 → i ∈ S
theorem own_inv0 : own_inv (fun _ => 0) (fun _ => 0) [] := ⟨fun _ h => absurd rfl h, by simp, fun _ h => absurd rfl h, [], Nat.le_refl _, fun _ h => absurd rfl h⟩
theorem own_uniq {f : Nat → Int64} {s : Int64} {k k' : Nat} (h : own_stop f s k) (h' : own_stop f s k') : k = k' := by
  rcases Nat.lt_trichotomy k k' with q | q | q
  · have := h'.1 k q; rcases h.2 with e | e
    · exact absurd e this.1
    · exact absurd e this.2
  · exact q
  · have := h.1 k' q; rcases h'.2 with e | e
    · exact absurd e this.1
    · exact absurd e this.2
theorem own_exists {f g : Nat → Int64} {xs : List Int64} (I : own_inv f g xs) (hx : xs.length ≤ 2) (s : Int64) : ∃ k, own_stop f s k := by
  obtain ⟨-, -, -, S, hS, hm⟩ := I
  have hlen : S.length ≤ 2 := by omega
  by_cases h0 : f (own_pos s 0) = 0 ∨ f (own_pos s 0) = s
  · exact ⟨0, fun j hj => absurd hj (Nat.not_lt_zero j), h0⟩
  by_cases h1 : f (own_pos s 1) = 0 ∨ f (own_pos s 1) = s
  · refine ⟨1, fun j hj => ?_, h1⟩
    obtain rfl : j = 0 := by omega
    exact ⟨fun q => h0 (Or.inl q), fun q => h0 (Or.inr q)⟩
  refine ⟨2, fun j hj => ?_, Or.inl ?_⟩
  · have : j = 0 ∨ j = 1 := by omega
    rcases this with rfl | rfl
    · exact ⟨fun q => h0 (Or.inl q), fun q => h0 (Or.inr q)⟩
    · exact ⟨fun q => h1 (Or.inl q), fun q => h1 (Or.inr q)⟩
  · refine Classical.byContradiction fun h2 => ?_
    have m0 := hm _ (fun q => h0 (Or.inl q))
    have m1 := hm _ (fun q => h1 (Or.inl q))
    have m2 := hm _ h2
    have d01 : own_pos s 0 ≠ own_pos s 1 := by unfold own_pos; omega
    have d02 : own_pos s 0 ≠ own_pos s 2 := by unfold own_pos; omega
    have d12 : own_pos s 1 ≠ own_pos s 2 := by unfold own_pos; omega
    match S, hlen with
    | [], _ => cases m0
    | [x], _ => simp only [List.mem_singleton] at m0 m1; exact d01 (m0.trans m1.symm)
    | [x, y], _ =>
      simp only [List.mem_cons, List.not_mem_nil, or_false] at m0 m1 m2
      rcases m0 with e0 | e0 <;> rcases m1 with e1 | e1 <;> rcases m2 with e2 | e2 <;> first | exact d01 (e0.trans e1.symm) | exact d02 (e0.trans e2.symm) | exact d12 (e1.trans e2.symm)
    | _ :: _ :: _ :: _, h => simp at h
theorem own_has {f g : Nat → Int64} {xs : List Int64} (I : own_inv f g xs) {s : Int64} {k : Nat} (hk : own_stop f s k) (hs : s ≠ 0) (i : Nat) : (g i = s ∨ f (own_pos s k) = s) ↔ s ∈ xs := by
  obtain ⟨i1, i2, i3, -⟩ := I
  constructor
  · rintro (h | h)
    · exact h ▸ i3 i (h ▸ hs)
    · have := i1 (own_pos s k) (by rw [h]; exact hs); rwa [h] at this
  · intro h
    obtain ⟨-, k', h1, h2⟩ := i2 s h
    rw [own_uniq hk h1]; exact Or.inr h2
theorem own_add {f g : Nat → Int64} {xs : List Int64} (I : own_inv f g xs) {s : Int64} {k : Nat} (hk : own_stop f s k) (hs : s ≠ 0) (i : Nat) : own_inv (own_upd f (own_pos s k) s) (own_upd g i s) (s :: xs) := by
  obtain ⟨i1, i2, i3, S, hS, hm⟩ := I
  refine ⟨fun j hj => ?_, fun u hu => ?_, fun j hj => ?_, own_pos s k :: S, by simp only [List.length_cons]; omega, fun j hj => ?_⟩
  · unfold own_upd at *; split
    · exact List.mem_cons_self
    · rename_i q; rw [if_neg q] at hj; exact List.mem_cons_of_mem _ (i1 j hj)
  · by_cases hus : u = s
    · subst hus
      refine ⟨hs, k, ⟨fun j hj => ?_, Or.inr (if_pos rfl)⟩, if_pos rfl⟩
      have hp := hk.1 j hj
      have hne : own_pos u j ≠ own_pos u k := fun q => by
        rw [q] at hp; rcases hk.2 with e | e
        · exact hp.1 e
        · exact hp.2 e
      unfold own_upd; rw [if_neg hne]; exact hp
    · have hu' : u ∈ xs := (List.mem_cons.mp hu).resolve_left hus
      obtain ⟨u0, k', ⟨h1, h2⟩, h3⟩ := i2 u hu'
      have key : ∀ j, f (own_pos u j) ≠ 0 → own_upd f (own_pos s k) s (own_pos u j) = f (own_pos u j) := fun j hj => by
        unfold own_upd; split
        · rename_i q
          rcases hk.2 with e | e
          · rw [q] at hj; exact absurd e hj
          · rw [q, e]
        · rfl
      refine ⟨u0, k', ⟨fun j hj => ?_, Or.inr ?_⟩, ?_⟩
      · rw [key j (h1 j hj).1]; exact h1 j hj
      · rw [key k' (by rw [h3]; exact u0)]; exact h3
      · rw [key k' (by rw [h3]; exact u0)]; exact h3
  · unfold own_upd at *; split
    · exact List.mem_cons_self
    · rename_i q; rw [if_neg q] at hj; exact List.mem_cons_of_mem _ (i3 j hj)
  · unfold own_upd at hj
    by_cases q : j = own_pos s k
    · rw [q]; exact List.mem_cons_self
    · rw [if_neg q] at hj; exact List.mem_cons_of_mem _ (hm j hj)
def own_con (f g : Nat → Int64) (i : Nat) (q : Int64) (k : Nat) : Int32 := if q < (0 : Int64) then 0 else if g i = (q + (1 : Int64)) then 1 else if f (own_pos (q + (1 : Int64)) k) = (q + (1 : Int64)) then 1 else 0
def own_mem (q : Int64) (xs : List Int64) : Int32 := if q < (0 : Int64) then 0 else if (q + (1 : Int64)) ∈ xs then 1 else 0
theorem own_p1 {q : Int64} (h : ¬ q < (0 : Int64)) : q + (1 : Int64) ≠ 0 := fun e => by
  have e2 : q = -1 := by
    have : q + 1 - 1 = 0 - 1 := by rw [e]
    simpa using this
  rw [e2] at h; exact h (by decide)
theorem own_inj {a b : Int64} (h : a + (1 : Int64) = b + (1 : Int64)) : a = b := by
  have : a + 1 - 1 = b + 1 - 1 := by rw [h]
  simpa using this
theorem own_con_mem {f g : Nat → Int64} {xs : List Int64} (I : own_inv f g xs) {q : Int64} {k : Nat} (hk : own_stop f (q + (1 : Int64)) k) (i : Nat) : own_con f g i q k = own_mem q xs := by
  unfold own_con own_mem
  by_cases h : q < (0 : Int64)
  · rw [if_pos h, if_pos h]
  · rw [if_neg h, if_neg h]
    have := own_has I hk (own_p1 h) i
    by_cases h1 : g i = q + (1 : Int64)
    · rw [if_pos h1, if_pos (this.mp (Or.inl h1))]
    · rw [if_neg h1]
      by_cases h2 : f (own_pos (q + (1 : Int64)) k) = q + (1 : Int64)
      · rw [if_pos h2, if_pos (this.mp (Or.inr h2))]
      · rw [if_neg h2, if_neg (fun z => (this.mpr z).elim h1 h2)]
def own_exp (v a b : Int64) (n : Int32) : Int32 := if v < (0 : Int64) then 0 else if ¬ n < (1 : Int32) ∧ v = a then 1 else if ¬ n < (2 : Int32) ∧ v = b then 1 else 0
theorem own_e0 (v a b : Int64) : own_mem v [] = own_exp v a b (0 : Int32) := by
  unfold own_mem own_exp
  have z1 : ((0 : Int32) < (1 : Int32)) = True := by decide
  have z2 : ((0 : Int32) < (2 : Int32)) = True := by decide
  simp [z1, z2]
theorem own_e1 (v a b : Int64) : own_mem v [a + (1 : Int64)] = own_exp v a b (1 : Int32) := by
  unfold own_mem own_exp
  have z1 : ((1 : Int32) < (1 : Int32)) = False := by decide
  have z2 : ((1 : Int32) < (2 : Int32)) = True := by decide
  have e : (v + (1 : Int64) ∈ [a + (1 : Int64)]) = (v = a) := by
    simp only [List.mem_singleton]; exact propext ⟨own_inj, fun q => by rw [q]⟩
  simp only [e, z1, z2]; simp
theorem own_e2 (v a b : Int64) : own_mem v [b + (1 : Int64), a + (1 : Int64)] = own_exp v a b (2 : Int32) := by
  unfold own_mem own_exp
  have z1 : ((2 : Int32) < (1 : Int32)) = False := by decide
  have z2 : ((2 : Int32) < (2 : Int32)) = False := by decide
  have e : (v + (1 : Int64) ∈ [b + (1 : Int64), a + (1 : Int64)]) = (v = b ∨ v = a) := by
    simp only [List.mem_cons, List.not_mem_nil, or_false]
    exact propext ⟨fun q => q.imp own_inj own_inj, fun q => q.imp (fun z => by rw [z]) (fun z => by rw [z])⟩
  simp only [e, z1, z2]
  by_cases h : v < (0 : Int64)
  · simp [h]
  · by_cases h1 : v = a
    · simp [h, h1]
    · by_cases h2 : v = b
      · simp [h, h2]
      · simp [h, h1, h2]
theorem own_h_eq (s : Int64) : ((((s * (-7046029254386353131 : Int64)).toUInt64 >>> ((32 : Int32) &&& 0x3f).toInt64.toUInt64).toInt64).toInt32 &&& (16383 : Int32)) = Int32.ofNat (own_h s) := by
  unfold own_h
  generalize (((s * (-7046029254386353131 : Int64)).toUInt64 >>> ((32 : Int32) &&& 0x3f).toInt64.toUInt64).toInt64).toInt32 = x
  have b := c_and x (16383 : Int32) (by decide)
  have z : (16383 : Int32).toInt = 16383 := by decide
  generalize x &&& (16383 : Int32) = y at *
  have hn : ¬ y < 0 := by rw [Int32.lt_iff_toInt_lt]; have z0 : (0 : Int32).toInt = 0 := by decide
                          omega
  exact (back32 hn).1.symm
theorem own_h_lt (s : Int64) : own_h s < 16384 := by
  unfold own_h
  generalize (((s * (-7046029254386353131 : Int64)).toUInt64 >>> ((32 : Int32) &&& 0x3f).toInt64.toUInt64).toInt64).toInt32 = x
  have b := c_and x (16383 : Int32) (by decide)
  have z : (16383 : Int32).toInt = 16383 := by decide
  generalize x &&& (16383 : Int32) = y at *
  have hn : ¬ y < 0 := by rw [Int32.lt_iff_toInt_lt]; have z0 : (0 : Int32).toInt = 0 := by decide
                          omega
  have := nat_of hn
  omega
theorem own_next {u : Nat} (hu : u < 16384) : ((Int32.ofNat u + (1 : Int32)) &&& (16383 : Int32)) = Int32.ofNat ((u + 1) % 16384) := by
  rw [← Int32.toInt_inj, c_mask _ (16383 : Int32) 14 (by decide) (by decide), toInt_of (n := Int32.ofNat ((u + 1) % 16384)) rfl (by omega)]
  have q := c_iadd (Int32.ofNat u) 1
  have z : (1 : Int32).toInt = 1 := by decide
  rw [toInt_of (n := Int32.ofNat u) rfl (by omega), z] at q
  have r := rng32 (Int32.ofNat u + 1)
  omega
theorem own_ix (x : Int32) : ¬ ((x &&& (1023 : Int32)) < 0 ∨ 1024 ≤ (x &&& (1023 : Int32)).toNatClampNeg) := by
  have b := c_and x (1023 : Int32) (by decide)
  have z : (1023 : Int32).toInt = 1023 := by decide
  generalize x &&& (1023 : Int32) = y at *
  have hn : ¬ y < 0 := by rw [Int32.lt_iff_toInt_lt]; have z0 : (0 : Int32).toInt = 0 := by decide
                          omega
  have := nat_of hn
  intro q
  rcases q with q | q
  · exact hn q
  · omega
/-- an array of longs by its places -/
def LArr (Z : State) (h : Heap) (a : Addr) (n : Nat) (f : Nat → Int64) : Prop := ∃ c : Cell, Arr Z h a c .long ∧ c.slots.size = n ∧ ∀ i, i < n → c.slots[i]? = some (.long (f i))
theorem LArr.lt {Z : State} {h : Heap} {a : Addr} {n : Nat} {f : Nat → Int64} (F : LArr Z h a n f) : a < h.size := by obtain ⟨c, A, -⟩ := F; exact A.lt
theorem LArr.ext {Z : State} {h h' : Heap} {a : Addr} {n : Nat} {f : Nat → Int64} (F : LArr Z h a n f) (E : Ext h h') : LArr Z h' a n f := by obtain ⟨c, A, r⟩ := F; exact ⟨c, A.ext E, r⟩
theorem LArr.other {Z : State} {h h' : Heap} {a b : Addr} {n sl : Nat} {v : Value} {f : Nat → Int64} (F : LArr Z h b n f) (W : Wr h h' a sl v) (q : b ≠ a) : LArr Z h' b n f := by obtain ⟨c, A, r⟩ := F; exact ⟨c, A.other W q, r⟩
theorem LArr.keep {Z : State} {h h' : Heap} {a : Addr} {n : Nat} {f : Nat → Int64} {ws : List Addr} (F : LArr Z h a n f) (K : Keep h h' ws) (q : a ∉ ws) : LArr Z h' a n f := by obtain ⟨c, A, r⟩ := F; exact ⟨c, ⟨K.2.1 a c A.1 q, A.2⟩, r⟩
theorem LArr.new {Z : State} {h : Heap} {a : Addr} {k : ClassId} {z : Int32} {n : Nat} (A : Arr Z h a (newA k .long z) .long) (hz : z.toNatClampNeg = n) : LArr Z h a n (fun _ => 0) := by
  refine ⟨_, A, (sz_new _ _ _).trans hz, fun i hi => ?_⟩
  subst hz
  simp only [newA, Array.getElem?_replicate, if_pos hi]
  rfl
theorem LArr.set {Z : State} {h h' : Heap} {a : Addr} {c : Cell} {n : Nat} {f : Nat → Int64} {j : Int32} {x : Int64} (A : Arr Z h a c .long) (hs : c.slots.size = n) (hat : ∀ i, i < n → c.slots[i]? = some (.long (f i))) (W : Wr h h' a j.toNatClampNeg (.long x)) {i : Nat} (hj : j.toNatClampNeg = i) : LArr Z h' a n (own_upd f i x) := by
  subst hj
  refine ⟨_, A.same W, (sz_set _ _ _).trans hs, fun i hi => ?_⟩
  simp only [Cell.setSlot, Array.getElem?_setIfInBounds, own_upd]
  by_cases q : j.toNatClampNeg = i
  · subst q
    rw [if_pos rfl, if_pos (by rw [hs]; exact hi), if_pos rfl]
  · rw [if_neg q, if_neg (fun z => q z.symm)]
    exact hat i hi
theorem LArr.eq {Z : State} {h : Heap} {a : Addr} {n : Nat} {f g : Nat → Int64} (F : LArr Z h a n f) (q : f = g) : LArr Z h a n g := q ▸ F
theorem own_updId {f : Nat → Int64} {i : Nat} {x : Int64} (h : f i = x) : f = own_upd f i x := by
  funext j; unfold own_upd; split
  · rename_i q; rw [q, h]
  · rfl
theorem d4_0 : decode prog_27_method_4_code 0 = .ok (.aload_n 0, 1) := by decide +kernel
theorem d4_1 : decode prog_27_method_4_code 1 = .ok (.arraylength, 1) := by decide +kernel
theorem d4_2 : decode prog_27_method_4_code 2 = .ok (.iconst 1, 1) := by decide +kernel
theorem d4_3 : decode prog_27_method_4_code 3 = .ok (.isub, 1) := by decide +kernel
theorem d4_4 : decode prog_27_method_4_code 4 = .ok (.istore_n 3, 1) := by decide +kernel
theorem d4_5 : decode prog_27_method_4_code 5 = .ok (.lload_n 1, 1) := by decide +kernel
theorem d4_6 : decode prog_27_method_4_code 6 = .ok (.ldc2_w 36, 3) := by decide +kernel
theorem d4_9 : decode prog_27_method_4_code 9 = .ok (.lmul, 1) := by decide +kernel
theorem d4_10 : decode prog_27_method_4_code 10 = .ok (.bipush 32, 2) := by decide +kernel
theorem d4_12 : decode prog_27_method_4_code 12 = .ok (.lushr, 1) := by decide +kernel
theorem d4_13 : decode prog_27_method_4_code 13 = .ok (.l2i, 1) := by decide +kernel
theorem d4_14 : decode prog_27_method_4_code 14 = .ok (.iload_n 3, 1) := by decide +kernel
theorem d4_15 : decode prog_27_method_4_code 15 = .ok (.iand, 1) := by decide +kernel
theorem d4_16 : decode prog_27_method_4_code 16 = .ok (.istore 4, 2) := by decide +kernel
theorem d4_18 : decode prog_27_method_4_code 18 = .ok (.aload_n 0, 1) := by decide +kernel
theorem d4_19 : decode prog_27_method_4_code 19 = .ok (.iload 4, 2) := by decide +kernel
theorem d4_21 : decode prog_27_method_4_code 21 = .ok (.laload, 1) := by decide +kernel
theorem d4_22 : decode prog_27_method_4_code 22 = .ok (.lconst 0, 1) := by decide +kernel
theorem d4_23 : decode prog_27_method_4_code 23 = .ok (.lcmp, 1) := by decide +kernel
theorem d4_24 : decode prog_27_method_4_code 24 = .ok (.ifCond .eq 23, 3) := by decide +kernel
theorem d4_27 : decode prog_27_method_4_code 27 = .ok (.aload_n 0, 1) := by decide +kernel
theorem d4_28 : decode prog_27_method_4_code 28 = .ok (.iload 4, 2) := by decide +kernel
theorem d4_30 : decode prog_27_method_4_code 30 = .ok (.laload, 1) := by decide +kernel
theorem d4_31 : decode prog_27_method_4_code 31 = .ok (.lload_n 1, 1) := by decide +kernel
theorem d4_32 : decode prog_27_method_4_code 32 = .ok (.lcmp, 1) := by decide +kernel
theorem d4_33 : decode prog_27_method_4_code 33 = .ok (.ifCond .eq 14, 3) := by decide +kernel
theorem d4_36 : decode prog_27_method_4_code 36 = .ok (.iload 4, 2) := by decide +kernel
theorem d4_38 : decode prog_27_method_4_code 38 = .ok (.iconst 1, 1) := by decide +kernel
theorem d4_39 : decode prog_27_method_4_code 39 = .ok (.iadd, 1) := by decide +kernel
theorem d4_40 : decode prog_27_method_4_code 40 = .ok (.iload_n 3, 1) := by decide +kernel
theorem d4_41 : decode prog_27_method_4_code 41 = .ok (.iand, 1) := by decide +kernel
theorem d4_42 : decode prog_27_method_4_code 42 = .ok (.istore 4, 2) := by decide +kernel
theorem d4_44 : decode prog_27_method_4_code 44 = .ok (.goto (-26), 3) := by decide +kernel
theorem d4_47 : decode prog_27_method_4_code 47 = .ok (.iload 4, 2) := by decide +kernel
theorem d4_49 : decode prog_27_method_4_code 49 = .ok (.ireturn, 1) := by decide +kernel
theorem pn_4 : plainName "kehai/LongSet" = true := by first | (simp [plainName, overriddenIn]; done) | decide +kernel
theorem ef_4_RJ (m : MethodId) (x0 : Addr) (x1 : Int64) : entryFrame m #[(.ref x0), (.long x1)] 5 = mkF m 0 #[.val (.ref x0), .val (.long x1), .second, .unset, .unset] [] := by first | (simp [entryFrame, mkF, argsToLocals, Value.category]; done) | rfl
def Q_rmF (Z : State) (a1 : Addr) (q : Int64) (f : Nat → Int64) (k : Nat) (h0 : Heap) (n0 : Nat) (v : Option Value) (h : Heap) (L : List Loc) : Prop := v = some (.int (Int32.ofNat (own_pos q k))) ∧ Fr n0 L ∧ h = h0
set_option maxRecDepth 65536 in
set_option maxHeartbeats 40000000 in
theorem rmF (l : Launch) (Z : State) (a0 : Array Value) (hw : ∀ d ∈ tables_1, d.before a0 Z = true) (ws : List Jvm.Cond) (a1 : Addr) (q : Int64) (f : Nat → Int64) (k : Nat) (h0 : Heap) (n0 : Nat) (Z0 : n0 ≤ h0.size) (A : LArr Z h0 a1 16384 f) (hk : own_stop f q k) :
    MetFree l (⟨"kehai/LongSet", "find", "([JJ)I"⟩ : MethodName) (head1 (Jvm.Cond.code (⟨"kehai/LongSet", "find", "([JJ)I"⟩ : MethodName) prog_27_method_4_code 5 (some .int) :: ws) ({ frames := 0, cells := 0, slots := 0, locals := 0 } : Room)) (fun a U => a = #[(.ref a1), (.long q)] ∧ Z.Warmed39 U.vm ∧ U.heap = h0) (fun _ _ _ _ _ => True) (fun _ U o U' => ∃ v L, o = .returned v ∧ Q_rmF Z a1 q f k h0 n0 v U'.heap L ∧ FrameEnd U o U' L ({ frames := 0, cells := 0, slots := 0, locals := 0 } : Room).cells ({ frames := 0, cells := 0, slots := 0, locals := 0 } : Room).slots) := by
  refine own_met (y := (⟨"kehai/LongSet", "find", "([JJ)I"⟩ : MethodName)) (Q := (Q_rmF Z a1 q f k h0 n0)) (plainFor_of_name pn_4) fun p e s m below meth c s₁ X0 hx hby hml hret hlk hown hnm hZ e0 => ?_
  refine own_entry (ef_4_RJ m a1 q) ?_
  obtain ⟨c1, Ar, hsz, hat⟩ := A
  refine own_to s₁ (mkF m 2 #[.val (.ref a1), .val (.long q), .second, .unset, .unset] [(.int (c1.slots.size.toInt32))]) (fun tq kq => XS.aloadN X0.here hx rfl (hb hby d4_0) rfl rfl (X0.arraylength hx (by rw [e0]; exact Ar.1) (State.isArrayOf_alike hZ.alike Ar.2.1) (g := (mkF m 1 #[.val (.ref a1), .val (.long q), .second, .unset, .unset] [(.ref a1)])) rfl rfl (hb hby d4_1) _ kq)) ?_
  rw [show c1.slots.size.toInt32 = (16384 : Int32) from by rw [hsz]; decide]
  refine own_to s₁ (mkF m 4 #[.val (.ref a1), .val (.long q), .second, .unset, .unset] [(.int ((16384 : Int32) - (1 : Int32)))]) (fun tq kq => XS.iconst X0.here hx rfl (hb hby d4_2) (XS.isub X0.here hx rfl (hb hby d4_3) rfl kq)) ?_
  rw [show (16384 : Int32) - (1 : Int32) = (16383 : Int32) from by decide]
  refine own_to s₁ (mkF m 16 #[.val (.ref a1), .val (.long q), .second, .val (.int (16383 : Int32)), .unset] [(.int (((((q * (-7046029254386353131 : Int64)).toUInt64 >>> ((32 : Int32) &&& 0x3f).toInt64.toUInt64).toInt64).toInt32) &&& (16383 : Int32)))]) (fun tq kq => XS.istoreN X0.here hx rfl (hb hby d4_4) rfl (l' := #[.val (.ref a1), .val (.long q), .second, .val (.int (16383 : Int32)), .unset]) rfl (XS.lloadN X0.here hx rfl (hb hby d4_5) rfl (X0.ldc2Long hx hown (mvT hZ (own_w hw 23 rfl)) (g := (mkF m 6 #[.val (.ref a1), .val (.long q), .second, .val (.int (16383 : Int32)), .unset] [(.long q)])) rfl (hb hby d4_6) _ (XS.lmul X0.here hx rfl (hb hby d4_9) rfl (XS.bipush X0.here hx rfl (hb hby d4_10) (XS.lushr X0.here hx rfl (hb hby d4_12) rfl (XS.l2i X0.here hx rfl (hb hby d4_13) rfl (XS.iloadN X0.here hx rfl (hb hby d4_14) rfl (XS.iand X0.here hx rfl (hb hby d4_15) rfl kq))))))))) ?_
  rw [own_h_eq]
  refine own_to s₁ (mkF m 18 #[.val (.ref a1), .val (.long q), .second, .val (.int (16383 : Int32)), .val (.int (Int32.ofNat (own_h q)))] []) (fun tq kq => XS.istore X0.here hx rfl (hb hby d4_16) rfl (l' := #[.val (.ref a1), .val (.long q), .second, .val (.int (16383 : Int32)), .val (.int (Int32.ofNat (own_h q)))]) rfl kq) ?_
  have loop : ∀ (k' u : Nat), u < 16384 → (∀ j, j < k' → f ((u + j) % 16384) ≠ 0 ∧ f ((u + j) % 16384) ≠ q) → (f ((u + k') % 16384) = 0 ∨ f ((u + k') % 16384) = q) → (u + k') % 16384 = own_pos q k → Own p e below s ({ frames := 0, cells := 0, slots := 0, locals := 0 } : Room).cells ({ frames := 0, cells := 0, slots := 0, locals := 0 } : Room).slots (Q_rmF Z a1 q f k h0 n0) s₁ (mkF m 18 #[.val (.ref a1), .val (.long q), .second, .val (.int (16383 : Int32)), .val (.int (Int32.ofNat u))] []) := by
    intro k'
    induction k' with
    | zero =>
      intro u hu h1 h2 h3
      have hu0 : (u + 0) % 16384 = u := by omega
      rw [hu0] at h2
      have hin : ¬ ((Int32.ofNat u) < 0 ∨ c1.slots.size ≤ (Int32.ofNat u).toNatClampNeg) := by rw [hsz]; exact within rfl hu (by decide)
      have hat2 : c1.slots[(Int32.ofNat u).toNatClampNeg]? = some (.long (f u)) := by rw [clamp_of rfl (by omega)]; exact hat u hu
      refine own_to s₁ (mkF m 24 #[.val (.ref a1), .val (.long q), .second, .val (.int (16383 : Int32)), .val (.int (Int32.ofNat u))] [(.int (lcmpW (f u) (0 : Int64)))]) (fun tq kq => XS.aloadN X0.here hx rfl (hb hby d4_18) rfl rfl (XS.iload X0.here hx rfl (hb hby d4_19) rfl (X0.laload hx (j := (Int32.ofNat u)) (v := (.long (f u))) (by rw [e0]; exact Ar.1) (State.isArrayOf_alike hZ.alike Ar.2.1) Ar.2.2 hin hat2 (g := (mkF m 21 #[.val (.ref a1), .val (.long q), .second, .val (.int (16383 : Int32)), .val (.int (Int32.ofNat u))] [(.int (Int32.ofNat u)), (.ref a1)])) rfl rfl (hb hby d4_21) _ (XS.lconst X0.here hx rfl (hb hby d4_22) (XS.lcmp X0.here hx rfl (hb hby d4_23) rfl kq))))) ?_
      by_cases c24 : (f u) = (0 : Int64)
      · skip
        refine own_to s₁ (mkF m 49 #[.val (.ref a1), .val (.long q), .second, .val (.int (16383 : Int32)), .val (.int (Int32.ofNat u))] [(.int (Int32.ofNat u))]) (fun tq kq => XS.ifYes X0.here hx rfl (pc0 := 24) (pc' := 47) rfl (hb hby d4_24) rfl ((if0 _ _).trans (teq ((lw_eq (f u) (0 : Int64)).mpr c24)).1) (by decide) (by decide) (XS.iload X0.here hx rfl (hb hby d4_47) rfl kq)) ?_
        exact own_retI X0 hx hret hlk (hb hby d4_49) (by decide) (by decide) ⟨by rw [show u = own_pos q k by omega], (Fr.nil n0), e0⟩
      · skip
        refine own_to s₁ (mkF m 49 #[.val (.ref a1), .val (.long q), .second, .val (.int (16383 : Int32)), .val (.int (Int32.ofNat u))] [(.int (Int32.ofNat u))]) (fun tq kq => XS.ifNo X0.here hx rfl (hb hby d4_24) rfl ((if0 _ _).trans (feq (mt (lw_eq (f u) (0 : Int64)).mp c24)).1) (XS.aloadN X0.here hx rfl (hb hby d4_27) rfl rfl (XS.iload X0.here hx rfl (hb hby d4_28) rfl (X0.laload hx (j := (Int32.ofNat u)) (v := (.long (f u))) (by rw [e0]; exact Ar.1) (State.isArrayOf_alike hZ.alike Ar.2.1) Ar.2.2 hin hat2 (g := (mkF m 30 #[.val (.ref a1), .val (.long q), .second, .val (.int (16383 : Int32)), .val (.int (Int32.ofNat u))] [(.int (Int32.ofNat u)), (.ref a1)])) rfl rfl (hb hby d4_30) _ (XS.lloadN X0.here hx rfl (hb hby d4_31) rfl (XS.lcmp X0.here hx rfl (hb hby d4_32) rfl (XS.ifYes X0.here hx rfl (pc0 := 33) (pc' := 47) rfl (hb hby d4_33) rfl ((if0 _ _).trans (teq ((lw_eq (f u) q).mpr (h2.resolve_left c24))).1) (by decide) (by decide) (XS.iload X0.here hx rfl (hb hby d4_47) rfl kq)))))))) ?_
        exact own_retI X0 hx hret hlk (hb hby d4_49) (by decide) (by decide) ⟨by rw [show u = own_pos q k by omega], (Fr.nil n0), e0⟩
    | succ k' ih =>
      intro u hu h1 h2 h3
      have hz := h1 0 (by omega)
      have hu0 : (u + 0) % 16384 = u := by omega
      rw [hu0] at hz
      have hin : ¬ ((Int32.ofNat u) < 0 ∨ c1.slots.size ≤ (Int32.ofNat u).toNatClampNeg) := by rw [hsz]; exact within rfl hu (by decide)
      have hat2 : c1.slots[(Int32.ofNat u).toNatClampNeg]? = some (.long (f u)) := by rw [clamp_of rfl (by omega)]; exact hat u hu
      refine own_to s₁ (mkF m 32 #[.val (.ref a1), .val (.long q), .second, .val (.int (16383 : Int32)), .val (.int (Int32.ofNat u))] [(.long q), (.long (f u))]) (fun tq kq => XS.aloadN X0.here hx rfl (hb hby d4_18) rfl rfl (XS.iload X0.here hx rfl (hb hby d4_19) rfl (X0.laload hx (j := (Int32.ofNat u)) (v := (.long (f u))) (by rw [e0]; exact Ar.1) (State.isArrayOf_alike hZ.alike Ar.2.1) Ar.2.2 hin hat2 (g := (mkF m 21 #[.val (.ref a1), .val (.long q), .second, .val (.int (16383 : Int32)), .val (.int (Int32.ofNat u))] [(.int (Int32.ofNat u)), (.ref a1)])) rfl rfl (hb hby d4_21) _ (XS.lconst X0.here hx rfl (hb hby d4_22) (XS.lcmp X0.here hx rfl (hb hby d4_23) rfl (XS.ifNo X0.here hx rfl (hb hby d4_24) rfl ((if0 _ _).trans (feq (mt (lw_eq (f u) (0 : Int64)).mp hz.1)).1) (XS.aloadN X0.here hx rfl (hb hby d4_27) rfl rfl (XS.iload X0.here hx rfl (hb hby d4_28) rfl (X0.laload hx (j := (Int32.ofNat u)) (v := (.long (f u))) (by rw [e0]; exact Ar.1) (State.isArrayOf_alike hZ.alike Ar.2.1) Ar.2.2 hin hat2 (g := (mkF m 30 #[.val (.ref a1), .val (.long q), .second, .val (.int (16383 : Int32)), .val (.int (Int32.ofNat u))] [(.int (Int32.ofNat u)), (.ref a1)])) rfl rfl (hb hby d4_30) _ (XS.lloadN X0.here hx rfl (hb hby d4_31) rfl kq)))))))))) ?_
      refine own_to s₁ (mkF m 42 #[.val (.ref a1), .val (.long q), .second, .val (.int (16383 : Int32)), .val (.int (Int32.ofNat u))] [(.int (((Int32.ofNat u) + (1 : Int32)) &&& (16383 : Int32)))]) (fun tq kq => XS.lcmp X0.here hx rfl (hb hby d4_32) rfl (XS.ifNo X0.here hx rfl (hb hby d4_33) rfl ((if0 _ _).trans (feq (mt (lw_eq (f u) q).mp hz.2)).1) (XS.iload X0.here hx rfl (hb hby d4_36) rfl (XS.iconst X0.here hx rfl (hb hby d4_38) (XS.iadd X0.here hx rfl (hb hby d4_39) rfl (XS.iloadN X0.here hx rfl (hb hby d4_40) rfl (XS.iand X0.here hx rfl (hb hby d4_41) rfl kq))))))) ?_
      rw [own_next hu]
      refine own_to s₁ (mkF m 18 #[.val (.ref a1), .val (.long q), .second, .val (.int (16383 : Int32)), .val (.int (Int32.ofNat ((u + 1) % 16384)))] []) (fun tq kq => XS.istore X0.here hx rfl (hb hby d4_42) rfl (l' := #[.val (.ref a1), .val (.long q), .second, .val (.int (16383 : Int32)), .val (.int (Int32.ofNat ((u + 1) % 16384)))]) rfl (XS.goto X0.here hx rfl (pc0 := 44) (pc' := 18) rfl (hb hby d4_44) (by decide) (by decide) kq)) ?_
      exact ih ((u + 1) % 16384) (by omega) (fun j hj => by have := h1 (j + 1) (by omega); rwa [show (u + (j + 1)) % 16384 = ((u + 1) % 16384 + j) % 16384 by omega] at this) (by rwa [show (u + (k' + 1)) % 16384 = ((u + 1) % 16384 + k') % 16384 by omega] at h2) (by omega)
  exact loop k (own_h q) (own_h_lt q) hk.1 hk.2 rfl
theorem d3_0 : decode prog_27_method_3_code 0 = .ok (.lload_n 1, 1) := by decide +kernel
theorem d3_1 : decode prog_27_method_3_code 1 = .ok (.lconst 1, 1) := by decide +kernel
theorem d3_2 : decode prog_27_method_3_code 2 = .ok (.ladd, 1) := by decide +kernel
theorem d3_3 : decode prog_27_method_3_code 3 = .ok (.lstore_n 3, 1) := by decide +kernel
theorem d3_4 : decode prog_27_method_3_code 4 = .ok (.lload_n 1, 1) := by decide +kernel
theorem d3_5 : decode prog_27_method_3_code 5 = .ok (.lconst 0, 1) := by decide +kernel
theorem d3_6 : decode prog_27_method_3_code 6 = .ok (.lcmp, 1) := by decide +kernel
theorem d3_7 : decode prog_27_method_3_code 7 = .ok (.ifCond .lt 41, 3) := by decide +kernel
theorem d3_10 : decode prog_27_method_3_code 10 = .ok (.aload_n 0, 1) := by decide +kernel
theorem d3_11 : decode prog_27_method_3_code 11 = .ok (.getfield 13, 3) := by decide +kernel
theorem d3_14 : decode prog_27_method_3_code 14 = .ok (.lload_n 3, 1) := by decide +kernel
theorem d3_15 : decode prog_27_method_3_code 15 = .ok (.l2i, 1) := by decide +kernel
theorem d3_16 : decode prog_27_method_3_code 16 = .ok (.sipush 1023, 3) := by decide +kernel
theorem d3_19 : decode prog_27_method_3_code 19 = .ok (.iand, 1) := by decide +kernel
theorem d3_20 : decode prog_27_method_3_code 20 = .ok (.laload, 1) := by decide +kernel
theorem d3_21 : decode prog_27_method_3_code 21 = .ok (.lload_n 3, 1) := by decide +kernel
theorem d3_22 : decode prog_27_method_3_code 22 = .ok (.lcmp, 1) := by decide +kernel
theorem d3_23 : decode prog_27_method_3_code 23 = .ok (.ifCond .eq 21, 3) := by decide +kernel
theorem d3_26 : decode prog_27_method_3_code 26 = .ok (.aload_n 0, 1) := by decide +kernel
theorem d3_27 : decode prog_27_method_3_code 27 = .ok (.getfield 7, 3) := by decide +kernel
theorem d3_30 : decode prog_27_method_3_code 30 = .ok (.aload_n 0, 1) := by decide +kernel
theorem d3_31 : decode prog_27_method_3_code 31 = .ok (.getfield 7, 3) := by decide +kernel
theorem d3_34 : decode prog_27_method_3_code 34 = .ok (.lload_n 3, 1) := by decide +kernel
theorem d3_35 : decode prog_27_method_3_code 35 = .ok (.invokestatic 32, 3) := by decide +kernel
theorem d3_38 : decode prog_27_method_3_code 38 = .ok (.laload, 1) := by decide +kernel
theorem d3_39 : decode prog_27_method_3_code 39 = .ok (.lload_n 3, 1) := by decide +kernel
theorem d3_40 : decode prog_27_method_3_code 40 = .ok (.lcmp, 1) := by decide +kernel
theorem d3_41 : decode prog_27_method_3_code 41 = .ok (.ifCond .ne 7, 3) := by decide +kernel
theorem d3_44 : decode prog_27_method_3_code 44 = .ok (.iconst 1, 1) := by decide +kernel
theorem d3_45 : decode prog_27_method_3_code 45 = .ok (.goto 4, 3) := by decide +kernel
theorem d3_48 : decode prog_27_method_3_code 48 = .ok (.iconst 0, 1) := by decide +kernel
theorem d3_49 : decode prog_27_method_3_code 49 = .ok (.ireturn, 1) := by decide +kernel
theorem ef_3_RJ (m : MethodId) (x0 : Addr) (x1 : Int64) : entryFrame m #[(.ref x0), (.long x1)] 5 = mkF m 0 #[.val (.ref x0), .val (.long x1), .second, .unset, .unset] [] := by first | (simp [entryFrame, mkF, argsToLocals, Value.category]; done) | rfl
def Q_rmC (Z : State) (a1 : Addr) (q : Int64) (pl rc : Addr) (f g : Nat → Int64) (xs : List Int64) (h0 : Heap) (n0 : Nat) (v : Option Value) (h : Heap) (L : List Loc) : Prop := v = some (.int (own_mem q xs)) ∧ Fr n0 L ∧ h = h0
theorem pd_2 : parseMethodDescriptor "([JJ)I" = some ⟨[(.array .long), .long], some .int⟩ := by decide +kernel
set_option maxRecDepth 65536 in
set_option maxHeartbeats 40000000 in
theorem rmC (l : Launch) (Z : State) (a0 : Array Value) (hw : ∀ d ∈ tables_1, d.before a0 Z = true) (ws : List Jvm.Cond) (a1 : Addr) (q : Int64) (pl rc : Addr) (f g : Nat → Int64) (xs : List Int64) (h0 : Heap) (n0 : Nat) (Z0 : n0 ≤ h0.size) (F1 : Fld Z h0 a1 "kehai/LongSet" "places" "[J" (.ref pl)) (F2 : Fld Z h0 a1 "kehai/LongSet" "recent" "[J" (.ref rc)) (A1 : LArr Z h0 pl 16384 f) (A2 : LArr Z h0 rc 1024 g) (I : own_inv f g xs) (hx2 : xs.length ≤ 2) :
    MetFree l (⟨"kehai/LongSet", "contains", "(J)Z"⟩ : MethodName) (head1 (Jvm.Cond.code (⟨"kehai/LongSet", "contains", "(J)Z"⟩ : MethodName) prog_27_method_3_code 5 (some .boolean) :: ws) ({ frames := 1, cells := 0, slots := 0, locals := 17 } : Room)) (fun a U => a = #[(.ref a1), (.long q)] ∧ Z.Warmed39 U.vm ∧ U.heap = h0) (fun _ _ _ _ _ => True) (fun _ U o U' => ∃ v L, o = .returned v ∧ Q_rmC Z a1 q pl rc f g xs h0 n0 v U'.heap L ∧ FrameEnd U o U' L ({ frames := 1, cells := 0, slots := 0, locals := 17 } : Room).cells ({ frames := 1, cells := 0, slots := 0, locals := 17 } : Room).slots) := by
  refine own_met (y := (⟨"kehai/LongSet", "contains", "(J)Z"⟩ : MethodName)) (Q := (Q_rmC Z a1 q pl rc f g xs h0 n0)) (plainFor_of_name pn_4) fun p e s m below meth c s₁ X0 hx hby hml hret hlk hown hnm hZ e0 => ?_
  refine own_entry (ef_3_RJ m a1 q) ?_
  obtain ⟨k, hk⟩ := own_exists I hx2 (q + (1 : Int64))
  obtain ⟨c1, Ar1, hsz1, hat1⟩ := id A1
  obtain ⟨c2, Ar2, hsz2, hat2⟩ := id A2
  have hpl : own_pos (q + (1 : Int64)) k < 16384 := Nat.mod_lt _ (by decide)
  have hin2 : ¬ (((q + (1 : Int64)).toInt32 &&& (1023 : Int32)) < 0 ∨ c2.slots.size ≤ ((q + (1 : Int64)).toInt32 &&& (1023 : Int32)).toNatClampNeg) := by rw [hsz2]; exact own_ix _
  have hat2' : c2.slots[((q + (1 : Int64)).toInt32 &&& (1023 : Int32)).toNatClampNeg]? = some (.long (g ((q + (1 : Int64)).toInt32 &&& (1023 : Int32)).toNatClampNeg)) := hat2 _ (Nat.lt_of_not_le fun z => own_ix (q + (1 : Int64)).toInt32 (Or.inr z))
  have hin1 : ¬ ((Int32.ofNat (own_pos (q + (1 : Int64)) k)) < 0 ∨ c1.slots.size ≤ (Int32.ofNat (own_pos (q + (1 : Int64)) k)).toNatClampNeg) := by rw [hsz1]; exact within rfl hpl (by decide)
  have hat1' : c1.slots[(Int32.ofNat (own_pos (q + (1 : Int64)) k)).toNatClampNeg]? = some (.long (f (own_pos (q + (1 : Int64)) k))) := by rw [clamp_of rfl (by omega)]; exact hat1 _ hpl
  refine own_to s₁ (mkF m 7 #[.val (.ref a1), .val (.long q), .second, .val (.long (q + (1 : Int64))), .second] [(.int (lcmpW q (0 : Int64)))]) (fun tq kq => XS.lloadN X0.here hx rfl (hb hby d3_0) rfl (XS.lconst X0.here hx rfl (hb hby d3_1) (XS.ladd X0.here hx rfl (hb hby d3_2) rfl (XS.lstoreN X0.here hx rfl (hb hby d3_3) rfl (l' := #[.val (.ref a1), .val (.long q), .second, .val (.long (q + (1 : Int64))), .second]) rfl (XS.lloadN X0.here hx rfl (hb hby d3_4) rfl (XS.lconst X0.here hx rfl (hb hby d3_5) (XS.lcmp X0.here hx rfl (hb hby d3_6) rfl kq))))))) ?_
  by_cases c7 : q < (0 : Int64)
  · skip
    refine own_to s₁ (mkF m 49 #[.val (.ref a1), .val (.long q), .second, .val (.long (q + (1 : Int64))), .second] [(.int (0 : Int32))]) (fun tq kq => XS.ifYes X0.here hx rfl (pc0 := 7) (pc' := 48) rfl (hb hby d3_7) rfl ((if0 _ _).trans (tlt ((lw_lt q (0 : Int64)).mpr c7)).1) (by decide) (by decide) (XS.iconst X0.here hx rfl (hb hby d3_48) kq)) ?_
    exact own_retZ X0 hx hret hlk (hb hby d3_49) (by decide) (by decide) (Or.inl rfl) ⟨congrArg (fun z => some (Value.int z)) (((own_con_mem I hk ((q + (1 : Int64)).toInt32 &&& (1023 : Int32)).toNatClampNeg).symm.trans (show own_con f g ((q + (1 : Int64)).toInt32 &&& (1023 : Int32)).toNatClampNeg q k = (0 : Int32) from if_pos c7)).symm), (Fr.nil n0), e0⟩
  · skip
    refine own_to s₁ (mkF m 11 #[.val (.ref a1), .val (.long q), .second, .val (.long (q + (1 : Int64))), .second] [(.ref a1)]) (fun tq kq => XS.ifNo X0.here hx rfl (hb hby d3_7) rfl ((if0 _ _).trans (flt (mt (lw_lt q (0 : Int64)).mp c7)).1) (XS.aloadN X0.here hx rfl (hb hby d3_10) rfl rfl kq)) ?_
    obtain ⟨T1, X1, e1, st1⟩ := getF X0 hx hZ hown (host := "") (Or.inl (own_w hw 13 rfl)) Via.refl e0 F2 (g := (mkF m 11 #[.val (.ref a1), .val (.long q), .second, .val (.long (q + (1 : Int64))), .second] [(.ref a1)])) rfl rfl (hb hby d3_11)
    refine own_to T1 (mkF m 23 #[.val (.ref a1), .val (.long q), .second, .val (.long (q + (1 : Int64))), .second] [(.int (lcmpW (g ((q + (1 : Int64)).toInt32 &&& (1023 : Int32)).toNatClampNeg) (q + (1 : Int64))))]) (fun tq kq => st1 _ (XS.lloadN X1.here hx rfl (hb hby d3_14) rfl (XS.l2i X1.here hx rfl (hb hby d3_15) rfl (XS.sipush X1.here hx rfl (hb hby d3_16) (XS.iand X1.here hx rfl (hb hby d3_19) rfl (X1.laload hx (j := (((q + (1 : Int64)).toInt32) &&& (1023 : Int32))) (v := (.long (g ((q + (1 : Int64)).toInt32 &&& (1023 : Int32)).toNatClampNeg))) (by rw [e1]; exact Ar2.1) (State.isArrayOf_alike hZ.alike Ar2.2.1) Ar2.2.2 hin2 hat2' (g := (mkF m 20 #[.val (.ref a1), .val (.long q), .second, .val (.long (q + (1 : Int64))), .second] [(.int (((q + (1 : Int64)).toInt32) &&& (1023 : Int32))), (.ref rc)])) rfl rfl (hb hby d3_20) _ (XS.lloadN X1.here hx rfl (hb hby d3_21) rfl (XS.lcmp X1.here hx rfl (hb hby d3_22) rfl kq)))))))) ?_
    by_cases c23 : (g ((q + (1 : Int64)).toInt32 &&& (1023 : Int32)).toNatClampNeg) = (q + (1 : Int64))
    · skip
      refine own_to T1 (mkF m 49 #[.val (.ref a1), .val (.long q), .second, .val (.long (q + (1 : Int64))), .second] [(.int (1 : Int32))]) (fun tq kq => XS.ifYes X1.here hx rfl (pc0 := 23) (pc' := 44) rfl (hb hby d3_23) rfl ((if0 _ _).trans (teq ((lw_eq (g ((q + (1 : Int64)).toInt32 &&& (1023 : Int32)).toNatClampNeg) (q + (1 : Int64))).mpr c23)).1) (by decide) (by decide) (XS.iconst X1.here hx rfl (hb hby d3_44) (XS.goto X1.here hx rfl (pc0 := 45) (pc' := 49) rfl (hb hby d3_45) (by decide) (by decide) kq))) ?_
      exact own_retZ X1 hx hret hlk (hb hby d3_49) (by decide) (by decide) (Or.inr rfl) ⟨congrArg (fun z => some (Value.int z)) (((own_con_mem I hk ((q + (1 : Int64)).toInt32 &&& (1023 : Int32)).toNatClampNeg).symm.trans (show own_con f g ((q + (1 : Int64)).toInt32 &&& (1023 : Int32)).toNatClampNeg q k = (1 : Int32) from (if_neg c7).trans (if_pos c23))).symm), (Fr.nil n0), e1⟩
    · skip
      refine own_to T1 (mkF m 27 #[.val (.ref a1), .val (.long q), .second, .val (.long (q + (1 : Int64))), .second] [(.ref a1)]) (fun tq kq => XS.ifNo X1.here hx rfl (hb hby d3_23) rfl ((if0 _ _).trans (feq (mt (lw_eq (g ((q + (1 : Int64)).toInt32 &&& (1023 : Int32)).toNatClampNeg) (q + (1 : Int64))).mp c23)).1) (XS.aloadN X1.here hx rfl (hb hby d3_26) rfl rfl kq)) ?_
      obtain ⟨T2, X2, e2, st2⟩ := getF X1 hx hZ hown (host := "") (Or.inl (own_w hw 11 rfl)) Via.refl e1 F1 (g := (mkF m 27 #[.val (.ref a1), .val (.long q), .second, .val (.long (q + (1 : Int64))), .second] [(.ref a1)])) rfl rfl (hb hby d3_27)
      refine own_to T2 (mkF m 31 #[.val (.ref a1), .val (.long q), .second, .val (.long (q + (1 : Int64))), .second] [(.ref a1), (.ref pl)]) (fun tq kq => st2 _ (XS.aloadN X2.here hx rfl (hb hby d3_30) rfl rfl kq)) ?_
      obtain ⟨T3, X3, e3, st3⟩ := getF X2 hx hZ hown (host := "") (Or.inl (own_w hw 11 rfl)) Via.refl e2 F1 (g := (mkF m 31 #[.val (.ref a1), .val (.long q), .second, .val (.long (q + (1 : Int64))), .second] [(.ref a1), (.ref pl)])) rfl rfl (hb hby d3_31)
      refine own_to T3 (mkF m 35 #[.val (.ref a1), .val (.long q), .second, .val (.long (q + (1 : Int64))), .second] [(.long (q + (1 : Int64))), (.ref pl), (.ref pl)]) (fun tq kq => st3 _ (XS.lloadN X3.here hx rfl (hb hby d3_34) rfl kq)) ?_
      obtain ⟨_, _, ⟨T4, L4, k4, n4⟩, -, X4, ⟨Lc4, hQ4, l4, y4, z4⟩, st4⟩ := Jvm.LawKit.callS X3 hx (y := (⟨"kehai/LongSet", "find", "([JJ)I"⟩ : MethodName)) hown (mvT hZ (own_w hw 20 rfl)) (mvT hZ (own_w hw 21 rfl)) (mvT hZ (own_w hw 3 rfl)) (mvT hZ (own_w hw 22 rfl)) (by decide) (backOf (W := 1) (rmF l Z a0 hw [] pl (q + (1 : Int64)) f k h0 n0 Z0 A1 hk) hZ (own_w hw 22 rfl) (own_w hw 3 rfl) (by decide) (by decide)) (g := (mkF m 35 #[.val (.ref a1), .val (.long q), .second, .val (.long (q + (1 : Int64))), .second] [(.long (q + (1 : Int64))), (.ref pl), (.ref pl)])) rfl (by rw [hml]; rfl) (argsL := [(.ref pl), (.long (q + (1 : Int64)))]) (rest := [(.ref pl)]) (lenOf pd_2 rfl) rfl (by show 2 * 0 + _ ≤ _; exact Nat.le_of_eq rfl) (hb hby d3_35) (fun _ _ => ⟨rfl, e3, (by decide : 0 + 0 ≤ _), (by decide : 0 + 0 ≤ _)⟩)
      dsimp only [Pt.U, Pt.locs, Pt.cells, Pt.slots] at X4 l4 y4 z4 st4 hQ4
      subst l4 y4 z4
      obtain ⟨rfl, N4q, e4⟩ := hQ4
      have N4 := Fr.app (Fr.nil n0) N4q
      refine own_to T4 (mkF m 41 #[.val (.ref a1), .val (.long q), .second, .val (.long (q + (1 : Int64))), .second] [(.int (lcmpW (f (own_pos (q + (1 : Int64)) k)) (q + (1 : Int64))))]) (fun tq kq => st4 _ (X4.laload hx (j := (Int32.ofNat (own_pos (q + (1 : Int64)) k))) (v := (.long (f (own_pos (q + (1 : Int64)) k)))) (by rw [e4]; exact Ar1.1) (State.isArrayOf_alike hZ.alike Ar1.2.1) Ar1.2.2 hin1 hat1' (g := (mkF m 38 #[.val (.ref a1), .val (.long q), .second, .val (.long (q + (1 : Int64))), .second] [(.int (Int32.ofNat (own_pos (q + (1 : Int64)) k))), (.ref pl)])) rfl rfl (hb hby d3_38) _ (XS.lloadN X4.here hx rfl (hb hby d3_39) rfl (XS.lcmp X4.here hx rfl (hb hby d3_40) rfl kq)))) ?_
      by_cases c41 : (f (own_pos (q + (1 : Int64)) k)) = (q + (1 : Int64))
      · skip
        refine own_to T4 (mkF m 49 #[.val (.ref a1), .val (.long q), .second, .val (.long (q + (1 : Int64))), .second] [(.int (1 : Int32))]) (fun tq kq => XS.ifNo X4.here hx rfl (hb hby d3_41) rfl ((if0 _ _).trans (teq ((lw_eq (f (own_pos (q + (1 : Int64)) k)) (q + (1 : Int64))).mpr c41)).2) (XS.iconst X4.here hx rfl (hb hby d3_44) (XS.goto X4.here hx rfl (pc0 := 45) (pc' := 49) rfl (hb hby d3_45) (by decide) (by decide) kq))) ?_
        exact own_retZ X4 hx hret hlk (hb hby d3_49) (by decide) (by decide) (Or.inr rfl) ⟨congrArg (fun z => some (Value.int z)) (((own_con_mem I hk ((q + (1 : Int64)).toInt32 &&& (1023 : Int32)).toNatClampNeg).symm.trans (show own_con f g ((q + (1 : Int64)).toInt32 &&& (1023 : Int32)).toNatClampNeg q k = (1 : Int32) from (if_neg c7).trans ((if_neg c23).trans (if_pos c41)))).symm), N4, e4⟩
      · skip
        refine own_to T4 (mkF m 49 #[.val (.ref a1), .val (.long q), .second, .val (.long (q + (1 : Int64))), .second] [(.int (0 : Int32))]) (fun tq kq => XS.ifYes X4.here hx rfl (pc0 := 41) (pc' := 48) rfl (hb hby d3_41) rfl ((if0 _ _).trans (feq (mt (lw_eq (f (own_pos (q + (1 : Int64)) k)) (q + (1 : Int64))).mp c41)).2) (by decide) (by decide) (XS.iconst X4.here hx rfl (hb hby d3_48) kq)) ?_
        exact own_retZ X4 hx hret hlk (hb hby d3_49) (by decide) (by decide) (Or.inl rfl) ⟨congrArg (fun z => some (Value.int z)) (((own_con_mem I hk ((q + (1 : Int64)).toInt32 &&& (1023 : Int32)).toNatClampNeg).symm.trans (show own_con f g ((q + (1 : Int64)).toInt32 &&& (1023 : Int32)).toNatClampNeg q k = (0 : Int32) from (if_neg c7).trans ((if_neg c23).trans (if_neg c41)))).symm), N4, e4⟩
theorem d6_0 : decode prog_27_method_2_code 0 = .ok (.lload_n 1, 1) := by decide +kernel
theorem d6_1 : decode prog_27_method_2_code 1 = .ok (.lconst 0, 1) := by decide +kernel
theorem d6_2 : decode prog_27_method_2_code 2 = .ok (.lcmp, 1) := by decide +kernel
theorem d6_3 : decode prog_27_method_2_code 3 = .ok (.ifCond .ge 17, 3) := by decide +kernel
theorem d6_6 : decode prog_27_method_2_code 6 = .ok (.new 16, 3) := by decide +kernel
theorem d6_9 : decode prog_27_method_2_code 9 = .ok (.dup, 1) := by decide +kernel
theorem d6_10 : decode prog_27_method_2_code 10 = .ok (.lload_n 1, 1) := by decide +kernel
theorem d6_11 : decode prog_27_method_2_code 11 = .ok (.invokedynamic 18, 5) := by decide +kernel
theorem d6_16 : decode prog_27_method_2_code 16 = .ok (.invokespecial 22, 3) := by decide +kernel
theorem d6_19 : decode prog_27_method_2_code 19 = .ok (.athrow, 1) := by decide +kernel
theorem d6_20 : decode prog_27_method_2_code 20 = .ok (.iconst 2, 1) := by decide +kernel
theorem d6_21 : decode prog_27_method_2_code 21 = .ok (.aload_n 0, 1) := by decide +kernel
theorem d6_22 : decode prog_27_method_2_code 22 = .ok (.getfield 25, 3) := by decide +kernel
theorem d6_25 : decode prog_27_method_2_code 25 = .ok (.iconst 1, 1) := by decide +kernel
theorem d6_26 : decode prog_27_method_2_code 26 = .ok (.iadd, 1) := by decide +kernel
theorem d6_27 : decode prog_27_method_2_code 27 = .ok (.imul, 1) := by decide +kernel
theorem d6_28 : decode prog_27_method_2_code 28 = .ok (.aload_n 0, 1) := by decide +kernel
theorem d6_29 : decode prog_27_method_2_code 29 = .ok (.getfield 7, 3) := by decide +kernel
theorem d6_32 : decode prog_27_method_2_code 32 = .ok (.arraylength, 1) := by decide +kernel
theorem d6_33 : decode prog_27_method_2_code 33 = .ok (.if_icmp .le 7, 3) := by decide +kernel
theorem d6_36 : decode prog_27_method_2_code 36 = .ok (.aload_n 0, 1) := by decide +kernel
theorem d6_37 : decode prog_27_method_2_code 37 = .ok (.invokevirtual 29, 3) := by decide +kernel
theorem d6_40 : decode prog_27_method_2_code 40 = .ok (.lload_n 1, 1) := by decide +kernel
theorem d6_41 : decode prog_27_method_2_code 41 = .ok (.lconst 1, 1) := by decide +kernel
theorem d6_42 : decode prog_27_method_2_code 42 = .ok (.ladd, 1) := by decide +kernel
theorem d6_43 : decode prog_27_method_2_code 43 = .ok (.lstore_n 3, 1) := by decide +kernel
theorem d6_44 : decode prog_27_method_2_code 44 = .ok (.aload_n 0, 1) := by decide +kernel
theorem d6_45 : decode prog_27_method_2_code 45 = .ok (.getfield 7, 3) := by decide +kernel
theorem d6_48 : decode prog_27_method_2_code 48 = .ok (.lload_n 3, 1) := by decide +kernel
theorem d6_49 : decode prog_27_method_2_code 49 = .ok (.invokestatic 32, 3) := by decide +kernel
theorem d6_52 : decode prog_27_method_2_code 52 = .ok (.istore 5, 2) := by decide +kernel
theorem d6_54 : decode prog_27_method_2_code 54 = .ok (.aload_n 0, 1) := by decide +kernel
theorem d6_55 : decode prog_27_method_2_code 55 = .ok (.getfield 7, 3) := by decide +kernel
theorem d6_58 : decode prog_27_method_2_code 58 = .ok (.iload 5, 2) := by decide +kernel
theorem d6_60 : decode prog_27_method_2_code 60 = .ok (.laload, 1) := by decide +kernel
theorem d6_61 : decode prog_27_method_2_code 61 = .ok (.lload_n 3, 1) := by decide +kernel
theorem d6_62 : decode prog_27_method_2_code 62 = .ok (.lcmp, 1) := by decide +kernel
theorem d6_63 : decode prog_27_method_2_code 63 = .ok (.ifCond .eq 21, 3) := by decide +kernel
theorem d6_66 : decode prog_27_method_2_code 66 = .ok (.aload_n 0, 1) := by decide +kernel
theorem d6_67 : decode prog_27_method_2_code 67 = .ok (.getfield 7, 3) := by decide +kernel
theorem d6_70 : decode prog_27_method_2_code 70 = .ok (.iload 5, 2) := by decide +kernel
theorem d6_72 : decode prog_27_method_2_code 72 = .ok (.lload_n 3, 1) := by decide +kernel
theorem d6_73 : decode prog_27_method_2_code 73 = .ok (.lastore, 1) := by decide +kernel
theorem d6_74 : decode prog_27_method_2_code 74 = .ok (.aload_n 0, 1) := by decide +kernel
theorem d6_75 : decode prog_27_method_2_code 75 = .ok (.dup, 1) := by decide +kernel
theorem d6_76 : decode prog_27_method_2_code 76 = .ok (.getfield 25, 3) := by decide +kernel
theorem d6_79 : decode prog_27_method_2_code 79 = .ok (.iconst 1, 1) := by decide +kernel
theorem d6_80 : decode prog_27_method_2_code 80 = .ok (.iadd, 1) := by decide +kernel
theorem d6_81 : decode prog_27_method_2_code 81 = .ok (.putfield 25, 3) := by decide +kernel
theorem d6_84 : decode prog_27_method_2_code 84 = .ok (.aload_n 0, 1) := by decide +kernel
theorem d6_85 : decode prog_27_method_2_code 85 = .ok (.getfield 13, 3) := by decide +kernel
theorem d6_88 : decode prog_27_method_2_code 88 = .ok (.lload_n 3, 1) := by decide +kernel
theorem d6_89 : decode prog_27_method_2_code 89 = .ok (.l2i, 1) := by decide +kernel
theorem d6_90 : decode prog_27_method_2_code 90 = .ok (.sipush 1023, 3) := by decide +kernel
theorem d6_93 : decode prog_27_method_2_code 93 = .ok (.iand, 1) := by decide +kernel
theorem d6_94 : decode prog_27_method_2_code 94 = .ok (.lload_n 3, 1) := by decide +kernel
theorem d6_95 : decode prog_27_method_2_code 95 = .ok (.lastore, 1) := by decide +kernel
theorem d6_96 : decode prog_27_method_2_code 96 = .ok (.return_, 1) := by decide +kernel
theorem ef_6_RJ (m : MethodId) (x0 : Addr) (x1 : Int64) : entryFrame m #[(.ref x0), (.long x1)] 6 = mkF m 0 #[.val (.ref x0), .val (.long x1), .second, .unset, .unset, .unset] [] := by first | (simp [entryFrame, mkF, argsToLocals, Value.category]; done) | rfl
def Q_rmA (Z : State) (a1 : Addr) (q : Int64) (pl rc : Addr) (f g : Nat → Int64) (xs : List Int64) (sz : Int32) (h0 : Heap) (n0 : Nat) (v : Option Value) (h : Heap) (L : List Loc) : Prop := v = none ∧ Fr n0 L ∧ Keep h0 h [a1, pl, rc] ∧ Exa Z h a1 "kehai/LongSet" ∧ Fld Z h a1 "kehai/LongSet" "places" "[J" (.ref pl) ∧ Fld Z h a1 "kehai/LongSet" "recent" "[J" (.ref rc) ∧ (∃ sz', Fld Z h a1 "kehai/LongSet" "size" "I" (.int sz') ∧ (sz' = sz ∨ sz' = sz + (1 : Int32))) ∧ ∃ f' g', own_inv f' g' ((q + (1 : Int64)) :: xs) ∧ LArr Z h pl 16384 f' ∧ LArr Z h rc 1024 g'
theorem sn_places_size {Z : State} {a0 : Array Value} (hw : ∀ d ∈ tables_1, d.before a0 Z = true) : Jvm.RoadKit.slotOf Z "kehai/LongSet" "places" "[J" ≠ Jvm.RoadKit.slotOf Z "kehai/LongSet" "size" "I" := Jvm.RoadKit.slot_ne (a0 := a0) (Or.inl (own_w hw 12 rfl)) (Or.inl (own_w hw 37 rfl)) (by decide) (t := (.array .long)) (t' := .int) (by decide) (by decide)
theorem sn_recent_size {Z : State} {a0 : Array Value} (hw : ∀ d ∈ tables_1, d.before a0 Z = true) : Jvm.RoadKit.slotOf Z "kehai/LongSet" "recent" "[J" ≠ Jvm.RoadKit.slotOf Z "kehai/LongSet" "size" "I" := Jvm.RoadKit.slot_ne (a0 := a0) (Or.inr (own_w hw 14 rfl)) (Or.inl (own_w hw 37 rfl)) (by decide) (t := (.array .long)) (t' := .int) (by decide) (by decide)
set_option maxRecDepth 65536 in
set_option maxHeartbeats 40000000 in
theorem rmA (l : Launch) (Z : State) (a0 : Array Value) (hw : ∀ d ∈ tables_1, d.before a0 Z = true) (ws : List Jvm.Cond) (a1 : Addr) (q : Int64) (pl rc : Addr) (f g : Nat → Int64) (xs : List Int64) (sz : Int32) (h0 : Heap) (n0 : Nat) (Z0 : n0 ≤ h0.size) (F1 : Fld Z h0 a1 "kehai/LongSet" "places" "[J" (.ref pl)) (F2 : Fld Z h0 a1 "kehai/LongSet" "recent" "[J" (.ref rc)) (A1 : LArr Z h0 pl 16384 f) (A2 : LArr Z h0 rc 1024 g) (I : own_inv f g xs) (hx2 : xs.length ≤ 2) (E1 : Exa Z h0 a1 "kehai/LongSet") (F3 : Fld Z h0 a1 "kehai/LongSet" "size" "I" (.int sz)) (ne_a1_pl : a1 ≠ pl) (ne_a1_rc : a1 ≠ rc) (ne_pl_rc : pl ≠ rc) (g_a1 : n0 ≤ a1) (g_pl : n0 ≤ pl) (g_rc : n0 ≤ rc) (hq : ¬ q < (0 : Int64)) (hsz : ¬ (16384 : Int32) < ((2 : Int32) * (sz + (1 : Int32)))) :
    MetFree l (⟨"kehai/LongSet", "add", "(J)V"⟩ : MethodName) (head1 (Jvm.Cond.code (⟨"kehai/LongSet", "add", "(J)V"⟩ : MethodName) prog_27_method_2_code 6 none :: ws) ({ frames := 1, cells := 0, slots := 0, locals := 16 } : Room)) (fun a U => a = #[(.ref a1), (.long q)] ∧ Z.Warmed39 U.vm ∧ U.heap = h0) (fun _ _ _ _ _ => True) (fun _ U o U' => ∃ v L, o = .returned v ∧ Q_rmA Z a1 q pl rc f g xs sz h0 n0 v U'.heap L ∧ FrameEnd U o U' L ({ frames := 1, cells := 0, slots := 0, locals := 16 } : Room).cells ({ frames := 1, cells := 0, slots := 0, locals := 16 } : Room).slots) := by
  refine own_met (y := (⟨"kehai/LongSet", "add", "(J)V"⟩ : MethodName)) (Q := (Q_rmA Z a1 q pl rc f g xs sz h0 n0)) (plainFor_of_name pn_4) fun p e s m below meth c s₁ X0 hx hby hml hret hlk hown hnm hZ e0 => ?_
  refine own_entry (ef_6_RJ m a1 q) ?_
  obtain ⟨k, hk⟩ := own_exists I hx2 (q + (1 : Int64))
  obtain ⟨c1, Ar1, hsz1, hat1⟩ := id A1
  obtain ⟨c2, Ar2, hsz2, hat2⟩ := id A2
  have hpl : own_pos (q + (1 : Int64)) k < 16384 := Nat.mod_lt _ (by decide)
  have hin2 : ¬ (((q + (1 : Int64)).toInt32 &&& (1023 : Int32)) < 0 ∨ c2.slots.size ≤ ((q + (1 : Int64)).toInt32 &&& (1023 : Int32)).toNatClampNeg) := by rw [hsz2]; exact own_ix _
  have hat2' : c2.slots[((q + (1 : Int64)).toInt32 &&& (1023 : Int32)).toNatClampNeg]? = some (.long (g ((q + (1 : Int64)).toInt32 &&& (1023 : Int32)).toNatClampNeg)) := hat2 _ (Nat.lt_of_not_le fun z => own_ix (q + (1 : Int64)).toInt32 (Or.inr z))
  have hin1 : ¬ ((Int32.ofNat (own_pos (q + (1 : Int64)) k)) < 0 ∨ c1.slots.size ≤ (Int32.ofNat (own_pos (q + (1 : Int64)) k)).toNatClampNeg) := by rw [hsz1]; exact within rfl hpl (by decide)
  have hat1' : c1.slots[(Int32.ofNat (own_pos (q + (1 : Int64)) k)).toNatClampNeg]? = some (.long (f (own_pos (q + (1 : Int64)) k))) := by rw [clamp_of rfl (by omega)]; exact hat1 _ hpl
  have K0 := Keep.refl h0 [a1, pl, rc]
  refine own_to s₁ (mkF m 22 #[.val (.ref a1), .val (.long q), .second, .unset, .unset, .unset] [(.ref a1), (.int (2 : Int32))]) (fun tq kq => XS.lloadN X0.here hx rfl (hb hby d6_0) rfl (XS.lconst X0.here hx rfl (hb hby d6_1) (XS.lcmp X0.here hx rfl (hb hby d6_2) rfl (XS.ifYes X0.here hx rfl (pc0 := 3) (pc' := 20) rfl (hb hby d6_3) rfl ((if0 _ _).trans (flt (mt (lw_lt q (0 : Int64)).mp hq)).2.1) (by decide) (by decide) (XS.iconst X0.here hx rfl (hb hby d6_20) (XS.aloadN X0.here hx rfl (hb hby d6_21) rfl rfl kq)))))) ?_
  obtain ⟨T1, X1, e1, st1⟩ := getF X0 hx hZ hown (host := "") (Or.inl (own_w hw 36 rfl)) Via.refl e0 F3 (g := (mkF m 22 #[.val (.ref a1), .val (.long q), .second, .unset, .unset, .unset] [(.ref a1), (.int (2 : Int32))])) rfl rfl (hb hby d6_22)
  refine own_to T1 (mkF m 29 #[.val (.ref a1), .val (.long q), .second, .unset, .unset, .unset] [(.ref a1), (.int ((2 : Int32) * (sz + (1 : Int32))))]) (fun tq kq => st1 _ (XS.iconst X1.here hx rfl (hb hby d6_25) (XS.iadd X1.here hx rfl (hb hby d6_26) rfl (XS.imul X1.here hx rfl (hb hby d6_27) rfl (XS.aloadN X1.here hx rfl (hb hby d6_28) rfl rfl kq))))) ?_
  obtain ⟨T2, X2, e2, st2⟩ := getF X1 hx hZ hown (host := "") (Or.inl (own_w hw 11 rfl)) Via.refl e1 F1 (g := (mkF m 29 #[.val (.ref a1), .val (.long q), .second, .unset, .unset, .unset] [(.ref a1), (.int ((2 : Int32) * (sz + (1 : Int32))))])) rfl rfl (hb hby d6_29)
  refine own_to T2 (mkF m 33 #[.val (.ref a1), .val (.long q), .second, .unset, .unset, .unset] [(.int (c1.slots.size.toInt32)), (.int ((2 : Int32) * (sz + (1 : Int32))))]) (fun tq kq => st2 _ (X2.arraylength hx (by rw [e2]; exact Ar1.1) (State.isArrayOf_alike hZ.alike Ar1.2.1) (g := (mkF m 32 #[.val (.ref a1), .val (.long q), .second, .unset, .unset, .unset] [(.ref pl), (.int ((2 : Int32) * (sz + (1 : Int32))))])) rfl rfl (hb hby d6_32) _ kq)) ?_
  rw [show c1.slots.size.toInt32 = (16384 : Int32) from by rw [hsz1]; decide]
  refine own_to T2 (mkF m 45 #[.val (.ref a1), .val (.long q), .second, .val (.long (q + (1 : Int64))), .second, .unset] [(.ref a1)]) (fun tq kq => XS.icmpYes X2.here hx rfl (pc0 := 33) (pc' := 40) rfl (hb hby d6_33) rfl (flt hsz).2.2.2 (by decide) (by decide) (XS.lloadN X2.here hx rfl (hb hby d6_40) rfl (XS.lconst X2.here hx rfl (hb hby d6_41) (XS.ladd X2.here hx rfl (hb hby d6_42) rfl (XS.lstoreN X2.here hx rfl (hb hby d6_43) rfl (l' := #[.val (.ref a1), .val (.long q), .second, .val (.long (q + (1 : Int64))), .second, .unset]) rfl (XS.aloadN X2.here hx rfl (hb hby d6_44) rfl rfl kq)))))) ?_
  obtain ⟨T3, X3, e3, st3⟩ := getF X2 hx hZ hown (host := "") (Or.inl (own_w hw 11 rfl)) Via.refl e2 F1 (g := (mkF m 45 #[.val (.ref a1), .val (.long q), .second, .val (.long (q + (1 : Int64))), .second, .unset] [(.ref a1)])) rfl rfl (hb hby d6_45)
  refine own_to T3 (mkF m 49 #[.val (.ref a1), .val (.long q), .second, .val (.long (q + (1 : Int64))), .second, .unset] [(.long (q + (1 : Int64))), (.ref pl)]) (fun tq kq => st3 _ (XS.lloadN X3.here hx rfl (hb hby d6_48) rfl kq)) ?_
  obtain ⟨_, _, ⟨T4, L4, k4, n4⟩, -, X4, ⟨Lc4, hQ4, l4, y4, z4⟩, st4⟩ := Jvm.LawKit.callS X3 hx (y := (⟨"kehai/LongSet", "find", "([JJ)I"⟩ : MethodName)) hown (mvT hZ (own_w hw 20 rfl)) (mvT hZ (own_w hw 21 rfl)) (mvT hZ (own_w hw 3 rfl)) (mvT hZ (own_w hw 22 rfl)) (by decide) (backOf (W := 0) (rmF l Z a0 hw [] pl (q + (1 : Int64)) f k h0 n0 Z0 A1 hk) hZ (own_w hw 22 rfl) (own_w hw 3 rfl) (by decide) (by decide)) (g := (mkF m 49 #[.val (.ref a1), .val (.long q), .second, .val (.long (q + (1 : Int64))), .second, .unset] [(.long (q + (1 : Int64))), (.ref pl)])) rfl (by rw [hml]; rfl) (argsL := [(.ref pl), (.long (q + (1 : Int64)))]) (rest := []) (lenOf pd_2 rfl) rfl (by show 2 * 0 + _ ≤ _; exact Nat.le_of_eq rfl) (hb hby d6_49) (fun _ _ => ⟨rfl, e3, (by decide : 0 + 0 ≤ _), (by decide : 0 + 0 ≤ _)⟩)
  dsimp only [Pt.U, Pt.locs, Pt.cells, Pt.slots] at X4 l4 y4 z4 st4 hQ4
  subst l4 y4 z4
  obtain ⟨rfl, N4q, e4⟩ := hQ4
  have N4 := Fr.app (Fr.nil n0) N4q
  refine own_to T4 (mkF m 55 #[.val (.ref a1), .val (.long q), .second, .val (.long (q + (1 : Int64))), .second, .val (.int (Int32.ofNat (own_pos (q + (1 : Int64)) k)))] [(.ref a1)]) (fun tq kq => st4 _ (XS.istore X4.here hx rfl (hb hby d6_52) rfl (l' := #[.val (.ref a1), .val (.long q), .second, .val (.long (q + (1 : Int64))), .second, .val (.int (Int32.ofNat (own_pos (q + (1 : Int64)) k)))]) rfl (XS.aloadN X4.here hx rfl (hb hby d6_54) rfl rfl kq))) ?_
  obtain ⟨T5, X5, e5, st5⟩ := getF X4 hx hZ hown (host := "") (Or.inl (own_w hw 11 rfl)) Via.refl e4 F1 (g := (mkF m 55 #[.val (.ref a1), .val (.long q), .second, .val (.long (q + (1 : Int64))), .second, .val (.int (Int32.ofNat (own_pos (q + (1 : Int64)) k)))] [(.ref a1)])) rfl rfl (hb hby d6_55)
  refine own_to T5 (mkF m 63 #[.val (.ref a1), .val (.long q), .second, .val (.long (q + (1 : Int64))), .second, .val (.int (Int32.ofNat (own_pos (q + (1 : Int64)) k)))] [(.int (lcmpW (f (own_pos (q + (1 : Int64)) k)) (q + (1 : Int64))))]) (fun tq kq => st5 _ (XS.iload X5.here hx rfl (hb hby d6_58) rfl (X5.laload hx (j := (Int32.ofNat (own_pos (q + (1 : Int64)) k))) (v := (.long (f (own_pos (q + (1 : Int64)) k)))) (by rw [e5]; exact Ar1.1) (State.isArrayOf_alike hZ.alike Ar1.2.1) Ar1.2.2 hin1 hat1' (g := (mkF m 60 #[.val (.ref a1), .val (.long q), .second, .val (.long (q + (1 : Int64))), .second, .val (.int (Int32.ofNat (own_pos (q + (1 : Int64)) k)))] [(.int (Int32.ofNat (own_pos (q + (1 : Int64)) k))), (.ref pl)])) rfl rfl (hb hby d6_60) _ (XS.lloadN X5.here hx rfl (hb hby d6_61) rfl (XS.lcmp X5.here hx rfl (hb hby d6_62) rfl kq))))) ?_
  by_cases c63 : (f (own_pos (q + (1 : Int64)) k)) = (q + (1 : Int64))
  · skip
    refine own_to T5 (mkF m 85 #[.val (.ref a1), .val (.long q), .second, .val (.long (q + (1 : Int64))), .second, .val (.int (Int32.ofNat (own_pos (q + (1 : Int64)) k)))] [(.ref a1)]) (fun tq kq => XS.ifYes X5.here hx rfl (pc0 := 63) (pc' := 84) rfl (hb hby d6_63) rfl ((if0 _ _).trans (teq ((lw_eq (f (own_pos (q + (1 : Int64)) k)) (q + (1 : Int64))).mpr c63)).1) (by decide) (by decide) (XS.aloadN X5.here hx rfl (hb hby d6_84) rfl rfl kq)) ?_
    obtain ⟨T6, X6, e6, st6⟩ := getF X5 hx hZ hown (host := "") (Or.inl (own_w hw 13 rfl)) Via.refl e5 F2 (g := (mkF m 85 #[.val (.ref a1), .val (.long q), .second, .val (.long (q + (1 : Int64))), .second, .val (.int (Int32.ofNat (own_pos (q + (1 : Int64)) k)))] [(.ref a1)])) rfl rfl (hb hby d6_85)
    refine own_to T6 (mkF m 95 #[.val (.ref a1), .val (.long q), .second, .val (.long (q + (1 : Int64))), .second, .val (.int (Int32.ofNat (own_pos (q + (1 : Int64)) k)))] [(.long (q + (1 : Int64))), (.int (((q + (1 : Int64)).toInt32) &&& (1023 : Int32))), (.ref rc)]) (fun tq kq => st6 _ (XS.lloadN X6.here hx rfl (hb hby d6_88) rfl (XS.l2i X6.here hx rfl (hb hby d6_89) rfl (XS.sipush X6.here hx rfl (hb hby d6_90) (XS.iand X6.here hx rfl (hb hby d6_93) rfl (XS.lloadN X6.here hx rfl (hb hby d6_94) rfl kq)))))) ?_
    obtain ⟨co8, Aro8, hszo8, hato8⟩ := id A2
    obtain ⟨T7, h7, X7, e7, W7, st7⟩ := stJ X6 hx hZ e6 Aro8 (j := (((q + (1 : Int64)).toInt32) &&& (1023 : Int32))) (by rw [hszo8]; exact own_ix _) (g := (mkF m 95 #[.val (.ref a1), .val (.long q), .second, .val (.long (q + (1 : Int64))), .second, .val (.int (Int32.ofNat (own_pos (q + (1 : Int64)) k)))] [(.long (q + (1 : Int64))), (.int (((q + (1 : Int64)).toInt32) &&& (1023 : Int32))), (.ref rc)])) rfl rfl (hb hby d6_95)
    have f9 := E1.wr W7
    have f10 := F1.other W7 (Or.inl ne_a1_rc)
    have f11 := F2.other W7 (Or.inl ne_a1_rc)
    have f12 := F3.other W7 (Or.inl ne_a1_rc)
    have f13 := A1.other W7 ne_pl_rc
    have N7 := Fr.snoc X7 N4 g_rc
    have Zs7 : n0 ≤ h7.size := by rw [W7.size]; exact Z0
    have K7 := K0.wr W7 (Or.inl (List.mem_of_getElem? (i := 2) rfl))
    have V7 := LArr.set Aro8 hszo8 hato8 W7 rfl
    refine own_to T7 (mkF m 96 #[.val (.ref a1), .val (.long q), .second, .val (.long (q + (1 : Int64))), .second, .val (.int (Int32.ofNat (own_pos (q + (1 : Int64)) k)))] []) (fun tq kq => st7 _ kq) ?_
    exact own_retV X7 hx hret hlk (hb hby d6_96) (by decide) (by decide) (by rw [e7]; exact ⟨rfl, N7, K7, f9, f10, f11, ⟨_, f12, Or.inl rfl⟩, _, _, own_add I hk (own_p1 hq) _, (LArr.eq f13 (own_updId c63)), V7⟩)
  · skip
    refine own_to T5 (mkF m 67 #[.val (.ref a1), .val (.long q), .second, .val (.long (q + (1 : Int64))), .second, .val (.int (Int32.ofNat (own_pos (q + (1 : Int64)) k)))] [(.ref a1)]) (fun tq kq => XS.ifNo X5.here hx rfl (hb hby d6_63) rfl ((if0 _ _).trans (feq (mt (lw_eq (f (own_pos (q + (1 : Int64)) k)) (q + (1 : Int64))).mp c63)).1) (XS.aloadN X5.here hx rfl (hb hby d6_66) rfl rfl kq)) ?_
    obtain ⟨T14, X14, e14, st14⟩ := getF X5 hx hZ hown (host := "") (Or.inl (own_w hw 11 rfl)) Via.refl e5 F1 (g := (mkF m 67 #[.val (.ref a1), .val (.long q), .second, .val (.long (q + (1 : Int64))), .second, .val (.int (Int32.ofNat (own_pos (q + (1 : Int64)) k)))] [(.ref a1)])) rfl rfl (hb hby d6_67)
    refine own_to T14 (mkF m 73 #[.val (.ref a1), .val (.long q), .second, .val (.long (q + (1 : Int64))), .second, .val (.int (Int32.ofNat (own_pos (q + (1 : Int64)) k)))] [(.long (q + (1 : Int64))), (.int (Int32.ofNat (own_pos (q + (1 : Int64)) k))), (.ref pl)]) (fun tq kq => st14 _ (XS.iload X14.here hx rfl (hb hby d6_70) rfl (XS.lloadN X14.here hx rfl (hb hby d6_72) rfl kq))) ?_
    obtain ⟨co16, Aro16, hszo16, hato16⟩ := id A1
    obtain ⟨T15, h15, X15, e15, W15, st15⟩ := stJ X14 hx hZ e14 Aro16 (j := (Int32.ofNat (own_pos (q + (1 : Int64)) k))) (by rw [hszo16]; exact within rfl hpl (by decide)) (g := (mkF m 73 #[.val (.ref a1), .val (.long q), .second, .val (.long (q + (1 : Int64))), .second, .val (.int (Int32.ofNat (own_pos (q + (1 : Int64)) k)))] [(.long (q + (1 : Int64))), (.int (Int32.ofNat (own_pos (q + (1 : Int64)) k))), (.ref pl)])) rfl rfl (hb hby d6_73)
    have f17 := E1.wr W15
    have f18 := F1.other W15 (Or.inl ne_a1_pl)
    have f19 := F2.other W15 (Or.inl ne_a1_pl)
    have f20 := F3.other W15 (Or.inl ne_a1_pl)
    have f21 := A2.other W15 (Ne.symm ne_pl_rc)
    have N15 := Fr.snoc X15 N4 g_pl
    have Zs15 : n0 ≤ h15.size := by rw [W15.size]; exact Z0
    have K15 := K0.wr W15 (Or.inl (List.mem_of_getElem? (i := 1) rfl))
    have V15 := LArr.set Aro16 hszo16 hato16 W15 (clamp_of rfl (by omega) : (Int32.ofNat (own_pos (q + (1 : Int64)) k)).toNatClampNeg = (own_pos (q + (1 : Int64)) k))
    refine own_to T15 (mkF m 76 #[.val (.ref a1), .val (.long q), .second, .val (.long (q + (1 : Int64))), .second, .val (.int (Int32.ofNat (own_pos (q + (1 : Int64)) k)))] [(.ref a1), (.ref a1)]) (fun tq kq => st15 _ (XS.aloadN X15.here hx rfl (hb hby d6_74) rfl rfl (XS.dup X15.here hx rfl (hb hby d6_75) rfl rfl kq))) ?_
    obtain ⟨T22, X22, e22, st22⟩ := getF X15 hx hZ hown (host := "") (Or.inl (own_w hw 36 rfl)) Via.refl e15 f20 (g := (mkF m 76 #[.val (.ref a1), .val (.long q), .second, .val (.long (q + (1 : Int64))), .second, .val (.int (Int32.ofNat (own_pos (q + (1 : Int64)) k)))] [(.ref a1), (.ref a1)])) rfl rfl (hb hby d6_76)
    refine own_to T22 (mkF m 81 #[.val (.ref a1), .val (.long q), .second, .val (.long (q + (1 : Int64))), .second, .val (.int (Int32.ofNat (own_pos (q + (1 : Int64)) k)))] [(.int (sz + (1 : Int32))), (.ref a1)]) (fun tq kq => st22 _ (XS.iconst X22.here hx rfl (hb hby d6_79) (XS.iadd X22.here hx rfl (hb hby d6_80) rfl kq))) ?_
    obtain ⟨T23, h23, X23, e23, W23, st23⟩ := putF X22 hx hZ hown (host := "") (Or.inl (own_w hw 36 rfl)) Via.refl e22 f20 f17 (Or.inl (own_w hw 37 rfl)) (own_w hw 2 rfl) (ty := .int) (by decide) rfl rfl (g := (mkF m 81 #[.val (.ref a1), .val (.long q), .second, .val (.long (q + (1 : Int64))), .second, .val (.int (Int32.ofNat (own_pos (q + (1 : Int64)) k)))] [(.int (sz + (1 : Int32))), (.ref a1)])) rfl rfl (hb hby d6_81)
    have f24 := f17.wr W23
    have f25 := f18.other W23 (Or.inr (sn_places_size hw))
    have f26 := f19.other W23 (Or.inr (sn_recent_size hw))
    have f27 := f21.other W23 (Ne.symm ne_a1_rc)
    have f28 := V15.other W23 (Ne.symm ne_a1_pl)
    have f29 := f20.same W23
    have N23 := Fr.snoc X23 N15 g_a1
    have Zs23 : n0 ≤ h23.size := by rw [W23.size]; exact Zs15
    have K23 := K15.wr W23 (Or.inl (List.mem_of_getElem? (i := 0) rfl))
    refine own_to T23 (mkF m 85 #[.val (.ref a1), .val (.long q), .second, .val (.long (q + (1 : Int64))), .second, .val (.int (Int32.ofNat (own_pos (q + (1 : Int64)) k)))] [(.ref a1)]) (fun tq kq => st23 _ (XS.aloadN X23.here hx rfl (hb hby d6_84) rfl rfl kq)) ?_
    obtain ⟨T30, X30, e30, st30⟩ := getF X23 hx hZ hown (host := "") (Or.inl (own_w hw 13 rfl)) Via.refl e23 f26 (g := (mkF m 85 #[.val (.ref a1), .val (.long q), .second, .val (.long (q + (1 : Int64))), .second, .val (.int (Int32.ofNat (own_pos (q + (1 : Int64)) k)))] [(.ref a1)])) rfl rfl (hb hby d6_85)
    refine own_to T30 (mkF m 95 #[.val (.ref a1), .val (.long q), .second, .val (.long (q + (1 : Int64))), .second, .val (.int (Int32.ofNat (own_pos (q + (1 : Int64)) k)))] [(.long (q + (1 : Int64))), (.int (((q + (1 : Int64)).toInt32) &&& (1023 : Int32))), (.ref rc)]) (fun tq kq => st30 _ (XS.lloadN X30.here hx rfl (hb hby d6_88) rfl (XS.l2i X30.here hx rfl (hb hby d6_89) rfl (XS.sipush X30.here hx rfl (hb hby d6_90) (XS.iand X30.here hx rfl (hb hby d6_93) rfl (XS.lloadN X30.here hx rfl (hb hby d6_94) rfl kq)))))) ?_
    obtain ⟨co32, Aro32, hszo32, hato32⟩ := id f27
    obtain ⟨T31, h31, X31, e31, W31, st31⟩ := stJ X30 hx hZ e30 Aro32 (j := (((q + (1 : Int64)).toInt32) &&& (1023 : Int32))) (by rw [hszo32]; exact own_ix _) (g := (mkF m 95 #[.val (.ref a1), .val (.long q), .second, .val (.long (q + (1 : Int64))), .second, .val (.int (Int32.ofNat (own_pos (q + (1 : Int64)) k)))] [(.long (q + (1 : Int64))), (.int (((q + (1 : Int64)).toInt32) &&& (1023 : Int32))), (.ref rc)])) rfl rfl (hb hby d6_95)
    have f33 := f24.wr W31
    have f34 := f25.other W31 (Or.inl ne_a1_rc)
    have f35 := f26.other W31 (Or.inl ne_a1_rc)
    have f36 := f29.other W31 (Or.inl ne_a1_rc)
    have f37 := f28.other W31 ne_pl_rc
    have N31 := Fr.snoc X31 N23 g_rc
    have Zs31 : n0 ≤ h31.size := by rw [W31.size]; exact Zs23
    have K31 := K23.wr W31 (Or.inl (List.mem_of_getElem? (i := 2) rfl))
    have V31 := LArr.set Aro32 hszo32 hato32 W31 rfl
    refine own_to T31 (mkF m 96 #[.val (.ref a1), .val (.long q), .second, .val (.long (q + (1 : Int64))), .second, .val (.int (Int32.ofNat (own_pos (q + (1 : Int64)) k)))] []) (fun tq kq => st31 _ kq) ?_
    exact own_retV X31 hx hret hlk (hb hby d6_96) (by decide) (by decide) (by rw [e31]; exact ⟨rfl, N31, K31, f33, f34, f35, ⟨_, f36, Or.inr rfl⟩, _, _, own_add I hk (own_p1 hq) _, f37, V31⟩)
theorem d1_0 : decode prog_27_method_1_code 0 = .ok (.aload_n 0, 1) := by decide +kernel
theorem d1_1 : decode prog_27_method_1_code 1 = .ok (.invokespecial 1, 3) := by decide +kernel
theorem d1_4 : decode prog_27_method_1_code 4 = .ok (.aload_n 0, 1) := by decide +kernel
theorem d1_5 : decode prog_27_method_1_code 5 = .ok (.sipush 16384, 3) := by decide +kernel
theorem d1_8 : decode prog_27_method_1_code 8 = .ok (.newarray .long, 2) := by decide +kernel
theorem d1_10 : decode prog_27_method_1_code 10 = .ok (.putfield 7, 3) := by decide +kernel
theorem d1_13 : decode prog_27_method_1_code 13 = .ok (.aload_n 0, 1) := by decide +kernel
theorem d1_14 : decode prog_27_method_1_code 14 = .ok (.sipush 1024, 3) := by decide +kernel
theorem d1_17 : decode prog_27_method_1_code 17 = .ok (.newarray .long, 2) := by decide +kernel
theorem d1_19 : decode prog_27_method_1_code 19 = .ok (.putfield 13, 3) := by decide +kernel
theorem d1_22 : decode prog_27_method_1_code 22 = .ok (.return_, 1) := by decide +kernel
theorem ef_1_R (m : MethodId) (x0 : Addr) : entryFrame m #[(.ref x0)] 1 = mkF m 0 #[.val (.ref x0)] [] := by first | (simp [entryFrame, mkF, argsToLocals, Value.category]; done) | rfl
def Q_rmI (Z : State) (a1 : Addr) (h0 : Heap) (n0 : Nat) (v : Option Value) (h : Heap) (L : List Loc) : Prop := v = none ∧ Fr n0 L ∧ Keep h0 h [a1] ∧ Exa Z h a1 "kehai/LongSet" ∧ ∃ pl rc, n0 ≤ pl ∧ n0 ≤ rc ∧ a1 ≠ pl ∧ a1 ≠ rc ∧ pl ≠ rc ∧ Fld Z h a1 "kehai/LongSet" "places" "[J" (.ref pl) ∧ Fld Z h a1 "kehai/LongSet" "recent" "[J" (.ref rc) ∧ Fld Z h a1 "kehai/LongSet" "size" "I" (.int (0 : Int32)) ∧ LArr Z h pl 16384 (fun _ => 0) ∧ LArr Z h rc 1024 (fun _ => 0)
theorem sn_recent_places {Z : State} {a0 : Array Value} (hw : ∀ d ∈ tables_1, d.before a0 Z = true) : Jvm.RoadKit.slotOf Z "kehai/LongSet" "recent" "[J" ≠ Jvm.RoadKit.slotOf Z "kehai/LongSet" "places" "[J" := Jvm.RoadKit.slot_ne (a0 := a0) (Or.inr (own_w hw 14 rfl)) (Or.inl (own_w hw 12 rfl)) (by decide) (t := (.array .long)) (t' := (.array .long)) (by decide) (by decide)
theorem sn_size_places {Z : State} {a0 : Array Value} (hw : ∀ d ∈ tables_1, d.before a0 Z = true) : Jvm.RoadKit.slotOf Z "kehai/LongSet" "size" "I" ≠ Jvm.RoadKit.slotOf Z "kehai/LongSet" "places" "[J" := Jvm.RoadKit.slot_ne (a0 := a0) (Or.inl (own_w hw 37 rfl)) (Or.inl (own_w hw 12 rfl)) (by decide) (t := .int) (t' := (.array .long)) (by decide) (by decide)
theorem sn_places_recent {Z : State} {a0 : Array Value} (hw : ∀ d ∈ tables_1, d.before a0 Z = true) : Jvm.RoadKit.slotOf Z "kehai/LongSet" "places" "[J" ≠ Jvm.RoadKit.slotOf Z "kehai/LongSet" "recent" "[J" := Jvm.RoadKit.slot_ne (a0 := a0) (Or.inl (own_w hw 12 rfl)) (Or.inr (own_w hw 14 rfl)) (by decide) (t := (.array .long)) (t' := (.array .long)) (by decide) (by decide)
theorem sn_size_recent {Z : State} {a0 : Array Value} (hw : ∀ d ∈ tables_1, d.before a0 Z = true) : Jvm.RoadKit.slotOf Z "kehai/LongSet" "size" "I" ≠ Jvm.RoadKit.slotOf Z "kehai/LongSet" "recent" "[J" := Jvm.RoadKit.slot_ne (a0 := a0) (Or.inl (own_w hw 37 rfl)) (Or.inr (own_w hw 14 rfl)) (by decide) (t := .int) (t' := (.array .long)) (by decide) (by decide)
set_option maxRecDepth 65536 in
set_option maxHeartbeats 40000000 in
theorem rmI (l : Launch) (Z : State) (a0 : Array Value) (hw : ∀ d ∈ tables_1, d.before a0 Z = true) (ws : List Jvm.Cond) (a1 : Addr) (h0 : Heap) (n0 : Nat) (Z0 : n0 ≤ h0.size) (E1 : Exa Z h0 a1 "kehai/LongSet") (F1 : Fld Z h0 a1 "kehai/LongSet" "places" "[J" .null) (F2 : Fld Z h0 a1 "kehai/LongSet" "recent" "[J" .null) (F3 : Fld Z h0 a1 "kehai/LongSet" "size" "I" (.int (0 : Int32))) (g_a1 : n0 ≤ a1) :
    MetFree l (⟨"kehai/LongSet", "<init>", "()V"⟩ : MethodName) (head1 (Jvm.Cond.code (⟨"kehai/LongSet", "<init>", "()V"⟩ : MethodName) prog_27_method_1_code 1 none :: ws) ({ frames := 1, cells := 2, slots := 17408, locals := 12 } : Room)) (fun a U => a = #[(.ref a1)] ∧ Z.Warmed39 U.vm ∧ U.heap = h0) (fun _ _ _ _ _ => True) (fun _ U o U' => ∃ v L, o = .returned v ∧ Q_rmI Z a1 h0 n0 v U'.heap L ∧ FrameEnd U o U' L ({ frames := 1, cells := 2, slots := 17408, locals := 12 } : Room).cells ({ frames := 1, cells := 2, slots := 17408, locals := 12 } : Room).slots) := by
  refine own_met (y := (⟨"kehai/LongSet", "<init>", "()V"⟩ : MethodName)) (Q := (Q_rmI Z a1 h0 n0)) (plainFor_of_name pn_4) fun p e s m below meth c s₁ X0 hx hby hml hret hlk hown hnm hZ e0 => ?_
  refine own_entry (ef_1_R m a1) ?_
  have K0 := Keep.refl h0 [a1]
  refine own_to s₁ (mkF m 1 #[.val (.ref a1)] [(.ref a1)]) (fun tq kq => XS.aloadN X0.here hx rfl (hb hby d1_0) rfl rfl kq) ?_
  obtain ⟨T1, X1, e1, st1⟩ := initO X0 hx hZ hown (own_w hw 7 rfl) (own_w hw 8 rfl) (own_w hw 9 rfl) e0 (g := (mkF m 1 #[.val (.ref a1)] [(.ref a1)])) rfl (by rw [hml]; rfl) rfl (hb hby d1_1) (by decide) (W := 0) (by show 2 * 0 + _ ≤ _; exact Nat.le_of_eq rfl) (by decide)
  refine own_to T1 (mkF m 8 #[.val (.ref a1)] [(.int (16384 : Int32)), (.ref a1)]) (fun tq kq => st1 _ (XS.aloadN X1.here hx rfl (hb hby d1_4) rfl rfl (XS.sipush X1.here hx rfl (hb hby d1_5) kq))) ?_
  obtain ⟨T2, h2, k2, X2, e2, E2, A2, st2⟩ := newP X1 hx hZ (own_w hw 10 rfl) e1 (g := (mkF m 8 #[.val (.ref a1)] [(.int (16384 : Int32)), (.ref a1)])) rfl (hb hby d1_8) rfl (by decide) (cap := 16384) (by decide) (by decide) (by decide) (by decide)
  obtain ⟨b2, g2⟩ : ∃ z, z = h0.size := ⟨_, rfl⟩
  rw [← g2] at A2 st2
  have ne_a1_b2 : a1 ≠ b2 := Nat.ne_of_lt (Nat.lt_of_lt_of_le E1.lt (Nat.le_of_eq g2.symm))
  have f3 := E1.ext E2
  have f4 := F1.ext E2
  have f5 := F2.ext E2
  have f6 := F3.ext E2
  have sz2 : n0 ≤ b2 := Nat.le_trans Z0 (Nat.le_of_eq g2.symm)
  have hs2 : h0.size ≤ b2 := Nat.le_trans K0.1 (Nat.le_of_eq g2.symm)
  have Zs2 : n0 ≤ h2.size := Nat.le_trans Z0 E2.1
  have K2 := K0.ext E2
  have V2 : LArr Z h2 b2 16384 (fun _ => 0) := LArr.new A2 (by decide)
  refine own_to T2 (mkF m 10 #[.val (.ref a1)] [(.ref b2), (.ref a1)]) (fun tq kq => st2 _ kq) ?_
  obtain ⟨T7, h7, X7, e7, W7, st7⟩ := putF X2 hx hZ hown (host := "") (Or.inl (own_w hw 11 rfl)) Via.refl e2 f4 f3 (Or.inl (own_w hw 12 rfl)) (own_w hw 2 rfl) (ty := (.array .long)) (by decide) rfl rfl (g := (mkF m 10 #[.val (.ref a1)] [(.ref b2), (.ref a1)])) rfl rfl (hb hby d1_10)
  have f8 := f3.wr W7
  have f9 := f5.other W7 (Or.inr (sn_recent_places hw))
  have f10 := f6.other W7 (Or.inr (sn_size_places hw))
  have f11 := V2.other W7 (Ne.symm ne_a1_b2)
  have f12 := f4.same W7
  have N7 := Fr.snoc X7 (Fr.nil n0) g_a1
  have Zs7 : n0 ≤ h7.size := by rw [W7.size]; exact Zs2
  have K7 := K2.wr W7 (Or.inl (List.mem_of_getElem? (i := 0) rfl))
  refine own_to T7 (mkF m 17 #[.val (.ref a1)] [(.int (1024 : Int32)), (.ref a1)]) (fun tq kq => st7 _ (XS.aloadN X7.here hx rfl (hb hby d1_13) rfl rfl (XS.sipush X7.here hx rfl (hb hby d1_14) kq))) ?_
  obtain ⟨T13, h13, k13, X13, e13, E13, A13, st13⟩ := newP X7 hx hZ (own_w hw 10 rfl) e7 (g := (mkF m 17 #[.val (.ref a1)] [(.int (1024 : Int32)), (.ref a1)])) rfl (hb hby d1_17) rfl (by decide) (cap := 1024) (by decide) (by decide) (by decide) (by decide)
  obtain ⟨b13, g13⟩ : ∃ z, z = h7.size := ⟨_, rfl⟩
  rw [← g13] at A13 st13
  have ne_a1_b13 : a1 ≠ b13 := Nat.ne_of_lt (Nat.lt_of_lt_of_le f8.lt (Nat.le_of_eq g13.symm))
  have ne_b2_b13 : b2 ≠ b13 := Nat.ne_of_lt (Nat.lt_of_lt_of_le f11.lt (Nat.le_of_eq g13.symm))
  have f14 := f8.ext E13
  have f15 := f12.ext E13
  have f16 := f9.ext E13
  have f17 := f10.ext E13
  have f18 := f11.ext E13
  have sz13 : n0 ≤ b13 := Nat.le_trans Zs7 (Nat.le_of_eq g13.symm)
  have hs13 : h0.size ≤ b13 := Nat.le_trans K7.1 (Nat.le_of_eq g13.symm)
  have Zs13 : n0 ≤ h13.size := Nat.le_trans Zs7 E13.1
  have K13 := K7.ext E13
  have V13 : LArr Z h13 b13 1024 (fun _ => 0) := LArr.new A13 (by decide)
  refine own_to T13 (mkF m 19 #[.val (.ref a1)] [(.ref b13), (.ref a1)]) (fun tq kq => st13 _ kq) ?_
  obtain ⟨T19, h19, X19, e19, W19, st19⟩ := putF X13 hx hZ hown (host := "") (Or.inl (own_w hw 13 rfl)) Via.refl e13 f16 f14 (Or.inr ⟨(own_w hw 14 rfl), rfl, hnm⟩) (own_w hw 2 rfl) (ty := (.array .long)) (by decide) rfl rfl (g := (mkF m 19 #[.val (.ref a1)] [(.ref b13), (.ref a1)])) rfl rfl (hb hby d1_19)
  have f20 := f14.wr W19
  have f21 := f15.other W19 (Or.inr (sn_places_recent hw))
  have f22 := f17.other W19 (Or.inr (sn_size_recent hw))
  have f23 := f18.other W19 (Ne.symm ne_a1_b2)
  have f24 := V13.other W19 (Ne.symm ne_a1_b13)
  have f25 := f16.same W19
  have N19 := Fr.snoc X19 N7 g_a1
  have Zs19 : n0 ≤ h19.size := by rw [W19.size]; exact Zs13
  have K19 := K13.wr W19 (Or.inl (List.mem_of_getElem? (i := 0) rfl))
  refine own_to T19 (mkF m 22 #[.val (.ref a1)] []) (fun tq kq => st19 _ kq) ?_
  exact own_retV X19 hx hret hlk (hb hby d1_22) (by decide) (by decide) (by rw [e19]; exact ⟨rfl, N19, K19, f20, b2, b13, sz2, sz13, ne_a1_b2, ne_a1_b13, ne_b2_b13, f21, f25, f22, f23, f24⟩)
theorem d5_0 : decode method_2_code 0 = .ok (.lload_n 0, 1) := by decide +kernel
theorem d5_1 : decode method_2_code 1 = .ok (.lconst 0, 1) := by decide +kernel
theorem d5_2 : decode method_2_code 2 = .ok (.lcmp, 1) := by decide +kernel
theorem d5_3 : decode method_2_code 3 = .ok (.ifCond .ge 5, 3) := by decide +kernel
theorem d5_6 : decode method_2_code 6 = .ok (.iconst 0, 1) := by decide +kernel
theorem d5_7 : decode method_2_code 7 = .ok (.ireturn, 1) := by decide +kernel
theorem d5_8 : decode method_2_code 8 = .ok (.iload 6, 2) := by decide +kernel
theorem d5_10 : decode method_2_code 10 = .ok (.iconst 1, 1) := by decide +kernel
theorem d5_11 : decode method_2_code 11 = .ok (.if_icmp .lt 11, 3) := by decide +kernel
theorem d5_14 : decode method_2_code 14 = .ok (.lload_n 0, 1) := by decide +kernel
theorem d5_15 : decode method_2_code 15 = .ok (.lload_n 2, 1) := by decide +kernel
theorem d5_16 : decode method_2_code 16 = .ok (.lcmp, 1) := by decide +kernel
theorem d5_17 : decode method_2_code 17 = .ok (.ifCond .ne 5, 3) := by decide +kernel
theorem d5_20 : decode method_2_code 20 = .ok (.iconst 1, 1) := by decide +kernel
theorem d5_21 : decode method_2_code 21 = .ok (.ireturn, 1) := by decide +kernel
theorem d5_22 : decode method_2_code 22 = .ok (.iload 6, 2) := by decide +kernel
theorem d5_24 : decode method_2_code 24 = .ok (.iconst 2, 1) := by decide +kernel
theorem d5_25 : decode method_2_code 25 = .ok (.if_icmp .lt 14, 3) := by decide +kernel
theorem d5_28 : decode method_2_code 28 = .ok (.lload_n 0, 1) := by decide +kernel
theorem d5_29 : decode method_2_code 29 = .ok (.lload 4, 2) := by decide +kernel
theorem d5_31 : decode method_2_code 31 = .ok (.lcmp, 1) := by decide +kernel
theorem d5_32 : decode method_2_code 32 = .ok (.ifCond .ne 7, 3) := by decide +kernel
theorem d5_35 : decode method_2_code 35 = .ok (.iconst 1, 1) := by decide +kernel
theorem d5_36 : decode method_2_code 36 = .ok (.goto 4, 3) := by decide +kernel
theorem d5_39 : decode method_2_code 39 = .ok (.iconst 0, 1) := by decide +kernel
theorem d5_40 : decode method_2_code 40 = .ok (.ireturn, 1) := by decide +kernel
theorem pn_5 : plainName "kehai/LongSetContainsPinLaw" = true := by first | (simp [plainName, overriddenIn]; done) | decide +kernel
theorem ef_5_JJJI (m : MethodId) (x0 : Int64) (x1 : Int64) (x2 : Int64) (x3 : Int32) : entryFrame m #[(.long x0), (.long x1), (.long x2), (.int x3)] 7 = mkF m 0 #[.val (.long x0), .second, .val (.long x1), .second, .val (.long x2), .second, .val (.int x3)] [] := by first | (simp [entryFrame, mkF, argsToLocals, Value.category]; done) | rfl
def Q_rmE (Z : State) (q0 q1 q2 : Int64) (i3 : Int32) (h0 : Heap) (n0 : Nat) (v : Option Value) (h : Heap) (L : List Loc) : Prop := v = some (.int (own_exp q0 q1 q2 i3)) ∧ Fr n0 L ∧ h = h0
set_option maxRecDepth 65536 in
set_option maxHeartbeats 40000000 in
theorem rmE (l : Launch) (Z : State) (a0 : Array Value) (hw : ∀ d ∈ tables_1, d.before a0 Z = true) (ws : List Jvm.Cond) (q0 q1 q2 : Int64) (i3 : Int32) (h0 : Heap) (n0 : Nat) (Z0 : n0 ≤ h0.size)  :
    MetFree l (⟨"kehai/LongSetContainsPinLaw", "expect", "(JJJI)Z"⟩ : MethodName) (head1 (Jvm.Cond.code (⟨"kehai/LongSetContainsPinLaw", "expect", "(JJJI)Z"⟩ : MethodName) method_2_code 7 (some .boolean) :: ws) ({ frames := 0, cells := 0, slots := 0, locals := 0 } : Room)) (fun a U => a = #[(.long q0), (.long q1), (.long q2), (.int i3)] ∧ Z.Warmed39 U.vm ∧ U.heap = h0) (fun _ _ _ _ _ => True) (fun _ U o U' => ∃ v L, o = .returned v ∧ Q_rmE Z q0 q1 q2 i3 h0 n0 v U'.heap L ∧ FrameEnd U o U' L ({ frames := 0, cells := 0, slots := 0, locals := 0 } : Room).cells ({ frames := 0, cells := 0, slots := 0, locals := 0 } : Room).slots) := by
  refine own_met (y := (⟨"kehai/LongSetContainsPinLaw", "expect", "(JJJI)Z"⟩ : MethodName)) (Q := (Q_rmE Z q0 q1 q2 i3 h0 n0)) (plainFor_of_name pn_5) fun p e s m below meth c s₁ X0 hx hby hml hret hlk hown hnm hZ e0 => ?_
  refine own_entry (ef_5_JJJI m q0 q1 q2 i3) ?_
  refine own_to s₁ (mkF m 3 #[.val (.long q0), .second, .val (.long q1), .second, .val (.long q2), .second, .val (.int i3)] [(.int (lcmpW q0 (0 : Int64)))]) (fun tq kq => XS.lloadN X0.here hx rfl (hb hby d5_0) rfl (XS.lconst X0.here hx rfl (hb hby d5_1) (XS.lcmp X0.here hx rfl (hb hby d5_2) rfl kq))) ?_
  by_cases c3 : q0 < (0 : Int64)
  · skip
    refine own_to s₁ (mkF m 7 #[.val (.long q0), .second, .val (.long q1), .second, .val (.long q2), .second, .val (.int i3)] [(.int (0 : Int32))]) (fun tq kq => XS.ifNo X0.here hx rfl (hb hby d5_3) rfl ((if0 _ _).trans (tlt ((lw_lt q0 (0 : Int64)).mpr c3)).2.1) (XS.iconst X0.here hx rfl (hb hby d5_6) kq)) ?_
    exact own_retZ X0 hx hret hlk (hb hby d5_7) (by decide) (by decide) (Or.inl rfl) ⟨congrArg (fun z => some (Value.int z)) (show own_exp q0 q1 q2 i3 = (0 : Int32) from if_pos c3).symm, (Fr.nil n0), e0⟩
  · skip
    refine own_to s₁ (mkF m 11 #[.val (.long q0), .second, .val (.long q1), .second, .val (.long q2), .second, .val (.int i3)] [(.int (1 : Int32)), (.int i3)]) (fun tq kq => XS.ifYes X0.here hx rfl (pc0 := 3) (pc' := 8) rfl (hb hby d5_3) rfl ((if0 _ _).trans (flt (mt (lw_lt q0 (0 : Int64)).mp c3)).2.1) (by decide) (by decide) (XS.iload X0.here hx rfl (hb hby d5_8) rfl (XS.iconst X0.here hx rfl (hb hby d5_10) kq))) ?_
    by_cases c11 : i3 < (1 : Int32)
    · skip
      refine own_to s₁ (mkF m 25 #[.val (.long q0), .second, .val (.long q1), .second, .val (.long q2), .second, .val (.int i3)] [(.int (2 : Int32)), (.int i3)]) (fun tq kq => XS.icmpYes X0.here hx rfl (pc0 := 11) (pc' := 22) rfl (hb hby d5_11) rfl (tlt c11).1 (by decide) (by decide) (XS.iload X0.here hx rfl (hb hby d5_22) rfl (XS.iconst X0.here hx rfl (hb hby d5_24) kq))) ?_
      by_cases c25 : i3 < (2 : Int32)
      · skip
        refine own_to s₁ (mkF m 40 #[.val (.long q0), .second, .val (.long q1), .second, .val (.long q2), .second, .val (.int i3)] [(.int (0 : Int32))]) (fun tq kq => XS.icmpYes X0.here hx rfl (pc0 := 25) (pc' := 39) rfl (hb hby d5_25) rfl (tlt c25).1 (by decide) (by decide) (XS.iconst X0.here hx rfl (hb hby d5_39) kq)) ?_
        exact own_retZ X0 hx hret hlk (hb hby d5_40) (by decide) (by decide) (Or.inl rfl) ⟨congrArg (fun z => some (Value.int z)) (show own_exp q0 q1 q2 i3 = (0 : Int32) from (if_neg c3).trans ((if_neg fun z => z.1 c11).trans (if_neg fun z => z.1 c25))).symm, (Fr.nil n0), e0⟩
      · skip
        refine own_to s₁ (mkF m 32 #[.val (.long q0), .second, .val (.long q1), .second, .val (.long q2), .second, .val (.int i3)] [(.int (lcmpW q0 q2))]) (fun tq kq => XS.icmpNo X0.here hx rfl (hb hby d5_25) rfl (flt c25).1 (XS.lloadN X0.here hx rfl (hb hby d5_28) rfl (XS.lload X0.here hx rfl (hb hby d5_29) rfl (XS.lcmp X0.here hx rfl (hb hby d5_31) rfl kq)))) ?_
        by_cases c32 : q0 = q2
        · skip
          refine own_to s₁ (mkF m 40 #[.val (.long q0), .second, .val (.long q1), .second, .val (.long q2), .second, .val (.int i3)] [(.int (1 : Int32))]) (fun tq kq => XS.ifNo X0.here hx rfl (hb hby d5_32) rfl ((if0 _ _).trans (teq ((lw_eq q0 q2).mpr c32)).2) (XS.iconst X0.here hx rfl (hb hby d5_35) (XS.goto X0.here hx rfl (pc0 := 36) (pc' := 40) rfl (hb hby d5_36) (by decide) (by decide) kq))) ?_
          exact own_retZ X0 hx hret hlk (hb hby d5_40) (by decide) (by decide) (Or.inr rfl) ⟨congrArg (fun z => some (Value.int z)) (show own_exp q0 q1 q2 i3 = (1 : Int32) from (if_neg c3).trans ((if_neg fun z => z.1 c11).trans (if_pos ⟨c25, c32⟩))).symm, (Fr.nil n0), e0⟩
        · skip
          refine own_to s₁ (mkF m 40 #[.val (.long q0), .second, .val (.long q1), .second, .val (.long q2), .second, .val (.int i3)] [(.int (0 : Int32))]) (fun tq kq => XS.ifYes X0.here hx rfl (pc0 := 32) (pc' := 39) rfl (hb hby d5_32) rfl ((if0 _ _).trans (feq (mt (lw_eq q0 q2).mp c32)).2) (by decide) (by decide) (XS.iconst X0.here hx rfl (hb hby d5_39) kq)) ?_
          exact own_retZ X0 hx hret hlk (hb hby d5_40) (by decide) (by decide) (Or.inl rfl) ⟨congrArg (fun z => some (Value.int z)) (show own_exp q0 q1 q2 i3 = (0 : Int32) from (if_neg c3).trans ((if_neg fun z => z.1 c11).trans (if_neg fun z => c32 z.2))).symm, (Fr.nil n0), e0⟩
    · skip
      refine own_to s₁ (mkF m 17 #[.val (.long q0), .second, .val (.long q1), .second, .val (.long q2), .second, .val (.int i3)] [(.int (lcmpW q0 q1))]) (fun tq kq => XS.icmpNo X0.here hx rfl (hb hby d5_11) rfl (flt c11).1 (XS.lloadN X0.here hx rfl (hb hby d5_14) rfl (XS.lloadN X0.here hx rfl (hb hby d5_15) rfl (XS.lcmp X0.here hx rfl (hb hby d5_16) rfl kq)))) ?_
      by_cases c17 : q0 = q1
      · skip
        refine own_to s₁ (mkF m 21 #[.val (.long q0), .second, .val (.long q1), .second, .val (.long q2), .second, .val (.int i3)] [(.int (1 : Int32))]) (fun tq kq => XS.ifNo X0.here hx rfl (hb hby d5_17) rfl ((if0 _ _).trans (teq ((lw_eq q0 q1).mpr c17)).2) (XS.iconst X0.here hx rfl (hb hby d5_20) kq)) ?_
        exact own_retZ X0 hx hret hlk (hb hby d5_21) (by decide) (by decide) (Or.inr rfl) ⟨congrArg (fun z => some (Value.int z)) (show own_exp q0 q1 q2 i3 = (1 : Int32) from (if_neg c3).trans (if_pos ⟨c11, c17⟩)).symm, (Fr.nil n0), e0⟩
      · skip
        refine own_to s₁ (mkF m 25 #[.val (.long q0), .second, .val (.long q1), .second, .val (.long q2), .second, .val (.int i3)] [(.int (2 : Int32)), (.int i3)]) (fun tq kq => XS.ifYes X0.here hx rfl (pc0 := 17) (pc' := 22) rfl (hb hby d5_17) rfl ((if0 _ _).trans (feq (mt (lw_eq q0 q1).mp c17)).2) (by decide) (by decide) (XS.iload X0.here hx rfl (hb hby d5_22) rfl (XS.iconst X0.here hx rfl (hb hby d5_24) kq))) ?_
        by_cases c25 : i3 < (2 : Int32)
        · skip
          refine own_to s₁ (mkF m 40 #[.val (.long q0), .second, .val (.long q1), .second, .val (.long q2), .second, .val (.int i3)] [(.int (0 : Int32))]) (fun tq kq => XS.icmpYes X0.here hx rfl (pc0 := 25) (pc' := 39) rfl (hb hby d5_25) rfl (tlt c25).1 (by decide) (by decide) (XS.iconst X0.here hx rfl (hb hby d5_39) kq)) ?_
          exact own_retZ X0 hx hret hlk (hb hby d5_40) (by decide) (by decide) (Or.inl rfl) ⟨congrArg (fun z => some (Value.int z)) (show own_exp q0 q1 q2 i3 = (0 : Int32) from (if_neg c3).trans ((if_neg fun z => c17 z.2).trans (if_neg fun z => z.1 c25))).symm, (Fr.nil n0), e0⟩
        · skip
          refine own_to s₁ (mkF m 32 #[.val (.long q0), .second, .val (.long q1), .second, .val (.long q2), .second, .val (.int i3)] [(.int (lcmpW q0 q2))]) (fun tq kq => XS.icmpNo X0.here hx rfl (hb hby d5_25) rfl (flt c25).1 (XS.lloadN X0.here hx rfl (hb hby d5_28) rfl (XS.lload X0.here hx rfl (hb hby d5_29) rfl (XS.lcmp X0.here hx rfl (hb hby d5_31) rfl kq)))) ?_
          by_cases c32 : q0 = q2
          · skip
            refine own_to s₁ (mkF m 40 #[.val (.long q0), .second, .val (.long q1), .second, .val (.long q2), .second, .val (.int i3)] [(.int (1 : Int32))]) (fun tq kq => XS.ifNo X0.here hx rfl (hb hby d5_32) rfl ((if0 _ _).trans (teq ((lw_eq q0 q2).mpr c32)).2) (XS.iconst X0.here hx rfl (hb hby d5_35) (XS.goto X0.here hx rfl (pc0 := 36) (pc' := 40) rfl (hb hby d5_36) (by decide) (by decide) kq))) ?_
            exact own_retZ X0 hx hret hlk (hb hby d5_40) (by decide) (by decide) (Or.inr rfl) ⟨congrArg (fun z => some (Value.int z)) (show own_exp q0 q1 q2 i3 = (1 : Int32) from (if_neg c3).trans ((if_neg fun z => c17 z.2).trans (if_pos ⟨c25, c32⟩))).symm, (Fr.nil n0), e0⟩
          · skip
            refine own_to s₁ (mkF m 40 #[.val (.long q0), .second, .val (.long q1), .second, .val (.long q2), .second, .val (.int i3)] [(.int (0 : Int32))]) (fun tq kq => XS.ifYes X0.here hx rfl (pc0 := 32) (pc' := 39) rfl (hb hby d5_32) rfl ((if0 _ _).trans (feq (mt (lw_eq q0 q2).mp c32)).2) (by decide) (by decide) (XS.iconst X0.here hx rfl (hb hby d5_39) kq)) ?_
            exact own_retZ X0 hx hret hlk (hb hby d5_40) (by decide) (by decide) (Or.inl rfl) ⟨congrArg (fun z => some (Value.int z)) (show own_exp q0 q1 q2 i3 = (0 : Int32) from (if_neg c3).trans ((if_neg fun z => c17 z.2).trans (if_neg fun z => c32 z.2))).symm, (Fr.nil n0), e0⟩
theorem own_pp {x : Int64} (h : ¬ x < (0 : Int64)) : 0 ≤ x.toInt := by
  rw [Int64.lt_iff_toInt_lt] at h
  have z : (0 : Int64).toInt = 0 := by decide
  omega
theorem own_nn {x : Int64} (h : 0 ≤ x.toInt) : ¬ x < (0 : Int64) := by
  rw [Int64.lt_iff_toInt_lt]
  have z : (0 : Int64).toInt = 0 := by decide
  omega
theorem own_mask (x : Int64) : ¬ (x &&& (9223372036854775807 : Int64)) < (0 : Int64) := own_nn ((c_andSL x _).2.2 (by decide))
theorem ef_0_JJJI (m : MethodId) (x0 : Int64) (x1 : Int64) (x2 : Int64) (x3 : Int32) : entryFrame m #[(.long x0), (.long x1), (.long x2), (.int x3)] maxLocals = mkF m 0 #[.val (.long x0), .second, .val (.long x1), .second, .val (.long x2), .second, .val (.int x3), .unset, .unset, .unset, .unset, .unset, .unset, .unset, .unset, .unset, .unset, .unset, .unset, .unset, .unset] [] := by first | (simp [entryFrame, mkF, argsToLocals, Value.category, maxLocals]; done) | rfl
def Q_rm0 (Z : State) (q0 q1 q2 : Int64) (i3 : Int32) (h0 : Heap) (n0 : Nat) (v : Option Value) (h : Heap) (L : List Loc) : Prop := v = some (.int 1) ∧ Fr n0 L
theorem pd_0 : parseMethodDescriptor "()V" = some ⟨[], none⟩ := by decide +kernel
theorem pd_1 : parseMethodDescriptor "(J)Z" = some ⟨[.long], some .boolean⟩ := by decide +kernel
theorem pd_3 : parseMethodDescriptor "(JJJI)Z" = some ⟨[.long, .long, .long, .int], some .boolean⟩ := by decide +kernel
theorem pd_4 : parseMethodDescriptor "(J)V" = some ⟨[.long], none⟩ := by decide +kernel
set_option maxRecDepth 65536 in
set_option maxHeartbeats 40000000 in
theorem rm0 (l : Launch) (Z : State) (a0 : Array Value) (hw : ∀ d ∈ tables_1, d.before a0 Z = true) (ws : List Jvm.Cond) (q0 q1 q2 : Int64) (i3 : Int32) (h0 : Heap) (n0 : Nat) (Z0 : n0 ≤ h0.size)  :
    MetFree l x (head1 (Jvm.Cond.code x code maxLocals ret :: ws) room_1) (fun a U => a = #[(.long q0), (.long q1), (.long q2), (.int i3)] ∧ Z.Warmed39 U.vm ∧ U.heap = h0) (fun _ _ _ _ _ => True) (fun _ U o U' => ∃ v L, o = .returned v ∧ Q_rm0 Z q0 q1 q2 i3 h0 n0 v U'.heap L ∧ FrameEnd U o U' L room_1.cells room_1.slots) := by
  refine own_met (y := x) (Q := (Q_rm0 Z q0 q1 q2 i3 h0 n0)) (plainFor_of_name pn_5) fun p e s m below meth c s₁ X0 hx hby hml hret hlk hown hnm hZ e0 => ?_
  refine own_entry (ef_0_JJJI m q0 q1 q2 i3) ?_
  have J111 : ∀ (a7 b9 b11 q15 : Int64) (n13 s14 : Int32), ¬ a7 < (0 : Int64) → ¬ b11 < (0 : Int64) → (n13 = 0 ∨ n13 = 1 ∨ n13 = 2) → Own p e below s room_1.cells room_1.slots (Q_rm0 Z q0 q1 q2 i3 h0 n0) s₁ (mkF m 111 #[.val (.long q0), .second, .val (.long q1), .second, .val (.long q2), .second, .val (.int i3), .val (.long a7), .second, .val (.long b9), .second, .val (.long b11), .second, .val (.int n13), .val (.int s14), .val (.long q15), .second, .unset, .unset, .unset, .unset] []) := by
    intro a7 b9 b11 q15 n13 s14 ha1 hb1 hn1
    rcases hn1 with rfl | rfl | rfl
    · skip
      obtain ⟨T1, h1, X1, e1, E1, A1, D1, -, st1⟩ := newO X0 hx hZ hown (own_w hw 1 rfl) (own_w hw 2 rfl) (own_w hw 3 rfl) e0 (g := (mkF m 111 #[.val (.long q0), .second, .val (.long q1), .second, .val (.long q2), .second, .val (.int i3), .val (.long a7), .second, .val (.long b9), .second, .val (.long b11), .second, .val (.int (0 : Int32)), .val (.int s14), .val (.long q15), .second, .unset, .unset, .unset, .unset] [])) rfl (hb hby at_111) (by decide) (by decide)
      obtain ⟨b1, g1⟩ : ∃ z, z = h0.size := ⟨_, rfl⟩
      rw [← g1] at A1 D1 st1
      have sz1 : n0 ≤ b1 := Nat.le_trans Z0 (Nat.le_of_eq g1.symm)
      have Zs1 : n0 ≤ h1.size := Nat.le_trans Z0 E1.1
      have F1_places : Fld Z h1 b1 "kehai/LongSet" "places" "[J" .null := D1 (Or.inl (own_w hw 12 rfl)) (ty := (.array .long)) (by decide)
      have F1_recent : Fld Z h1 b1 "kehai/LongSet" "recent" "[J" .null := D1 (Or.inr (own_w hw 14 rfl)) (ty := (.array .long)) (by decide)
      have F1_size : Fld Z h1 b1 "kehai/LongSet" "size" "I" (.int (0 : Int32)) := D1 (Or.inl (own_w hw 37 rfl)) (ty := .int) (by decide)
      refine own_to T1 (mkF m 115 #[.val (.long q0), .second, .val (.long q1), .second, .val (.long q2), .second, .val (.int i3), .val (.long a7), .second, .val (.long b9), .second, .val (.long b11), .second, .val (.int (0 : Int32)), .val (.int s14), .val (.long q15), .second, .unset, .unset, .unset, .unset] [(.ref b1), (.ref b1)]) (fun tq kq => st1 _ (XS.dup X1.here hx rfl (hb hby at_114) rfl rfl kq)) ?_
      obtain ⟨_, _, ⟨T2, L2, k2, n2⟩, -, X2, ⟨Lc2, hQ2, l2, y2, z2⟩, st2⟩ := X1.specialBack hx (y := (⟨"kehai/LongSet", "<init>", "()V"⟩ : MethodName)) rfl hown (mvT hZ (own_w hw 4 rfl)) (mvT hZ (own_w hw 5 rfl)) (mvT hZ (own_w hw 6 rfl)) (by decide) (backOf (W := 1) (rmI l Z a0 hw [] b1 h1 n0 Zs1 A1 F1_places F1_recent F1_size sz1) hZ (own_w hw 6 rfl) (own_w hw 3 rfl) (by decide) (by decide)) (g := (mkF m 115 #[.val (.long q0), .second, .val (.long q1), .second, .val (.long q2), .second, .val (.int i3), .val (.long a7), .second, .val (.long b9), .second, .val (.long b11), .second, .val (.int (0 : Int32)), .val (.int s14), .val (.long q15), .second, .unset, .unset, .unset, .unset] [(.ref b1), (.ref b1)])) rfl (by rw [hml]; rfl) (Steps.refl _) (a := b1) (argsL := []) (rest := [(.ref b1)]) (lenOf pd_0 rfl) rfl (by show 2 * 0 + _ ≤ _; exact Nat.le_of_eq rfl) (hb hby at_115) (fun _ _ => ⟨rfl, e1, (by decide : 1 + 2 ≤ _), (by decide : 3 + 17408 ≤ _)⟩)
      dsimp only [Pt.U, Pt.locs, Pt.cells, Pt.slots] at X2 l2 y2 z2 st2 hQ2
      subst l2 y2 z2
      obtain ⟨rfl, N2q, K2q, E2q, pl2, rc2, gp2, gr2, na2, nb2, nc2, F2a, F2b, F2c, V2a, V2b⟩ := hQ2
      have N2 := Fr.app (Fr.nil n0) N2q
      have f3 := A1.keep K2q
      have Zs2 : n0 ≤ T2.heap.size := Nat.le_trans Zs1 K2q.1
      refine own_to T2 (mkF m 150 #[.val (.long q0), .second, .val (.long q1), .second, .val (.long q2), .second, .val (.int i3), .val (.long a7), .second, .val (.long b9), .second, .val (.long b11), .second, .val (.int (0 : Int32)), .val (.int s14), .val (.long q15), .second, .val (.ref b1), .unset, .unset, .unset] [(.long q15), (.ref b1)]) (fun tq kq => st2.trans (XS.astore X2.here hx rfl (hb hby at_118) rfl rfl (l' := #[.val (.long q0), .second, .val (.long q1), .second, .val (.long q2), .second, .val (.int i3), .val (.long a7), .second, .val (.long b9), .second, .val (.long b11), .second, .val (.int (0 : Int32)), .val (.int s14), .val (.long q15), .second, .val (.ref b1), .unset, .unset, .unset]) rfl (XS.iload X2.here hx rfl (hb hby at_120) rfl (XS.iconst X2.here hx rfl (hb hby at_122) (XS.icmpYes X2.here hx rfl (pc0 := 123) (pc' := 133) rfl (hb hby at_123) rfl (tlt (by decide : (0 : Int32) < (1 : Int32))).1 (by decide) (by decide) (XS.iload X2.here hx rfl (hb hby at_133) rfl (XS.iconst X2.here hx rfl (hb hby at_135) (XS.icmpYes X2.here hx rfl (pc0 := 136) (pc' := 146) rfl (hb hby at_136) rfl (tlt (by decide : (0 : Int32) < (2 : Int32))).1 (by decide) (by decide) (XS.aload X2.here hx rfl (hb hby at_146) rfl rfl (XS.lload X2.here hx rfl (hb hby at_148) rfl kq)))))))))) ?_
      obtain ⟨cq4, kq4, q4a, q4b, q4c⟩ := isOf hZ rfl E2q
      obtain ⟨_, _, ⟨T4, L4, k4, n4⟩, -, X4, ⟨Lc4, hQ4, l4, y4, z4⟩, st4⟩ := X2.virtualBack hx (y := (⟨"kehai/LongSet", "contains", "(J)Z"⟩ : MethodName)) (z := (⟨"kehai/LongSet", "contains", "(J)Z"⟩ : MethodName)) hown (mvT hZ (own_w hw 15 rfl)) (mvT hZ (own_w hw 16 rfl)) (notFace_of_selects (args := #[]) (mvT hZ (own_w hw 18 rfl))) (mvT hZ (own_w hw 18 rfl)) (mvT hZ (own_w hw 17 rfl)) (by decide) (backOf (W := 0) (rmC l Z a0 hw [] b1 q15 pl2 rc2 (fun _ => 0) (fun _ => 0) [] T2.heap n0 Zs2 F2a F2b V2a V2b own_inv0 (Nat.le_of_ble_eq_true rfl)) hZ (own_w hw 19 rfl) (own_w hw 3 rfl) (by decide) (by decide)) q4a q4c (g := (mkF m 150 #[.val (.long q0), .second, .val (.long q1), .second, .val (.long q2), .second, .val (.int i3), .val (.long a7), .second, .val (.long b9), .second, .val (.long b11), .second, .val (.int (0 : Int32)), .val (.int s14), .val (.long q15), .second, .val (.ref b1), .unset, .unset, .unset] [(.long q15), (.ref b1)])) rfl (by rw [hml]; rfl) (Steps.refl _) (argsL := [(.long q15)]) (rest := []) (lenOf pd_1 rfl) rfl (by show 2 * 0 + _ ≤ _; exact Nat.le_of_eq rfl) (hb hby at_150) (fun _ _ => ⟨rfl, rfl, (by decide : 3 + 0 ≤ _), (by decide : 17411 + 0 ≤ _)⟩)
      dsimp only [Pt.U, Pt.locs, Pt.cells, Pt.slots] at X4 l4 y4 z4 st4 hQ4
      subst l4 y4 z4
      obtain ⟨rfl, N4q, e4⟩ := hQ4
      have N4 := Fr.app N2 N4q
      refine own_to T4 (mkF m 159 #[.val (.long q0), .second, .val (.long q1), .second, .val (.long q2), .second, .val (.int i3), .val (.long a7), .second, .val (.long b9), .second, .val (.long b11), .second, .val (.int (0 : Int32)), .val (.int s14), .val (.long q15), .second, .val (.ref b1), .val (.int (own_mem q15 [])), .unset, .unset] [(.long a7), (.ref b1)]) (fun tq kq => st4.trans (XS.istore X4.here hx rfl (hb hby at_153) rfl (l' := #[.val (.long q0), .second, .val (.long q1), .second, .val (.long q2), .second, .val (.int i3), .val (.long a7), .second, .val (.long b9), .second, .val (.long b11), .second, .val (.int (0 : Int32)), .val (.int s14), .val (.long q15), .second, .val (.ref b1), .val (.int (own_mem q15 [])), .unset, .unset]) rfl (XS.aload X4.here hx rfl (hb hby at_155) rfl rfl (XS.lload X4.here hx rfl (hb hby at_157) rfl kq)))) ?_
      obtain ⟨cq5, kq5, q5a, q5b, q5c⟩ := isOf hZ e4 E2q
      obtain ⟨_, _, ⟨T5, L5, k5, n5⟩, -, X5, ⟨Lc5, hQ5, l5, y5, z5⟩, st5⟩ := X4.virtualBack hx (y := (⟨"kehai/LongSet", "contains", "(J)Z"⟩ : MethodName)) (z := (⟨"kehai/LongSet", "contains", "(J)Z"⟩ : MethodName)) hown (mvT hZ (own_w hw 15 rfl)) (mvT hZ (own_w hw 16 rfl)) (notFace_of_selects (args := #[]) (mvT hZ (own_w hw 18 rfl))) (mvT hZ (own_w hw 18 rfl)) (mvT hZ (own_w hw 17 rfl)) (by decide) (backOf (W := 0) (rmC l Z a0 hw [] b1 a7 pl2 rc2 (fun _ => 0) (fun _ => 0) [] T2.heap n0 Zs2 F2a F2b V2a V2b own_inv0 (Nat.le_of_ble_eq_true rfl)) hZ (own_w hw 19 rfl) (own_w hw 3 rfl) (by decide) (by decide)) q5a q5c (g := (mkF m 159 #[.val (.long q0), .second, .val (.long q1), .second, .val (.long q2), .second, .val (.int i3), .val (.long a7), .second, .val (.long b9), .second, .val (.long b11), .second, .val (.int (0 : Int32)), .val (.int s14), .val (.long q15), .second, .val (.ref b1), .val (.int (own_mem q15 [])), .unset, .unset] [(.long a7), (.ref b1)])) rfl (by rw [hml]; rfl) (Steps.refl _) (argsL := [(.long a7)]) (rest := []) (lenOf pd_1 rfl) rfl (by show 2 * 0 + _ ≤ _; exact Nat.le_of_eq rfl) (hb hby at_159) (fun _ _ => ⟨rfl, e4, (by decide : 3 + 0 ≤ _), (by decide : 17411 + 0 ≤ _)⟩)
      dsimp only [Pt.U, Pt.locs, Pt.cells, Pt.slots] at X5 l5 y5 z5 st5 hQ5
      subst l5 y5 z5
      obtain ⟨rfl, N5q, e5⟩ := hQ5
      have N5 := Fr.app N4 N5q
      refine own_to T5 (mkF m 168 #[.val (.long q0), .second, .val (.long q1), .second, .val (.long q2), .second, .val (.int i3), .val (.long a7), .second, .val (.long b9), .second, .val (.long b11), .second, .val (.int (0 : Int32)), .val (.int s14), .val (.long q15), .second, .val (.ref b1), .val (.int (own_mem q15 [])), .val (.int (own_mem a7 [])), .unset] [(.long b11), (.ref b1)]) (fun tq kq => st5.trans (XS.istore X5.here hx rfl (hb hby at_162) rfl (l' := #[.val (.long q0), .second, .val (.long q1), .second, .val (.long q2), .second, .val (.int i3), .val (.long a7), .second, .val (.long b9), .second, .val (.long b11), .second, .val (.int (0 : Int32)), .val (.int s14), .val (.long q15), .second, .val (.ref b1), .val (.int (own_mem q15 [])), .val (.int (own_mem a7 [])), .unset]) rfl (XS.aload X5.here hx rfl (hb hby at_164) rfl rfl (XS.lload X5.here hx rfl (hb hby at_166) rfl kq)))) ?_
      obtain ⟨cq6, kq6, q6a, q6b, q6c⟩ := isOf hZ e5 E2q
      obtain ⟨_, _, ⟨T6, L6, k6, n6⟩, -, X6, ⟨Lc6, hQ6, l6, y6, z6⟩, st6⟩ := X5.virtualBack hx (y := (⟨"kehai/LongSet", "contains", "(J)Z"⟩ : MethodName)) (z := (⟨"kehai/LongSet", "contains", "(J)Z"⟩ : MethodName)) hown (mvT hZ (own_w hw 15 rfl)) (mvT hZ (own_w hw 16 rfl)) (notFace_of_selects (args := #[]) (mvT hZ (own_w hw 18 rfl))) (mvT hZ (own_w hw 18 rfl)) (mvT hZ (own_w hw 17 rfl)) (by decide) (backOf (W := 0) (rmC l Z a0 hw [] b1 b11 pl2 rc2 (fun _ => 0) (fun _ => 0) [] T2.heap n0 Zs2 F2a F2b V2a V2b own_inv0 (Nat.le_of_ble_eq_true rfl)) hZ (own_w hw 19 rfl) (own_w hw 3 rfl) (by decide) (by decide)) q6a q6c (g := (mkF m 168 #[.val (.long q0), .second, .val (.long q1), .second, .val (.long q2), .second, .val (.int i3), .val (.long a7), .second, .val (.long b9), .second, .val (.long b11), .second, .val (.int (0 : Int32)), .val (.int s14), .val (.long q15), .second, .val (.ref b1), .val (.int (own_mem q15 [])), .val (.int (own_mem a7 [])), .unset] [(.long b11), (.ref b1)])) rfl (by rw [hml]; rfl) (Steps.refl _) (argsL := [(.long b11)]) (rest := []) (lenOf pd_1 rfl) rfl (by show 2 * 0 + _ ≤ _; exact Nat.le_of_eq rfl) (hb hby at_168) (fun _ _ => ⟨rfl, e5, (by decide : 3 + 0 ≤ _), (by decide : 17411 + 0 ≤ _)⟩)
      dsimp only [Pt.U, Pt.locs, Pt.cells, Pt.slots] at X6 l6 y6 z6 st6 hQ6
      subst l6 y6 z6
      obtain ⟨rfl, N6q, e6⟩ := hQ6
      have N6 := Fr.app N5 N6q
      refine own_to T6 (mkF m 183 #[.val (.long q0), .second, .val (.long q1), .second, .val (.long q2), .second, .val (.int i3), .val (.long a7), .second, .val (.long b9), .second, .val (.long b11), .second, .val (.int (0 : Int32)), .val (.int s14), .val (.long q15), .second, .val (.ref b1), .val (.int (own_mem q15 [])), .val (.int (own_mem a7 [])), .val (.int (own_mem b11 []))] [(.int (0 : Int32)), (.long b11), (.long a7), (.long q15), (.int (own_mem q15 []))]) (fun tq kq => st6.trans (XS.istore X6.here hx rfl (hb hby at_171) rfl (l' := #[.val (.long q0), .second, .val (.long q1), .second, .val (.long q2), .second, .val (.int i3), .val (.long a7), .second, .val (.long b9), .second, .val (.long b11), .second, .val (.int (0 : Int32)), .val (.int s14), .val (.long q15), .second, .val (.ref b1), .val (.int (own_mem q15 [])), .val (.int (own_mem a7 [])), .val (.int (own_mem b11 []))]) rfl (XS.iload X6.here hx rfl (hb hby at_173) rfl (XS.lload X6.here hx rfl (hb hby at_175) rfl (XS.lload X6.here hx rfl (hb hby at_177) rfl (XS.lload X6.here hx rfl (hb hby at_179) rfl (XS.iload X6.here hx rfl (hb hby at_181) rfl kq))))))) ?_
      obtain ⟨_, _, ⟨T7, L7, k7, n7⟩, -, X7, ⟨Lc7, hQ7, l7, y7, z7⟩, st7⟩ := Jvm.LawKit.callS X6 hx (y := (⟨"kehai/LongSetContainsPinLaw", "expect", "(JJJI)Z"⟩ : MethodName)) hown (mvT hZ (own_w hw 24 rfl)) (mvT hZ (own_w hw 25 rfl)) (mvT hZ (own_w hw 26 rfl)) (mvT hZ (own_w hw 27 rfl)) (by decide) (backOf (W := 1) (rmE l Z a0 hw [] q15 a7 b11 (0 : Int32) T2.heap n0 Zs2) hZ (own_w hw 27 rfl) (own_w hw 26 rfl) (by decide) (by decide)) (g := (mkF m 183 #[.val (.long q0), .second, .val (.long q1), .second, .val (.long q2), .second, .val (.int i3), .val (.long a7), .second, .val (.long b9), .second, .val (.long b11), .second, .val (.int (0 : Int32)), .val (.int s14), .val (.long q15), .second, .val (.ref b1), .val (.int (own_mem q15 [])), .val (.int (own_mem a7 [])), .val (.int (own_mem b11 []))] [(.int (0 : Int32)), (.long b11), (.long a7), (.long q15), (.int (own_mem q15 []))])) rfl (by rw [hml]; rfl) (argsL := [(.long q15), (.long a7), (.long b11), (.int (0 : Int32))]) (rest := [(.int (own_mem q15 []))]) (lenOf pd_3 rfl) rfl (by show 2 * 0 + _ ≤ _; exact Nat.le_of_eq rfl) (hb hby at_183) (fun _ _ => ⟨rfl, e6, (by decide : 3 + 0 ≤ _), (by decide : 17411 + 0 ≤ _)⟩)
      dsimp only [Pt.U, Pt.locs, Pt.cells, Pt.slots] at X7 l7 y7 z7 st7 hQ7
      subst l7 y7 z7
      obtain ⟨rfl, N7q, e7⟩ := hQ7
      have N7 := Fr.app N6 N7q
      refine own_to T7 (mkF m 199 #[.val (.long q0), .second, .val (.long q1), .second, .val (.long q2), .second, .val (.int i3), .val (.long a7), .second, .val (.long b9), .second, .val (.long b11), .second, .val (.int (0 : Int32)), .val (.int s14), .val (.long q15), .second, .val (.ref b1), .val (.int (own_mem q15 [])), .val (.int (own_mem a7 [])), .val (.int (own_mem b11 []))] [(.int (0 : Int32)), (.long b11), (.long a7), (.long a7), (.int (own_mem a7 []))]) (fun tq kq => st7 _ (XS.icmpNo X7.here hx rfl (hb hby at_186) rfl (teq (own_e0 q15 a7 b11)).2 (XS.iload X7.here hx rfl (hb hby at_189) rfl (XS.lload X7.here hx rfl (hb hby at_191) rfl (XS.lload X7.here hx rfl (hb hby at_193) rfl (XS.lload X7.here hx rfl (hb hby at_195) rfl (XS.iload X7.here hx rfl (hb hby at_197) rfl kq))))))) ?_
      obtain ⟨_, _, ⟨T8, L8, k8, n8⟩, -, X8, ⟨Lc8, hQ8, l8, y8, z8⟩, st8⟩ := Jvm.LawKit.callS X7 hx (y := (⟨"kehai/LongSetContainsPinLaw", "expect", "(JJJI)Z"⟩ : MethodName)) hown (mvT hZ (own_w hw 24 rfl)) (mvT hZ (own_w hw 25 rfl)) (mvT hZ (own_w hw 26 rfl)) (mvT hZ (own_w hw 27 rfl)) (by decide) (backOf (W := 1) (rmE l Z a0 hw [] a7 a7 b11 (0 : Int32) T2.heap n0 Zs2) hZ (own_w hw 27 rfl) (own_w hw 26 rfl) (by decide) (by decide)) (g := (mkF m 199 #[.val (.long q0), .second, .val (.long q1), .second, .val (.long q2), .second, .val (.int i3), .val (.long a7), .second, .val (.long b9), .second, .val (.long b11), .second, .val (.int (0 : Int32)), .val (.int s14), .val (.long q15), .second, .val (.ref b1), .val (.int (own_mem q15 [])), .val (.int (own_mem a7 [])), .val (.int (own_mem b11 []))] [(.int (0 : Int32)), (.long b11), (.long a7), (.long a7), (.int (own_mem a7 []))])) rfl (by rw [hml]; rfl) (argsL := [(.long a7), (.long a7), (.long b11), (.int (0 : Int32))]) (rest := [(.int (own_mem a7 []))]) (lenOf pd_3 rfl) rfl (by show 2 * 0 + _ ≤ _; exact Nat.le_of_eq rfl) (hb hby at_199) (fun _ _ => ⟨rfl, e7, (by decide : 3 + 0 ≤ _), (by decide : 17411 + 0 ≤ _)⟩)
      dsimp only [Pt.U, Pt.locs, Pt.cells, Pt.slots] at X8 l8 y8 z8 st8 hQ8
      subst l8 y8 z8
      obtain ⟨rfl, N8q, e8⟩ := hQ8
      have N8 := Fr.app N7 N8q
      refine own_to T8 (mkF m 215 #[.val (.long q0), .second, .val (.long q1), .second, .val (.long q2), .second, .val (.int i3), .val (.long a7), .second, .val (.long b9), .second, .val (.long b11), .second, .val (.int (0 : Int32)), .val (.int s14), .val (.long q15), .second, .val (.ref b1), .val (.int (own_mem q15 [])), .val (.int (own_mem a7 [])), .val (.int (own_mem b11 []))] [(.int (0 : Int32)), (.long b11), (.long a7), (.long b11), (.int (own_mem b11 []))]) (fun tq kq => st8 _ (XS.icmpNo X8.here hx rfl (hb hby at_202) rfl (teq (own_e0 a7 a7 b11)).2 (XS.iload X8.here hx rfl (hb hby at_205) rfl (XS.lload X8.here hx rfl (hb hby at_207) rfl (XS.lload X8.here hx rfl (hb hby at_209) rfl (XS.lload X8.here hx rfl (hb hby at_211) rfl (XS.iload X8.here hx rfl (hb hby at_213) rfl kq))))))) ?_
      obtain ⟨_, _, ⟨T9, L9, k9, n9⟩, -, X9, ⟨Lc9, hQ9, l9, y9, z9⟩, st9⟩ := Jvm.LawKit.callS X8 hx (y := (⟨"kehai/LongSetContainsPinLaw", "expect", "(JJJI)Z"⟩ : MethodName)) hown (mvT hZ (own_w hw 24 rfl)) (mvT hZ (own_w hw 25 rfl)) (mvT hZ (own_w hw 26 rfl)) (mvT hZ (own_w hw 27 rfl)) (by decide) (backOf (W := 1) (rmE l Z a0 hw [] b11 a7 b11 (0 : Int32) T2.heap n0 Zs2) hZ (own_w hw 27 rfl) (own_w hw 26 rfl) (by decide) (by decide)) (g := (mkF m 215 #[.val (.long q0), .second, .val (.long q1), .second, .val (.long q2), .second, .val (.int i3), .val (.long a7), .second, .val (.long b9), .second, .val (.long b11), .second, .val (.int (0 : Int32)), .val (.int s14), .val (.long q15), .second, .val (.ref b1), .val (.int (own_mem q15 [])), .val (.int (own_mem a7 [])), .val (.int (own_mem b11 []))] [(.int (0 : Int32)), (.long b11), (.long a7), (.long b11), (.int (own_mem b11 []))])) rfl (by rw [hml]; rfl) (argsL := [(.long b11), (.long a7), (.long b11), (.int (0 : Int32))]) (rest := [(.int (own_mem b11 []))]) (lenOf pd_3 rfl) rfl (by show 2 * 0 + _ ≤ _; exact Nat.le_of_eq rfl) (hb hby at_215) (fun _ _ => ⟨rfl, e8, (by decide : 3 + 0 ≤ _), (by decide : 17411 + 0 ≤ _)⟩)
      dsimp only [Pt.U, Pt.locs, Pt.cells, Pt.slots] at X9 l9 y9 z9 st9 hQ9
      subst l9 y9 z9
      obtain ⟨rfl, N9q, e9⟩ := hQ9
      have N9 := Fr.app N8 N9q
      refine own_to T9 (mkF m 226 #[.val (.long q0), .second, .val (.long q1), .second, .val (.long q2), .second, .val (.int i3), .val (.long a7), .second, .val (.long b9), .second, .val (.long b11), .second, .val (.int (0 : Int32)), .val (.int s14), .val (.long q15), .second, .val (.ref b1), .val (.int (own_mem q15 [])), .val (.int (own_mem a7 [])), .val (.int (own_mem b11 []))] [(.int (1 : Int32))]) (fun tq kq => st9 _ (XS.icmpNo X9.here hx rfl (hb hby at_218) rfl (teq (own_e0 b11 a7 b11)).2 (XS.iconst X9.here hx rfl (hb hby at_221) (XS.goto X9.here hx rfl (pc0 := 222) (pc' := 226) rfl (hb hby at_222) (by decide) (by decide) kq)))) ?_
      exact own_retZ X9 hx hret hlk (hb hby at_226) (by decide) (by decide) (Or.inr rfl) ⟨rfl, N9⟩
    · skip
      obtain ⟨T10, h10, X10, e10, E10, A10, D10, -, st10⟩ := newO X0 hx hZ hown (own_w hw 1 rfl) (own_w hw 2 rfl) (own_w hw 3 rfl) e0 (g := (mkF m 111 #[.val (.long q0), .second, .val (.long q1), .second, .val (.long q2), .second, .val (.int i3), .val (.long a7), .second, .val (.long b9), .second, .val (.long b11), .second, .val (.int (1 : Int32)), .val (.int s14), .val (.long q15), .second, .unset, .unset, .unset, .unset] [])) rfl (hb hby at_111) (by decide) (by decide)
      obtain ⟨b10, g10⟩ : ∃ z, z = h0.size := ⟨_, rfl⟩
      rw [← g10] at A10 D10 st10
      have sz10 : n0 ≤ b10 := Nat.le_trans Z0 (Nat.le_of_eq g10.symm)
      have Zs10 : n0 ≤ h10.size := Nat.le_trans Z0 E10.1
      have F10_places : Fld Z h10 b10 "kehai/LongSet" "places" "[J" .null := D10 (Or.inl (own_w hw 12 rfl)) (ty := (.array .long)) (by decide)
      have F10_recent : Fld Z h10 b10 "kehai/LongSet" "recent" "[J" .null := D10 (Or.inr (own_w hw 14 rfl)) (ty := (.array .long)) (by decide)
      have F10_size : Fld Z h10 b10 "kehai/LongSet" "size" "I" (.int (0 : Int32)) := D10 (Or.inl (own_w hw 37 rfl)) (ty := .int) (by decide)
      refine own_to T10 (mkF m 115 #[.val (.long q0), .second, .val (.long q1), .second, .val (.long q2), .second, .val (.int i3), .val (.long a7), .second, .val (.long b9), .second, .val (.long b11), .second, .val (.int (1 : Int32)), .val (.int s14), .val (.long q15), .second, .unset, .unset, .unset, .unset] [(.ref b10), (.ref b10)]) (fun tq kq => st10 _ (XS.dup X10.here hx rfl (hb hby at_114) rfl rfl kq)) ?_
      obtain ⟨_, _, ⟨T11, L11, k11, n11⟩, -, X11, ⟨Lc11, hQ11, l11, y11, z11⟩, st11⟩ := X10.specialBack hx (y := (⟨"kehai/LongSet", "<init>", "()V"⟩ : MethodName)) rfl hown (mvT hZ (own_w hw 4 rfl)) (mvT hZ (own_w hw 5 rfl)) (mvT hZ (own_w hw 6 rfl)) (by decide) (backOf (W := 1) (rmI l Z a0 hw [] b10 h10 n0 Zs10 A10 F10_places F10_recent F10_size sz10) hZ (own_w hw 6 rfl) (own_w hw 3 rfl) (by decide) (by decide)) (g := (mkF m 115 #[.val (.long q0), .second, .val (.long q1), .second, .val (.long q2), .second, .val (.int i3), .val (.long a7), .second, .val (.long b9), .second, .val (.long b11), .second, .val (.int (1 : Int32)), .val (.int s14), .val (.long q15), .second, .unset, .unset, .unset, .unset] [(.ref b10), (.ref b10)])) rfl (by rw [hml]; rfl) (Steps.refl _) (a := b10) (argsL := []) (rest := [(.ref b10)]) (lenOf pd_0 rfl) rfl (by show 2 * 0 + _ ≤ _; exact Nat.le_of_eq rfl) (hb hby at_115) (fun _ _ => ⟨rfl, e10, (by decide : 1 + 2 ≤ _), (by decide : 3 + 17408 ≤ _)⟩)
      dsimp only [Pt.U, Pt.locs, Pt.cells, Pt.slots] at X11 l11 y11 z11 st11 hQ11
      subst l11 y11 z11
      obtain ⟨rfl, N11q, K11q, E11q, pl11, rc11, gp11, gr11, na11, nb11, nc11, F11a, F11b, F11c, V11a, V11b⟩ := hQ11
      have N11 := Fr.app (Fr.nil n0) N11q
      have f12 := A10.keep K11q
      have Zs11 : n0 ≤ T11.heap.size := Nat.le_trans Zs10 K11q.1
      refine own_to T11 (mkF m 130 #[.val (.long q0), .second, .val (.long q1), .second, .val (.long q2), .second, .val (.int i3), .val (.long a7), .second, .val (.long b9), .second, .val (.long b11), .second, .val (.int (1 : Int32)), .val (.int s14), .val (.long q15), .second, .val (.ref b10), .unset, .unset, .unset] [(.long a7), (.ref b10)]) (fun tq kq => st11.trans (XS.astore X11.here hx rfl (hb hby at_118) rfl rfl (l' := #[.val (.long q0), .second, .val (.long q1), .second, .val (.long q2), .second, .val (.int i3), .val (.long a7), .second, .val (.long b9), .second, .val (.long b11), .second, .val (.int (1 : Int32)), .val (.int s14), .val (.long q15), .second, .val (.ref b10), .unset, .unset, .unset]) rfl (XS.iload X11.here hx rfl (hb hby at_120) rfl (XS.iconst X11.here hx rfl (hb hby at_122) (XS.icmpNo X11.here hx rfl (hb hby at_123) rfl (flt (by decide : ¬ ((1 : Int32) < (1 : Int32)))).1 (XS.aload X11.here hx rfl (hb hby at_126) rfl rfl (XS.lload X11.here hx rfl (hb hby at_128) rfl kq))))))) ?_
      obtain ⟨cq13, kq13, q13a, q13b, q13c⟩ := isOf hZ rfl E11q
      obtain ⟨_, _, ⟨T13, L13, k13, n13⟩, -, X13, ⟨Lc13, hQ13, l13, y13, z13⟩, st13⟩ := X11.virtualBack hx (y := (⟨"kehai/LongSet", "add", "(J)V"⟩ : MethodName)) (z := (⟨"kehai/LongSet", "add", "(J)V"⟩ : MethodName)) hown (mvT hZ (own_w hw 31 rfl)) (mvT hZ (own_w hw 32 rfl)) (notFace_of_selects (args := #[]) (mvT hZ (own_w hw 34 rfl))) (mvT hZ (own_w hw 34 rfl)) (mvT hZ (own_w hw 33 rfl)) (by decide) (backOf (W := 0) (rmA l Z a0 hw [] b10 a7 pl11 rc11 (fun _ => 0) (fun _ => 0) [] (0 : Int32) T11.heap n0 Zs11 F11a F11b V11a V11b own_inv0 (Nat.le_of_ble_eq_true rfl) E11q F11c na11 nb11 nc11 sz10 gp11 gr11 ha1 (by decide)) hZ (own_w hw 35 rfl) (own_w hw 3 rfl) (by decide) (by decide)) q13a q13c (g := (mkF m 130 #[.val (.long q0), .second, .val (.long q1), .second, .val (.long q2), .second, .val (.int i3), .val (.long a7), .second, .val (.long b9), .second, .val (.long b11), .second, .val (.int (1 : Int32)), .val (.int s14), .val (.long q15), .second, .val (.ref b10), .unset, .unset, .unset] [(.long a7), (.ref b10)])) rfl (by rw [hml]; rfl) (Steps.refl _) (argsL := [(.long a7)]) (rest := []) (lenOf pd_4 rfl) rfl (by show 2 * 0 + _ ≤ _; exact Nat.le_of_eq rfl) (hb hby at_130) (fun _ _ => ⟨rfl, rfl, (by decide : 3 + 0 ≤ _), (by decide : 17411 + 0 ≤ _)⟩)
      dsimp only [Pt.U, Pt.locs, Pt.cells, Pt.slots] at X13 l13 y13 z13 st13 hQ13
      subst l13 y13 z13
      obtain ⟨rfl, N13q, K13q, E13q, F13a, F13b, ⟨sz13, F13c, hs13⟩, f13, g13, I13, V13a, V13b⟩ := hQ13
      have N13 := Fr.app N11 N13q
      have f14 := E11q.keep K13q
      have Zs13 : n0 ≤ T13.heap.size := Nat.le_trans Zs11 K13q.1
      refine own_to T13 (mkF m 150 #[.val (.long q0), .second, .val (.long q1), .second, .val (.long q2), .second, .val (.int i3), .val (.long a7), .second, .val (.long b9), .second, .val (.long b11), .second, .val (.int (1 : Int32)), .val (.int s14), .val (.long q15), .second, .val (.ref b10), .unset, .unset, .unset] [(.long q15), (.ref b10)]) (fun tq kq => st13.trans (XS.iload X13.here hx rfl (hb hby at_133) rfl (XS.iconst X13.here hx rfl (hb hby at_135) (XS.icmpYes X13.here hx rfl (pc0 := 136) (pc' := 146) rfl (hb hby at_136) rfl (tlt (by decide : (1 : Int32) < (2 : Int32))).1 (by decide) (by decide) (XS.aload X13.here hx rfl (hb hby at_146) rfl rfl (XS.lload X13.here hx rfl (hb hby at_148) rfl kq)))))) ?_
      obtain ⟨cq15, kq15, q15a, q15b, q15c⟩ := isOf hZ rfl E13q
      obtain ⟨_, _, ⟨T15, L15, k15, n15⟩, -, X15, ⟨Lc15, hQ15, l15, y15, z15⟩, st15⟩ := X13.virtualBack hx (y := (⟨"kehai/LongSet", "contains", "(J)Z"⟩ : MethodName)) (z := (⟨"kehai/LongSet", "contains", "(J)Z"⟩ : MethodName)) hown (mvT hZ (own_w hw 15 rfl)) (mvT hZ (own_w hw 16 rfl)) (notFace_of_selects (args := #[]) (mvT hZ (own_w hw 18 rfl))) (mvT hZ (own_w hw 18 rfl)) (mvT hZ (own_w hw 17 rfl)) (by decide) (backOf (W := 0) (rmC l Z a0 hw [] b10 q15 pl11 rc11 f13 g13 [a7 + (1 : Int64)] T13.heap n0 Zs13 F13a F13b V13a V13b I13 (Nat.le_of_ble_eq_true rfl)) hZ (own_w hw 19 rfl) (own_w hw 3 rfl) (by decide) (by decide)) q15a q15c (g := (mkF m 150 #[.val (.long q0), .second, .val (.long q1), .second, .val (.long q2), .second, .val (.int i3), .val (.long a7), .second, .val (.long b9), .second, .val (.long b11), .second, .val (.int (1 : Int32)), .val (.int s14), .val (.long q15), .second, .val (.ref b10), .unset, .unset, .unset] [(.long q15), (.ref b10)])) rfl (by rw [hml]; rfl) (Steps.refl _) (argsL := [(.long q15)]) (rest := []) (lenOf pd_1 rfl) rfl (by show 2 * 0 + _ ≤ _; exact Nat.le_of_eq rfl) (hb hby at_150) (fun _ _ => ⟨rfl, rfl, (by decide : 3 + 0 ≤ _), (by decide : 17411 + 0 ≤ _)⟩)
      dsimp only [Pt.U, Pt.locs, Pt.cells, Pt.slots] at X15 l15 y15 z15 st15 hQ15
      subst l15 y15 z15
      obtain ⟨rfl, N15q, e15⟩ := hQ15
      have N15 := Fr.app N13 N15q
      refine own_to T15 (mkF m 159 #[.val (.long q0), .second, .val (.long q1), .second, .val (.long q2), .second, .val (.int i3), .val (.long a7), .second, .val (.long b9), .second, .val (.long b11), .second, .val (.int (1 : Int32)), .val (.int s14), .val (.long q15), .second, .val (.ref b10), .val (.int (own_mem q15 [a7 + (1 : Int64)])), .unset, .unset] [(.long a7), (.ref b10)]) (fun tq kq => st15.trans (XS.istore X15.here hx rfl (hb hby at_153) rfl (l' := #[.val (.long q0), .second, .val (.long q1), .second, .val (.long q2), .second, .val (.int i3), .val (.long a7), .second, .val (.long b9), .second, .val (.long b11), .second, .val (.int (1 : Int32)), .val (.int s14), .val (.long q15), .second, .val (.ref b10), .val (.int (own_mem q15 [a7 + (1 : Int64)])), .unset, .unset]) rfl (XS.aload X15.here hx rfl (hb hby at_155) rfl rfl (XS.lload X15.here hx rfl (hb hby at_157) rfl kq)))) ?_
      obtain ⟨cq16, kq16, q16a, q16b, q16c⟩ := isOf hZ e15 E13q
      obtain ⟨_, _, ⟨T16, L16, k16, n16⟩, -, X16, ⟨Lc16, hQ16, l16, y16, z16⟩, st16⟩ := X15.virtualBack hx (y := (⟨"kehai/LongSet", "contains", "(J)Z"⟩ : MethodName)) (z := (⟨"kehai/LongSet", "contains", "(J)Z"⟩ : MethodName)) hown (mvT hZ (own_w hw 15 rfl)) (mvT hZ (own_w hw 16 rfl)) (notFace_of_selects (args := #[]) (mvT hZ (own_w hw 18 rfl))) (mvT hZ (own_w hw 18 rfl)) (mvT hZ (own_w hw 17 rfl)) (by decide) (backOf (W := 0) (rmC l Z a0 hw [] b10 a7 pl11 rc11 f13 g13 [a7 + (1 : Int64)] T13.heap n0 Zs13 F13a F13b V13a V13b I13 (Nat.le_of_ble_eq_true rfl)) hZ (own_w hw 19 rfl) (own_w hw 3 rfl) (by decide) (by decide)) q16a q16c (g := (mkF m 159 #[.val (.long q0), .second, .val (.long q1), .second, .val (.long q2), .second, .val (.int i3), .val (.long a7), .second, .val (.long b9), .second, .val (.long b11), .second, .val (.int (1 : Int32)), .val (.int s14), .val (.long q15), .second, .val (.ref b10), .val (.int (own_mem q15 [a7 + (1 : Int64)])), .unset, .unset] [(.long a7), (.ref b10)])) rfl (by rw [hml]; rfl) (Steps.refl _) (argsL := [(.long a7)]) (rest := []) (lenOf pd_1 rfl) rfl (by show 2 * 0 + _ ≤ _; exact Nat.le_of_eq rfl) (hb hby at_159) (fun _ _ => ⟨rfl, e15, (by decide : 3 + 0 ≤ _), (by decide : 17411 + 0 ≤ _)⟩)
      dsimp only [Pt.U, Pt.locs, Pt.cells, Pt.slots] at X16 l16 y16 z16 st16 hQ16
      subst l16 y16 z16
      obtain ⟨rfl, N16q, e16⟩ := hQ16
      have N16 := Fr.app N15 N16q
      refine own_to T16 (mkF m 168 #[.val (.long q0), .second, .val (.long q1), .second, .val (.long q2), .second, .val (.int i3), .val (.long a7), .second, .val (.long b9), .second, .val (.long b11), .second, .val (.int (1 : Int32)), .val (.int s14), .val (.long q15), .second, .val (.ref b10), .val (.int (own_mem q15 [a7 + (1 : Int64)])), .val (.int (own_mem a7 [a7 + (1 : Int64)])), .unset] [(.long b11), (.ref b10)]) (fun tq kq => st16.trans (XS.istore X16.here hx rfl (hb hby at_162) rfl (l' := #[.val (.long q0), .second, .val (.long q1), .second, .val (.long q2), .second, .val (.int i3), .val (.long a7), .second, .val (.long b9), .second, .val (.long b11), .second, .val (.int (1 : Int32)), .val (.int s14), .val (.long q15), .second, .val (.ref b10), .val (.int (own_mem q15 [a7 + (1 : Int64)])), .val (.int (own_mem a7 [a7 + (1 : Int64)])), .unset]) rfl (XS.aload X16.here hx rfl (hb hby at_164) rfl rfl (XS.lload X16.here hx rfl (hb hby at_166) rfl kq)))) ?_
      obtain ⟨cq17, kq17, q17a, q17b, q17c⟩ := isOf hZ e16 E13q
      obtain ⟨_, _, ⟨T17, L17, k17, n17⟩, -, X17, ⟨Lc17, hQ17, l17, y17, z17⟩, st17⟩ := X16.virtualBack hx (y := (⟨"kehai/LongSet", "contains", "(J)Z"⟩ : MethodName)) (z := (⟨"kehai/LongSet", "contains", "(J)Z"⟩ : MethodName)) hown (mvT hZ (own_w hw 15 rfl)) (mvT hZ (own_w hw 16 rfl)) (notFace_of_selects (args := #[]) (mvT hZ (own_w hw 18 rfl))) (mvT hZ (own_w hw 18 rfl)) (mvT hZ (own_w hw 17 rfl)) (by decide) (backOf (W := 0) (rmC l Z a0 hw [] b10 b11 pl11 rc11 f13 g13 [a7 + (1 : Int64)] T13.heap n0 Zs13 F13a F13b V13a V13b I13 (Nat.le_of_ble_eq_true rfl)) hZ (own_w hw 19 rfl) (own_w hw 3 rfl) (by decide) (by decide)) q17a q17c (g := (mkF m 168 #[.val (.long q0), .second, .val (.long q1), .second, .val (.long q2), .second, .val (.int i3), .val (.long a7), .second, .val (.long b9), .second, .val (.long b11), .second, .val (.int (1 : Int32)), .val (.int s14), .val (.long q15), .second, .val (.ref b10), .val (.int (own_mem q15 [a7 + (1 : Int64)])), .val (.int (own_mem a7 [a7 + (1 : Int64)])), .unset] [(.long b11), (.ref b10)])) rfl (by rw [hml]; rfl) (Steps.refl _) (argsL := [(.long b11)]) (rest := []) (lenOf pd_1 rfl) rfl (by show 2 * 0 + _ ≤ _; exact Nat.le_of_eq rfl) (hb hby at_168) (fun _ _ => ⟨rfl, e16, (by decide : 3 + 0 ≤ _), (by decide : 17411 + 0 ≤ _)⟩)
      dsimp only [Pt.U, Pt.locs, Pt.cells, Pt.slots] at X17 l17 y17 z17 st17 hQ17
      subst l17 y17 z17
      obtain ⟨rfl, N17q, e17⟩ := hQ17
      have N17 := Fr.app N16 N17q
      refine own_to T17 (mkF m 183 #[.val (.long q0), .second, .val (.long q1), .second, .val (.long q2), .second, .val (.int i3), .val (.long a7), .second, .val (.long b9), .second, .val (.long b11), .second, .val (.int (1 : Int32)), .val (.int s14), .val (.long q15), .second, .val (.ref b10), .val (.int (own_mem q15 [a7 + (1 : Int64)])), .val (.int (own_mem a7 [a7 + (1 : Int64)])), .val (.int (own_mem b11 [a7 + (1 : Int64)]))] [(.int (1 : Int32)), (.long b11), (.long a7), (.long q15), (.int (own_mem q15 [a7 + (1 : Int64)]))]) (fun tq kq => st17.trans (XS.istore X17.here hx rfl (hb hby at_171) rfl (l' := #[.val (.long q0), .second, .val (.long q1), .second, .val (.long q2), .second, .val (.int i3), .val (.long a7), .second, .val (.long b9), .second, .val (.long b11), .second, .val (.int (1 : Int32)), .val (.int s14), .val (.long q15), .second, .val (.ref b10), .val (.int (own_mem q15 [a7 + (1 : Int64)])), .val (.int (own_mem a7 [a7 + (1 : Int64)])), .val (.int (own_mem b11 [a7 + (1 : Int64)]))]) rfl (XS.iload X17.here hx rfl (hb hby at_173) rfl (XS.lload X17.here hx rfl (hb hby at_175) rfl (XS.lload X17.here hx rfl (hb hby at_177) rfl (XS.lload X17.here hx rfl (hb hby at_179) rfl (XS.iload X17.here hx rfl (hb hby at_181) rfl kq))))))) ?_
      obtain ⟨_, _, ⟨T18, L18, k18, n18⟩, -, X18, ⟨Lc18, hQ18, l18, y18, z18⟩, st18⟩ := Jvm.LawKit.callS X17 hx (y := (⟨"kehai/LongSetContainsPinLaw", "expect", "(JJJI)Z"⟩ : MethodName)) hown (mvT hZ (own_w hw 24 rfl)) (mvT hZ (own_w hw 25 rfl)) (mvT hZ (own_w hw 26 rfl)) (mvT hZ (own_w hw 27 rfl)) (by decide) (backOf (W := 1) (rmE l Z a0 hw [] q15 a7 b11 (1 : Int32) T13.heap n0 Zs13) hZ (own_w hw 27 rfl) (own_w hw 26 rfl) (by decide) (by decide)) (g := (mkF m 183 #[.val (.long q0), .second, .val (.long q1), .second, .val (.long q2), .second, .val (.int i3), .val (.long a7), .second, .val (.long b9), .second, .val (.long b11), .second, .val (.int (1 : Int32)), .val (.int s14), .val (.long q15), .second, .val (.ref b10), .val (.int (own_mem q15 [a7 + (1 : Int64)])), .val (.int (own_mem a7 [a7 + (1 : Int64)])), .val (.int (own_mem b11 [a7 + (1 : Int64)]))] [(.int (1 : Int32)), (.long b11), (.long a7), (.long q15), (.int (own_mem q15 [a7 + (1 : Int64)]))])) rfl (by rw [hml]; rfl) (argsL := [(.long q15), (.long a7), (.long b11), (.int (1 : Int32))]) (rest := [(.int (own_mem q15 [a7 + (1 : Int64)]))]) (lenOf pd_3 rfl) rfl (by show 2 * 0 + _ ≤ _; exact Nat.le_of_eq rfl) (hb hby at_183) (fun _ _ => ⟨rfl, e17, (by decide : 3 + 0 ≤ _), (by decide : 17411 + 0 ≤ _)⟩)
      dsimp only [Pt.U, Pt.locs, Pt.cells, Pt.slots] at X18 l18 y18 z18 st18 hQ18
      subst l18 y18 z18
      obtain ⟨rfl, N18q, e18⟩ := hQ18
      have N18 := Fr.app N17 N18q
      refine own_to T18 (mkF m 199 #[.val (.long q0), .second, .val (.long q1), .second, .val (.long q2), .second, .val (.int i3), .val (.long a7), .second, .val (.long b9), .second, .val (.long b11), .second, .val (.int (1 : Int32)), .val (.int s14), .val (.long q15), .second, .val (.ref b10), .val (.int (own_mem q15 [a7 + (1 : Int64)])), .val (.int (own_mem a7 [a7 + (1 : Int64)])), .val (.int (own_mem b11 [a7 + (1 : Int64)]))] [(.int (1 : Int32)), (.long b11), (.long a7), (.long a7), (.int (own_mem a7 [a7 + (1 : Int64)]))]) (fun tq kq => st18 _ (XS.icmpNo X18.here hx rfl (hb hby at_186) rfl (teq (own_e1 q15 a7 b11)).2 (XS.iload X18.here hx rfl (hb hby at_189) rfl (XS.lload X18.here hx rfl (hb hby at_191) rfl (XS.lload X18.here hx rfl (hb hby at_193) rfl (XS.lload X18.here hx rfl (hb hby at_195) rfl (XS.iload X18.here hx rfl (hb hby at_197) rfl kq))))))) ?_
      obtain ⟨_, _, ⟨T19, L19, k19, n19⟩, -, X19, ⟨Lc19, hQ19, l19, y19, z19⟩, st19⟩ := Jvm.LawKit.callS X18 hx (y := (⟨"kehai/LongSetContainsPinLaw", "expect", "(JJJI)Z"⟩ : MethodName)) hown (mvT hZ (own_w hw 24 rfl)) (mvT hZ (own_w hw 25 rfl)) (mvT hZ (own_w hw 26 rfl)) (mvT hZ (own_w hw 27 rfl)) (by decide) (backOf (W := 1) (rmE l Z a0 hw [] a7 a7 b11 (1 : Int32) T13.heap n0 Zs13) hZ (own_w hw 27 rfl) (own_w hw 26 rfl) (by decide) (by decide)) (g := (mkF m 199 #[.val (.long q0), .second, .val (.long q1), .second, .val (.long q2), .second, .val (.int i3), .val (.long a7), .second, .val (.long b9), .second, .val (.long b11), .second, .val (.int (1 : Int32)), .val (.int s14), .val (.long q15), .second, .val (.ref b10), .val (.int (own_mem q15 [a7 + (1 : Int64)])), .val (.int (own_mem a7 [a7 + (1 : Int64)])), .val (.int (own_mem b11 [a7 + (1 : Int64)]))] [(.int (1 : Int32)), (.long b11), (.long a7), (.long a7), (.int (own_mem a7 [a7 + (1 : Int64)]))])) rfl (by rw [hml]; rfl) (argsL := [(.long a7), (.long a7), (.long b11), (.int (1 : Int32))]) (rest := [(.int (own_mem a7 [a7 + (1 : Int64)]))]) (lenOf pd_3 rfl) rfl (by show 2 * 0 + _ ≤ _; exact Nat.le_of_eq rfl) (hb hby at_199) (fun _ _ => ⟨rfl, e18, (by decide : 3 + 0 ≤ _), (by decide : 17411 + 0 ≤ _)⟩)
      dsimp only [Pt.U, Pt.locs, Pt.cells, Pt.slots] at X19 l19 y19 z19 st19 hQ19
      subst l19 y19 z19
      obtain ⟨rfl, N19q, e19⟩ := hQ19
      have N19 := Fr.app N18 N19q
      refine own_to T19 (mkF m 215 #[.val (.long q0), .second, .val (.long q1), .second, .val (.long q2), .second, .val (.int i3), .val (.long a7), .second, .val (.long b9), .second, .val (.long b11), .second, .val (.int (1 : Int32)), .val (.int s14), .val (.long q15), .second, .val (.ref b10), .val (.int (own_mem q15 [a7 + (1 : Int64)])), .val (.int (own_mem a7 [a7 + (1 : Int64)])), .val (.int (own_mem b11 [a7 + (1 : Int64)]))] [(.int (1 : Int32)), (.long b11), (.long a7), (.long b11), (.int (own_mem b11 [a7 + (1 : Int64)]))]) (fun tq kq => st19 _ (XS.icmpNo X19.here hx rfl (hb hby at_202) rfl (teq (own_e1 a7 a7 b11)).2 (XS.iload X19.here hx rfl (hb hby at_205) rfl (XS.lload X19.here hx rfl (hb hby at_207) rfl (XS.lload X19.here hx rfl (hb hby at_209) rfl (XS.lload X19.here hx rfl (hb hby at_211) rfl (XS.iload X19.here hx rfl (hb hby at_213) rfl kq))))))) ?_
      obtain ⟨_, _, ⟨T20, L20, k20, n20⟩, -, X20, ⟨Lc20, hQ20, l20, y20, z20⟩, st20⟩ := Jvm.LawKit.callS X19 hx (y := (⟨"kehai/LongSetContainsPinLaw", "expect", "(JJJI)Z"⟩ : MethodName)) hown (mvT hZ (own_w hw 24 rfl)) (mvT hZ (own_w hw 25 rfl)) (mvT hZ (own_w hw 26 rfl)) (mvT hZ (own_w hw 27 rfl)) (by decide) (backOf (W := 1) (rmE l Z a0 hw [] b11 a7 b11 (1 : Int32) T13.heap n0 Zs13) hZ (own_w hw 27 rfl) (own_w hw 26 rfl) (by decide) (by decide)) (g := (mkF m 215 #[.val (.long q0), .second, .val (.long q1), .second, .val (.long q2), .second, .val (.int i3), .val (.long a7), .second, .val (.long b9), .second, .val (.long b11), .second, .val (.int (1 : Int32)), .val (.int s14), .val (.long q15), .second, .val (.ref b10), .val (.int (own_mem q15 [a7 + (1 : Int64)])), .val (.int (own_mem a7 [a7 + (1 : Int64)])), .val (.int (own_mem b11 [a7 + (1 : Int64)]))] [(.int (1 : Int32)), (.long b11), (.long a7), (.long b11), (.int (own_mem b11 [a7 + (1 : Int64)]))])) rfl (by rw [hml]; rfl) (argsL := [(.long b11), (.long a7), (.long b11), (.int (1 : Int32))]) (rest := [(.int (own_mem b11 [a7 + (1 : Int64)]))]) (lenOf pd_3 rfl) rfl (by show 2 * 0 + _ ≤ _; exact Nat.le_of_eq rfl) (hb hby at_215) (fun _ _ => ⟨rfl, e19, (by decide : 3 + 0 ≤ _), (by decide : 17411 + 0 ≤ _)⟩)
      dsimp only [Pt.U, Pt.locs, Pt.cells, Pt.slots] at X20 l20 y20 z20 st20 hQ20
      subst l20 y20 z20
      obtain ⟨rfl, N20q, e20⟩ := hQ20
      have N20 := Fr.app N19 N20q
      refine own_to T20 (mkF m 226 #[.val (.long q0), .second, .val (.long q1), .second, .val (.long q2), .second, .val (.int i3), .val (.long a7), .second, .val (.long b9), .second, .val (.long b11), .second, .val (.int (1 : Int32)), .val (.int s14), .val (.long q15), .second, .val (.ref b10), .val (.int (own_mem q15 [a7 + (1 : Int64)])), .val (.int (own_mem a7 [a7 + (1 : Int64)])), .val (.int (own_mem b11 [a7 + (1 : Int64)]))] [(.int (1 : Int32))]) (fun tq kq => st20 _ (XS.icmpNo X20.here hx rfl (hb hby at_218) rfl (teq (own_e1 b11 a7 b11)).2 (XS.iconst X20.here hx rfl (hb hby at_221) (XS.goto X20.here hx rfl (pc0 := 222) (pc' := 226) rfl (hb hby at_222) (by decide) (by decide) kq)))) ?_
      exact own_retZ X20 hx hret hlk (hb hby at_226) (by decide) (by decide) (Or.inr rfl) ⟨rfl, N20⟩
    · skip
      obtain ⟨T21, h21, X21, e21, E21, A21, D21, -, st21⟩ := newO X0 hx hZ hown (own_w hw 1 rfl) (own_w hw 2 rfl) (own_w hw 3 rfl) e0 (g := (mkF m 111 #[.val (.long q0), .second, .val (.long q1), .second, .val (.long q2), .second, .val (.int i3), .val (.long a7), .second, .val (.long b9), .second, .val (.long b11), .second, .val (.int (2 : Int32)), .val (.int s14), .val (.long q15), .second, .unset, .unset, .unset, .unset] [])) rfl (hb hby at_111) (by decide) (by decide)
      obtain ⟨b21, g21⟩ : ∃ z, z = h0.size := ⟨_, rfl⟩
      rw [← g21] at A21 D21 st21
      have sz21 : n0 ≤ b21 := Nat.le_trans Z0 (Nat.le_of_eq g21.symm)
      have Zs21 : n0 ≤ h21.size := Nat.le_trans Z0 E21.1
      have F21_places : Fld Z h21 b21 "kehai/LongSet" "places" "[J" .null := D21 (Or.inl (own_w hw 12 rfl)) (ty := (.array .long)) (by decide)
      have F21_recent : Fld Z h21 b21 "kehai/LongSet" "recent" "[J" .null := D21 (Or.inr (own_w hw 14 rfl)) (ty := (.array .long)) (by decide)
      have F21_size : Fld Z h21 b21 "kehai/LongSet" "size" "I" (.int (0 : Int32)) := D21 (Or.inl (own_w hw 37 rfl)) (ty := .int) (by decide)
      refine own_to T21 (mkF m 115 #[.val (.long q0), .second, .val (.long q1), .second, .val (.long q2), .second, .val (.int i3), .val (.long a7), .second, .val (.long b9), .second, .val (.long b11), .second, .val (.int (2 : Int32)), .val (.int s14), .val (.long q15), .second, .unset, .unset, .unset, .unset] [(.ref b21), (.ref b21)]) (fun tq kq => st21 _ (XS.dup X21.here hx rfl (hb hby at_114) rfl rfl kq)) ?_
      obtain ⟨_, _, ⟨T22, L22, k22, n22⟩, -, X22, ⟨Lc22, hQ22, l22, y22, z22⟩, st22⟩ := X21.specialBack hx (y := (⟨"kehai/LongSet", "<init>", "()V"⟩ : MethodName)) rfl hown (mvT hZ (own_w hw 4 rfl)) (mvT hZ (own_w hw 5 rfl)) (mvT hZ (own_w hw 6 rfl)) (by decide) (backOf (W := 1) (rmI l Z a0 hw [] b21 h21 n0 Zs21 A21 F21_places F21_recent F21_size sz21) hZ (own_w hw 6 rfl) (own_w hw 3 rfl) (by decide) (by decide)) (g := (mkF m 115 #[.val (.long q0), .second, .val (.long q1), .second, .val (.long q2), .second, .val (.int i3), .val (.long a7), .second, .val (.long b9), .second, .val (.long b11), .second, .val (.int (2 : Int32)), .val (.int s14), .val (.long q15), .second, .unset, .unset, .unset, .unset] [(.ref b21), (.ref b21)])) rfl (by rw [hml]; rfl) (Steps.refl _) (a := b21) (argsL := []) (rest := [(.ref b21)]) (lenOf pd_0 rfl) rfl (by show 2 * 0 + _ ≤ _; exact Nat.le_of_eq rfl) (hb hby at_115) (fun _ _ => ⟨rfl, e21, (by decide : 1 + 2 ≤ _), (by decide : 3 + 17408 ≤ _)⟩)
      dsimp only [Pt.U, Pt.locs, Pt.cells, Pt.slots] at X22 l22 y22 z22 st22 hQ22
      subst l22 y22 z22
      obtain ⟨rfl, N22q, K22q, E22q, pl22, rc22, gp22, gr22, na22, nb22, nc22, F22a, F22b, F22c, V22a, V22b⟩ := hQ22
      have N22 := Fr.app (Fr.nil n0) N22q
      have f23 := A21.keep K22q
      have Zs22 : n0 ≤ T22.heap.size := Nat.le_trans Zs21 K22q.1
      refine own_to T22 (mkF m 130 #[.val (.long q0), .second, .val (.long q1), .second, .val (.long q2), .second, .val (.int i3), .val (.long a7), .second, .val (.long b9), .second, .val (.long b11), .second, .val (.int (2 : Int32)), .val (.int s14), .val (.long q15), .second, .val (.ref b21), .unset, .unset, .unset] [(.long a7), (.ref b21)]) (fun tq kq => st22.trans (XS.astore X22.here hx rfl (hb hby at_118) rfl rfl (l' := #[.val (.long q0), .second, .val (.long q1), .second, .val (.long q2), .second, .val (.int i3), .val (.long a7), .second, .val (.long b9), .second, .val (.long b11), .second, .val (.int (2 : Int32)), .val (.int s14), .val (.long q15), .second, .val (.ref b21), .unset, .unset, .unset]) rfl (XS.iload X22.here hx rfl (hb hby at_120) rfl (XS.iconst X22.here hx rfl (hb hby at_122) (XS.icmpNo X22.here hx rfl (hb hby at_123) rfl (flt (by decide : ¬ ((2 : Int32) < (1 : Int32)))).1 (XS.aload X22.here hx rfl (hb hby at_126) rfl rfl (XS.lload X22.here hx rfl (hb hby at_128) rfl kq))))))) ?_
      obtain ⟨cq24, kq24, q24a, q24b, q24c⟩ := isOf hZ rfl E22q
      obtain ⟨_, _, ⟨T24, L24, k24, n24⟩, -, X24, ⟨Lc24, hQ24, l24, y24, z24⟩, st24⟩ := X22.virtualBack hx (y := (⟨"kehai/LongSet", "add", "(J)V"⟩ : MethodName)) (z := (⟨"kehai/LongSet", "add", "(J)V"⟩ : MethodName)) hown (mvT hZ (own_w hw 31 rfl)) (mvT hZ (own_w hw 32 rfl)) (notFace_of_selects (args := #[]) (mvT hZ (own_w hw 34 rfl))) (mvT hZ (own_w hw 34 rfl)) (mvT hZ (own_w hw 33 rfl)) (by decide) (backOf (W := 0) (rmA l Z a0 hw [] b21 a7 pl22 rc22 (fun _ => 0) (fun _ => 0) [] (0 : Int32) T22.heap n0 Zs22 F22a F22b V22a V22b own_inv0 (Nat.le_of_ble_eq_true rfl) E22q F22c na22 nb22 nc22 sz21 gp22 gr22 ha1 (by decide)) hZ (own_w hw 35 rfl) (own_w hw 3 rfl) (by decide) (by decide)) q24a q24c (g := (mkF m 130 #[.val (.long q0), .second, .val (.long q1), .second, .val (.long q2), .second, .val (.int i3), .val (.long a7), .second, .val (.long b9), .second, .val (.long b11), .second, .val (.int (2 : Int32)), .val (.int s14), .val (.long q15), .second, .val (.ref b21), .unset, .unset, .unset] [(.long a7), (.ref b21)])) rfl (by rw [hml]; rfl) (Steps.refl _) (argsL := [(.long a7)]) (rest := []) (lenOf pd_4 rfl) rfl (by show 2 * 0 + _ ≤ _; exact Nat.le_of_eq rfl) (hb hby at_130) (fun _ _ => ⟨rfl, rfl, (by decide : 3 + 0 ≤ _), (by decide : 17411 + 0 ≤ _)⟩)
      dsimp only [Pt.U, Pt.locs, Pt.cells, Pt.slots] at X24 l24 y24 z24 st24 hQ24
      subst l24 y24 z24
      obtain ⟨rfl, N24q, K24q, E24q, F24a, F24b, ⟨sz24, F24c, hs24⟩, f24, g24, I24, V24a, V24b⟩ := hQ24
      have N24 := Fr.app N22 N24q
      have f25 := E22q.keep K24q
      have Zs24 : n0 ≤ T24.heap.size := Nat.le_trans Zs22 K24q.1
      refine own_to T24 (mkF m 143 #[.val (.long q0), .second, .val (.long q1), .second, .val (.long q2), .second, .val (.int i3), .val (.long a7), .second, .val (.long b9), .second, .val (.long b11), .second, .val (.int (2 : Int32)), .val (.int s14), .val (.long q15), .second, .val (.ref b21), .unset, .unset, .unset] [(.long b11), (.ref b21)]) (fun tq kq => st24.trans (XS.iload X24.here hx rfl (hb hby at_133) rfl (XS.iconst X24.here hx rfl (hb hby at_135) (XS.icmpNo X24.here hx rfl (hb hby at_136) rfl (flt (by decide : ¬ ((2 : Int32) < (2 : Int32)))).1 (XS.aload X24.here hx rfl (hb hby at_139) rfl rfl (XS.lload X24.here hx rfl (hb hby at_141) rfl kq)))))) ?_
      obtain ⟨cq26, kq26, q26a, q26b, q26c⟩ := isOf hZ rfl E24q
      obtain ⟨_, _, ⟨T26, L26, k26, n26⟩, -, X26, ⟨Lc26, hQ26, l26, y26, z26⟩, st26⟩ := X24.virtualBack hx (y := (⟨"kehai/LongSet", "add", "(J)V"⟩ : MethodName)) (z := (⟨"kehai/LongSet", "add", "(J)V"⟩ : MethodName)) hown (mvT hZ (own_w hw 31 rfl)) (mvT hZ (own_w hw 32 rfl)) (notFace_of_selects (args := #[]) (mvT hZ (own_w hw 34 rfl))) (mvT hZ (own_w hw 34 rfl)) (mvT hZ (own_w hw 33 rfl)) (by decide) (backOf (W := 0) (rmA l Z a0 hw [] b21 b11 pl22 rc22 f24 g24 [a7 + (1 : Int64)] sz24 T24.heap n0 Zs24 F24a F24b V24a V24b I24 (Nat.le_of_ble_eq_true rfl) E24q F24c na22 nb22 nc22 sz21 gp22 gr22 hb1 (by rcases hs24 with rfl | rfl <;> decide)) hZ (own_w hw 35 rfl) (own_w hw 3 rfl) (by decide) (by decide)) q26a q26c (g := (mkF m 143 #[.val (.long q0), .second, .val (.long q1), .second, .val (.long q2), .second, .val (.int i3), .val (.long a7), .second, .val (.long b9), .second, .val (.long b11), .second, .val (.int (2 : Int32)), .val (.int s14), .val (.long q15), .second, .val (.ref b21), .unset, .unset, .unset] [(.long b11), (.ref b21)])) rfl (by rw [hml]; rfl) (Steps.refl _) (argsL := [(.long b11)]) (rest := []) (lenOf pd_4 rfl) rfl (by show 2 * 0 + _ ≤ _; exact Nat.le_of_eq rfl) (hb hby at_143) (fun _ _ => ⟨rfl, rfl, (by decide : 3 + 0 ≤ _), (by decide : 17411 + 0 ≤ _)⟩)
      dsimp only [Pt.U, Pt.locs, Pt.cells, Pt.slots] at X26 l26 y26 z26 st26 hQ26
      subst l26 y26 z26
      obtain ⟨rfl, N26q, K26q, E26q, F26a, F26b, ⟨sz26, F26c, hs26⟩, f26, g26, I26, V26a, V26b⟩ := hQ26
      have N26 := Fr.app N24 N26q
      have f27 := E24q.keep K26q
      have Zs26 : n0 ≤ T26.heap.size := Nat.le_trans Zs24 K26q.1
      refine own_to T26 (mkF m 150 #[.val (.long q0), .second, .val (.long q1), .second, .val (.long q2), .second, .val (.int i3), .val (.long a7), .second, .val (.long b9), .second, .val (.long b11), .second, .val (.int (2 : Int32)), .val (.int s14), .val (.long q15), .second, .val (.ref b21), .unset, .unset, .unset] [(.long q15), (.ref b21)]) (fun tq kq => st26.trans (XS.aload X26.here hx rfl (hb hby at_146) rfl rfl (XS.lload X26.here hx rfl (hb hby at_148) rfl kq))) ?_
      obtain ⟨cq28, kq28, q28a, q28b, q28c⟩ := isOf hZ rfl E26q
      obtain ⟨_, _, ⟨T28, L28, k28, n28⟩, -, X28, ⟨Lc28, hQ28, l28, y28, z28⟩, st28⟩ := X26.virtualBack hx (y := (⟨"kehai/LongSet", "contains", "(J)Z"⟩ : MethodName)) (z := (⟨"kehai/LongSet", "contains", "(J)Z"⟩ : MethodName)) hown (mvT hZ (own_w hw 15 rfl)) (mvT hZ (own_w hw 16 rfl)) (notFace_of_selects (args := #[]) (mvT hZ (own_w hw 18 rfl))) (mvT hZ (own_w hw 18 rfl)) (mvT hZ (own_w hw 17 rfl)) (by decide) (backOf (W := 0) (rmC l Z a0 hw [] b21 q15 pl22 rc22 f26 g26 [b11 + (1 : Int64), a7 + (1 : Int64)] T26.heap n0 Zs26 F26a F26b V26a V26b I26 (Nat.le_of_ble_eq_true rfl)) hZ (own_w hw 19 rfl) (own_w hw 3 rfl) (by decide) (by decide)) q28a q28c (g := (mkF m 150 #[.val (.long q0), .second, .val (.long q1), .second, .val (.long q2), .second, .val (.int i3), .val (.long a7), .second, .val (.long b9), .second, .val (.long b11), .second, .val (.int (2 : Int32)), .val (.int s14), .val (.long q15), .second, .val (.ref b21), .unset, .unset, .unset] [(.long q15), (.ref b21)])) rfl (by rw [hml]; rfl) (Steps.refl _) (argsL := [(.long q15)]) (rest := []) (lenOf pd_1 rfl) rfl (by show 2 * 0 + _ ≤ _; exact Nat.le_of_eq rfl) (hb hby at_150) (fun _ _ => ⟨rfl, rfl, (by decide : 3 + 0 ≤ _), (by decide : 17411 + 0 ≤ _)⟩)
      dsimp only [Pt.U, Pt.locs, Pt.cells, Pt.slots] at X28 l28 y28 z28 st28 hQ28
      subst l28 y28 z28
      obtain ⟨rfl, N28q, e28⟩ := hQ28
      have N28 := Fr.app N26 N28q
      refine own_to T28 (mkF m 159 #[.val (.long q0), .second, .val (.long q1), .second, .val (.long q2), .second, .val (.int i3), .val (.long a7), .second, .val (.long b9), .second, .val (.long b11), .second, .val (.int (2 : Int32)), .val (.int s14), .val (.long q15), .second, .val (.ref b21), .val (.int (own_mem q15 [b11 + (1 : Int64), a7 + (1 : Int64)])), .unset, .unset] [(.long a7), (.ref b21)]) (fun tq kq => st28.trans (XS.istore X28.here hx rfl (hb hby at_153) rfl (l' := #[.val (.long q0), .second, .val (.long q1), .second, .val (.long q2), .second, .val (.int i3), .val (.long a7), .second, .val (.long b9), .second, .val (.long b11), .second, .val (.int (2 : Int32)), .val (.int s14), .val (.long q15), .second, .val (.ref b21), .val (.int (own_mem q15 [b11 + (1 : Int64), a7 + (1 : Int64)])), .unset, .unset]) rfl (XS.aload X28.here hx rfl (hb hby at_155) rfl rfl (XS.lload X28.here hx rfl (hb hby at_157) rfl kq)))) ?_
      obtain ⟨cq29, kq29, q29a, q29b, q29c⟩ := isOf hZ e28 E26q
      obtain ⟨_, _, ⟨T29, L29, k29, n29⟩, -, X29, ⟨Lc29, hQ29, l29, y29, z29⟩, st29⟩ := X28.virtualBack hx (y := (⟨"kehai/LongSet", "contains", "(J)Z"⟩ : MethodName)) (z := (⟨"kehai/LongSet", "contains", "(J)Z"⟩ : MethodName)) hown (mvT hZ (own_w hw 15 rfl)) (mvT hZ (own_w hw 16 rfl)) (notFace_of_selects (args := #[]) (mvT hZ (own_w hw 18 rfl))) (mvT hZ (own_w hw 18 rfl)) (mvT hZ (own_w hw 17 rfl)) (by decide) (backOf (W := 0) (rmC l Z a0 hw [] b21 a7 pl22 rc22 f26 g26 [b11 + (1 : Int64), a7 + (1 : Int64)] T26.heap n0 Zs26 F26a F26b V26a V26b I26 (Nat.le_of_ble_eq_true rfl)) hZ (own_w hw 19 rfl) (own_w hw 3 rfl) (by decide) (by decide)) q29a q29c (g := (mkF m 159 #[.val (.long q0), .second, .val (.long q1), .second, .val (.long q2), .second, .val (.int i3), .val (.long a7), .second, .val (.long b9), .second, .val (.long b11), .second, .val (.int (2 : Int32)), .val (.int s14), .val (.long q15), .second, .val (.ref b21), .val (.int (own_mem q15 [b11 + (1 : Int64), a7 + (1 : Int64)])), .unset, .unset] [(.long a7), (.ref b21)])) rfl (by rw [hml]; rfl) (Steps.refl _) (argsL := [(.long a7)]) (rest := []) (lenOf pd_1 rfl) rfl (by show 2 * 0 + _ ≤ _; exact Nat.le_of_eq rfl) (hb hby at_159) (fun _ _ => ⟨rfl, e28, (by decide : 3 + 0 ≤ _), (by decide : 17411 + 0 ≤ _)⟩)
      dsimp only [Pt.U, Pt.locs, Pt.cells, Pt.slots] at X29 l29 y29 z29 st29 hQ29
      subst l29 y29 z29
      obtain ⟨rfl, N29q, e29⟩ := hQ29
      have N29 := Fr.app N28 N29q
      refine own_to T29 (mkF m 168 #[.val (.long q0), .second, .val (.long q1), .second, .val (.long q2), .second, .val (.int i3), .val (.long a7), .second, .val (.long b9), .second, .val (.long b11), .second, .val (.int (2 : Int32)), .val (.int s14), .val (.long q15), .second, .val (.ref b21), .val (.int (own_mem q15 [b11 + (1 : Int64), a7 + (1 : Int64)])), .val (.int (own_mem a7 [b11 + (1 : Int64), a7 + (1 : Int64)])), .unset] [(.long b11), (.ref b21)]) (fun tq kq => st29.trans (XS.istore X29.here hx rfl (hb hby at_162) rfl (l' := #[.val (.long q0), .second, .val (.long q1), .second, .val (.long q2), .second, .val (.int i3), .val (.long a7), .second, .val (.long b9), .second, .val (.long b11), .second, .val (.int (2 : Int32)), .val (.int s14), .val (.long q15), .second, .val (.ref b21), .val (.int (own_mem q15 [b11 + (1 : Int64), a7 + (1 : Int64)])), .val (.int (own_mem a7 [b11 + (1 : Int64), a7 + (1 : Int64)])), .unset]) rfl (XS.aload X29.here hx rfl (hb hby at_164) rfl rfl (XS.lload X29.here hx rfl (hb hby at_166) rfl kq)))) ?_
      obtain ⟨cq30, kq30, q30a, q30b, q30c⟩ := isOf hZ e29 E26q
      obtain ⟨_, _, ⟨T30, L30, k30, n30⟩, -, X30, ⟨Lc30, hQ30, l30, y30, z30⟩, st30⟩ := X29.virtualBack hx (y := (⟨"kehai/LongSet", "contains", "(J)Z"⟩ : MethodName)) (z := (⟨"kehai/LongSet", "contains", "(J)Z"⟩ : MethodName)) hown (mvT hZ (own_w hw 15 rfl)) (mvT hZ (own_w hw 16 rfl)) (notFace_of_selects (args := #[]) (mvT hZ (own_w hw 18 rfl))) (mvT hZ (own_w hw 18 rfl)) (mvT hZ (own_w hw 17 rfl)) (by decide) (backOf (W := 0) (rmC l Z a0 hw [] b21 b11 pl22 rc22 f26 g26 [b11 + (1 : Int64), a7 + (1 : Int64)] T26.heap n0 Zs26 F26a F26b V26a V26b I26 (Nat.le_of_ble_eq_true rfl)) hZ (own_w hw 19 rfl) (own_w hw 3 rfl) (by decide) (by decide)) q30a q30c (g := (mkF m 168 #[.val (.long q0), .second, .val (.long q1), .second, .val (.long q2), .second, .val (.int i3), .val (.long a7), .second, .val (.long b9), .second, .val (.long b11), .second, .val (.int (2 : Int32)), .val (.int s14), .val (.long q15), .second, .val (.ref b21), .val (.int (own_mem q15 [b11 + (1 : Int64), a7 + (1 : Int64)])), .val (.int (own_mem a7 [b11 + (1 : Int64), a7 + (1 : Int64)])), .unset] [(.long b11), (.ref b21)])) rfl (by rw [hml]; rfl) (Steps.refl _) (argsL := [(.long b11)]) (rest := []) (lenOf pd_1 rfl) rfl (by show 2 * 0 + _ ≤ _; exact Nat.le_of_eq rfl) (hb hby at_168) (fun _ _ => ⟨rfl, e29, (by decide : 3 + 0 ≤ _), (by decide : 17411 + 0 ≤ _)⟩)
      dsimp only [Pt.U, Pt.locs, Pt.cells, Pt.slots] at X30 l30 y30 z30 st30 hQ30
      subst l30 y30 z30
      obtain ⟨rfl, N30q, e30⟩ := hQ30
      have N30 := Fr.app N29 N30q
      refine own_to T30 (mkF m 183 #[.val (.long q0), .second, .val (.long q1), .second, .val (.long q2), .second, .val (.int i3), .val (.long a7), .second, .val (.long b9), .second, .val (.long b11), .second, .val (.int (2 : Int32)), .val (.int s14), .val (.long q15), .second, .val (.ref b21), .val (.int (own_mem q15 [b11 + (1 : Int64), a7 + (1 : Int64)])), .val (.int (own_mem a7 [b11 + (1 : Int64), a7 + (1 : Int64)])), .val (.int (own_mem b11 [b11 + (1 : Int64), a7 + (1 : Int64)]))] [(.int (2 : Int32)), (.long b11), (.long a7), (.long q15), (.int (own_mem q15 [b11 + (1 : Int64), a7 + (1 : Int64)]))]) (fun tq kq => st30.trans (XS.istore X30.here hx rfl (hb hby at_171) rfl (l' := #[.val (.long q0), .second, .val (.long q1), .second, .val (.long q2), .second, .val (.int i3), .val (.long a7), .second, .val (.long b9), .second, .val (.long b11), .second, .val (.int (2 : Int32)), .val (.int s14), .val (.long q15), .second, .val (.ref b21), .val (.int (own_mem q15 [b11 + (1 : Int64), a7 + (1 : Int64)])), .val (.int (own_mem a7 [b11 + (1 : Int64), a7 + (1 : Int64)])), .val (.int (own_mem b11 [b11 + (1 : Int64), a7 + (1 : Int64)]))]) rfl (XS.iload X30.here hx rfl (hb hby at_173) rfl (XS.lload X30.here hx rfl (hb hby at_175) rfl (XS.lload X30.here hx rfl (hb hby at_177) rfl (XS.lload X30.here hx rfl (hb hby at_179) rfl (XS.iload X30.here hx rfl (hb hby at_181) rfl kq))))))) ?_
      obtain ⟨_, _, ⟨T31, L31, k31, n31⟩, -, X31, ⟨Lc31, hQ31, l31, y31, z31⟩, st31⟩ := Jvm.LawKit.callS X30 hx (y := (⟨"kehai/LongSetContainsPinLaw", "expect", "(JJJI)Z"⟩ : MethodName)) hown (mvT hZ (own_w hw 24 rfl)) (mvT hZ (own_w hw 25 rfl)) (mvT hZ (own_w hw 26 rfl)) (mvT hZ (own_w hw 27 rfl)) (by decide) (backOf (W := 1) (rmE l Z a0 hw [] q15 a7 b11 (2 : Int32) T26.heap n0 Zs26) hZ (own_w hw 27 rfl) (own_w hw 26 rfl) (by decide) (by decide)) (g := (mkF m 183 #[.val (.long q0), .second, .val (.long q1), .second, .val (.long q2), .second, .val (.int i3), .val (.long a7), .second, .val (.long b9), .second, .val (.long b11), .second, .val (.int (2 : Int32)), .val (.int s14), .val (.long q15), .second, .val (.ref b21), .val (.int (own_mem q15 [b11 + (1 : Int64), a7 + (1 : Int64)])), .val (.int (own_mem a7 [b11 + (1 : Int64), a7 + (1 : Int64)])), .val (.int (own_mem b11 [b11 + (1 : Int64), a7 + (1 : Int64)]))] [(.int (2 : Int32)), (.long b11), (.long a7), (.long q15), (.int (own_mem q15 [b11 + (1 : Int64), a7 + (1 : Int64)]))])) rfl (by rw [hml]; rfl) (argsL := [(.long q15), (.long a7), (.long b11), (.int (2 : Int32))]) (rest := [(.int (own_mem q15 [b11 + (1 : Int64), a7 + (1 : Int64)]))]) (lenOf pd_3 rfl) rfl (by show 2 * 0 + _ ≤ _; exact Nat.le_of_eq rfl) (hb hby at_183) (fun _ _ => ⟨rfl, e30, (by decide : 3 + 0 ≤ _), (by decide : 17411 + 0 ≤ _)⟩)
      dsimp only [Pt.U, Pt.locs, Pt.cells, Pt.slots] at X31 l31 y31 z31 st31 hQ31
      subst l31 y31 z31
      obtain ⟨rfl, N31q, e31⟩ := hQ31
      have N31 := Fr.app N30 N31q
      refine own_to T31 (mkF m 199 #[.val (.long q0), .second, .val (.long q1), .second, .val (.long q2), .second, .val (.int i3), .val (.long a7), .second, .val (.long b9), .second, .val (.long b11), .second, .val (.int (2 : Int32)), .val (.int s14), .val (.long q15), .second, .val (.ref b21), .val (.int (own_mem q15 [b11 + (1 : Int64), a7 + (1 : Int64)])), .val (.int (own_mem a7 [b11 + (1 : Int64), a7 + (1 : Int64)])), .val (.int (own_mem b11 [b11 + (1 : Int64), a7 + (1 : Int64)]))] [(.int (2 : Int32)), (.long b11), (.long a7), (.long a7), (.int (own_mem a7 [b11 + (1 : Int64), a7 + (1 : Int64)]))]) (fun tq kq => st31 _ (XS.icmpNo X31.here hx rfl (hb hby at_186) rfl (teq (own_e2 q15 a7 b11)).2 (XS.iload X31.here hx rfl (hb hby at_189) rfl (XS.lload X31.here hx rfl (hb hby at_191) rfl (XS.lload X31.here hx rfl (hb hby at_193) rfl (XS.lload X31.here hx rfl (hb hby at_195) rfl (XS.iload X31.here hx rfl (hb hby at_197) rfl kq))))))) ?_
      obtain ⟨_, _, ⟨T32, L32, k32, n32⟩, -, X32, ⟨Lc32, hQ32, l32, y32, z32⟩, st32⟩ := Jvm.LawKit.callS X31 hx (y := (⟨"kehai/LongSetContainsPinLaw", "expect", "(JJJI)Z"⟩ : MethodName)) hown (mvT hZ (own_w hw 24 rfl)) (mvT hZ (own_w hw 25 rfl)) (mvT hZ (own_w hw 26 rfl)) (mvT hZ (own_w hw 27 rfl)) (by decide) (backOf (W := 1) (rmE l Z a0 hw [] a7 a7 b11 (2 : Int32) T26.heap n0 Zs26) hZ (own_w hw 27 rfl) (own_w hw 26 rfl) (by decide) (by decide)) (g := (mkF m 199 #[.val (.long q0), .second, .val (.long q1), .second, .val (.long q2), .second, .val (.int i3), .val (.long a7), .second, .val (.long b9), .second, .val (.long b11), .second, .val (.int (2 : Int32)), .val (.int s14), .val (.long q15), .second, .val (.ref b21), .val (.int (own_mem q15 [b11 + (1 : Int64), a7 + (1 : Int64)])), .val (.int (own_mem a7 [b11 + (1 : Int64), a7 + (1 : Int64)])), .val (.int (own_mem b11 [b11 + (1 : Int64), a7 + (1 : Int64)]))] [(.int (2 : Int32)), (.long b11), (.long a7), (.long a7), (.int (own_mem a7 [b11 + (1 : Int64), a7 + (1 : Int64)]))])) rfl (by rw [hml]; rfl) (argsL := [(.long a7), (.long a7), (.long b11), (.int (2 : Int32))]) (rest := [(.int (own_mem a7 [b11 + (1 : Int64), a7 + (1 : Int64)]))]) (lenOf pd_3 rfl) rfl (by show 2 * 0 + _ ≤ _; exact Nat.le_of_eq rfl) (hb hby at_199) (fun _ _ => ⟨rfl, e31, (by decide : 3 + 0 ≤ _), (by decide : 17411 + 0 ≤ _)⟩)
      dsimp only [Pt.U, Pt.locs, Pt.cells, Pt.slots] at X32 l32 y32 z32 st32 hQ32
      subst l32 y32 z32
      obtain ⟨rfl, N32q, e32⟩ := hQ32
      have N32 := Fr.app N31 N32q
      refine own_to T32 (mkF m 215 #[.val (.long q0), .second, .val (.long q1), .second, .val (.long q2), .second, .val (.int i3), .val (.long a7), .second, .val (.long b9), .second, .val (.long b11), .second, .val (.int (2 : Int32)), .val (.int s14), .val (.long q15), .second, .val (.ref b21), .val (.int (own_mem q15 [b11 + (1 : Int64), a7 + (1 : Int64)])), .val (.int (own_mem a7 [b11 + (1 : Int64), a7 + (1 : Int64)])), .val (.int (own_mem b11 [b11 + (1 : Int64), a7 + (1 : Int64)]))] [(.int (2 : Int32)), (.long b11), (.long a7), (.long b11), (.int (own_mem b11 [b11 + (1 : Int64), a7 + (1 : Int64)]))]) (fun tq kq => st32 _ (XS.icmpNo X32.here hx rfl (hb hby at_202) rfl (teq (own_e2 a7 a7 b11)).2 (XS.iload X32.here hx rfl (hb hby at_205) rfl (XS.lload X32.here hx rfl (hb hby at_207) rfl (XS.lload X32.here hx rfl (hb hby at_209) rfl (XS.lload X32.here hx rfl (hb hby at_211) rfl (XS.iload X32.here hx rfl (hb hby at_213) rfl kq))))))) ?_
      obtain ⟨_, _, ⟨T33, L33, k33, n33⟩, -, X33, ⟨Lc33, hQ33, l33, y33, z33⟩, st33⟩ := Jvm.LawKit.callS X32 hx (y := (⟨"kehai/LongSetContainsPinLaw", "expect", "(JJJI)Z"⟩ : MethodName)) hown (mvT hZ (own_w hw 24 rfl)) (mvT hZ (own_w hw 25 rfl)) (mvT hZ (own_w hw 26 rfl)) (mvT hZ (own_w hw 27 rfl)) (by decide) (backOf (W := 1) (rmE l Z a0 hw [] b11 a7 b11 (2 : Int32) T26.heap n0 Zs26) hZ (own_w hw 27 rfl) (own_w hw 26 rfl) (by decide) (by decide)) (g := (mkF m 215 #[.val (.long q0), .second, .val (.long q1), .second, .val (.long q2), .second, .val (.int i3), .val (.long a7), .second, .val (.long b9), .second, .val (.long b11), .second, .val (.int (2 : Int32)), .val (.int s14), .val (.long q15), .second, .val (.ref b21), .val (.int (own_mem q15 [b11 + (1 : Int64), a7 + (1 : Int64)])), .val (.int (own_mem a7 [b11 + (1 : Int64), a7 + (1 : Int64)])), .val (.int (own_mem b11 [b11 + (1 : Int64), a7 + (1 : Int64)]))] [(.int (2 : Int32)), (.long b11), (.long a7), (.long b11), (.int (own_mem b11 [b11 + (1 : Int64), a7 + (1 : Int64)]))])) rfl (by rw [hml]; rfl) (argsL := [(.long b11), (.long a7), (.long b11), (.int (2 : Int32))]) (rest := [(.int (own_mem b11 [b11 + (1 : Int64), a7 + (1 : Int64)]))]) (lenOf pd_3 rfl) rfl (by show 2 * 0 + _ ≤ _; exact Nat.le_of_eq rfl) (hb hby at_215) (fun _ _ => ⟨rfl, e32, (by decide : 3 + 0 ≤ _), (by decide : 17411 + 0 ≤ _)⟩)
      dsimp only [Pt.U, Pt.locs, Pt.cells, Pt.slots] at X33 l33 y33 z33 st33 hQ33
      subst l33 y33 z33
      obtain ⟨rfl, N33q, e33⟩ := hQ33
      have N33 := Fr.app N32 N33q
      refine own_to T33 (mkF m 226 #[.val (.long q0), .second, .val (.long q1), .second, .val (.long q2), .second, .val (.int i3), .val (.long a7), .second, .val (.long b9), .second, .val (.long b11), .second, .val (.int (2 : Int32)), .val (.int s14), .val (.long q15), .second, .val (.ref b21), .val (.int (own_mem q15 [b11 + (1 : Int64), a7 + (1 : Int64)])), .val (.int (own_mem a7 [b11 + (1 : Int64), a7 + (1 : Int64)])), .val (.int (own_mem b11 [b11 + (1 : Int64), a7 + (1 : Int64)]))] [(.int (1 : Int32))]) (fun tq kq => st33 _ (XS.icmpNo X33.here hx rfl (hb hby at_218) rfl (teq (own_e2 b11 a7 b11)).2 (XS.iconst X33.here hx rfl (hb hby at_221) (XS.goto X33.here hx rfl (pc0 := 222) (pc' := 226) rfl (hb hby at_222) (by decide) (by decide) kq)))) ?_
      exact own_retZ X33 hx hret hlk (hb hby at_226) (by decide) (by decide) (Or.inr rfl) ⟨rfl, N33⟩
  have J59 : ∀ (a7 b9 b11 : Int64) (n13 : Int32), ¬ a7 < (0 : Int64) → ¬ b11 < (0 : Int64) → (n13 = 0 ∨ n13 = 1 ∨ n13 = 2) → Own p e below s room_1.cells room_1.slots (Q_rm0 Z q0 q1 q2 i3 h0 n0) s₁ (mkF m 59 #[.val (.long q0), .second, .val (.long q1), .second, .val (.long q2), .second, .val (.int i3), .val (.long a7), .second, .val (.long b9), .second, .val (.long b11), .second, .val (.int n13), .unset, .unset, .unset, .unset, .unset, .unset, .unset] []) := by
    intro a7 b9 b11 n13 ha1 hb1 hn1
    refine own_to s₁ (mkF m 67 #[.val (.long q0), .second, .val (.long q1), .second, .val (.long q2), .second, .val (.int i3), .val (.long a7), .second, .val (.long b9), .second, .val (.long b11), .second, .val (.int n13), .val (.int (i3 &&& (3 : Int32))), .unset, .unset, .unset, .unset, .unset, .unset] [(.int (i3 &&& (3 : Int32)))]) (fun tq kq => XS.iload X0.here hx rfl (hb hby at_59) rfl (XS.iconst X0.here hx rfl (hb hby at_61) (XS.iand X0.here hx rfl (hb hby at_62) rfl (XS.istore X0.here hx rfl (hb hby at_63) rfl (l' := #[.val (.long q0), .second, .val (.long q1), .second, .val (.long q2), .second, .val (.int i3), .val (.long a7), .second, .val (.long b9), .second, .val (.long b11), .second, .val (.int n13), .val (.int (i3 &&& (3 : Int32))), .unset, .unset, .unset, .unset, .unset, .unset]) rfl (XS.iload X0.here hx rfl (hb hby at_65) rfl kq))))) ?_
    by_cases c67 : (i3 &&& (3 : Int32)) = (0 : Int32)
    · skip
      refine own_to s₁ (mkF m 111 #[.val (.long q0), .second, .val (.long q1), .second, .val (.long q2), .second, .val (.int i3), .val (.long a7), .second, .val (.long b9), .second, .val (.long b11), .second, .val (.int n13), .val (.int (i3 &&& (3 : Int32))), .val (.long a7), .second, .unset, .unset, .unset, .unset] []) (fun tq kq => XS.ifNo X0.here hx rfl (hb hby at_67) rfl ((if0 _ _).trans (teq c67).2) (XS.lload X0.here hx rfl (hb hby at_70) rfl (XS.lstore X0.here hx rfl (hb hby at_72) rfl (l' := #[.val (.long q0), .second, .val (.long q1), .second, .val (.long q2), .second, .val (.int i3), .val (.long a7), .second, .val (.long b9), .second, .val (.long b11), .second, .val (.int n13), .val (.int (i3 &&& (3 : Int32))), .val (.long a7), .second, .unset, .unset, .unset, .unset]) rfl (XS.goto X0.here hx rfl (pc0 := 74) (pc' := 111) rfl (hb hby at_74) (by decide) (by decide) kq)))) ?_
      exact J111 _ _ _ _ _ _ ha1 hb1 hn1
    · skip
      refine own_to s₁ (mkF m 80 #[.val (.long q0), .second, .val (.long q1), .second, .val (.long q2), .second, .val (.int i3), .val (.long a7), .second, .val (.long b9), .second, .val (.long b11), .second, .val (.int n13), .val (.int (i3 &&& (3 : Int32))), .unset, .unset, .unset, .unset, .unset, .unset] [(.int (1 : Int32)), (.int (i3 &&& (3 : Int32)))]) (fun tq kq => XS.ifYes X0.here hx rfl (pc0 := 67) (pc' := 77) rfl (hb hby at_67) rfl ((if0 _ _).trans (feq c67).2) (by decide) (by decide) (XS.iload X0.here hx rfl (hb hby at_77) rfl (XS.iconst X0.here hx rfl (hb hby at_79) kq))) ?_
      by_cases c80 : (i3 &&& (3 : Int32)) = (1 : Int32)
      · skip
        refine own_to s₁ (mkF m 111 #[.val (.long q0), .second, .val (.long q1), .second, .val (.long q2), .second, .val (.int i3), .val (.long a7), .second, .val (.long b9), .second, .val (.long b11), .second, .val (.int n13), .val (.int (i3 &&& (3 : Int32))), .val (.long b11), .second, .unset, .unset, .unset, .unset] []) (fun tq kq => XS.icmpNo X0.here hx rfl (hb hby at_80) rfl (teq c80).2 (XS.lload X0.here hx rfl (hb hby at_83) rfl (XS.lstore X0.here hx rfl (hb hby at_85) rfl (l' := #[.val (.long q0), .second, .val (.long q1), .second, .val (.long q2), .second, .val (.int i3), .val (.long a7), .second, .val (.long b9), .second, .val (.long b11), .second, .val (.int n13), .val (.int (i3 &&& (3 : Int32))), .val (.long b11), .second, .unset, .unset, .unset, .unset]) rfl (XS.goto X0.here hx rfl (pc0 := 87) (pc' := 111) rfl (hb hby at_87) (by decide) (by decide) kq)))) ?_
        exact J111 _ _ _ _ _ _ ha1 hb1 hn1
      · skip
        refine own_to s₁ (mkF m 93 #[.val (.long q0), .second, .val (.long q1), .second, .val (.long q2), .second, .val (.int i3), .val (.long a7), .second, .val (.long b9), .second, .val (.long b11), .second, .val (.int n13), .val (.int (i3 &&& (3 : Int32))), .unset, .unset, .unset, .unset, .unset, .unset] [(.int (2 : Int32)), (.int (i3 &&& (3 : Int32)))]) (fun tq kq => XS.icmpYes X0.here hx rfl (pc0 := 80) (pc' := 90) rfl (hb hby at_80) rfl (feq c80).2 (by decide) (by decide) (XS.iload X0.here hx rfl (hb hby at_90) rfl (XS.iconst X0.here hx rfl (hb hby at_92) kq))) ?_
        by_cases c93 : (i3 &&& (3 : Int32)) = (2 : Int32)
        · skip
          refine own_to s₁ (mkF m 111 #[.val (.long q0), .second, .val (.long q1), .second, .val (.long q2), .second, .val (.int i3), .val (.long a7), .second, .val (.long b9), .second, .val (.long b11), .second, .val (.int n13), .val (.int (i3 &&& (3 : Int32))), .val (.long q2), .second, .unset, .unset, .unset, .unset] []) (fun tq kq => XS.icmpNo X0.here hx rfl (hb hby at_93) rfl (teq c93).2 (XS.lload X0.here hx rfl (hb hby at_96) rfl (XS.lstore X0.here hx rfl (hb hby at_98) rfl (l' := #[.val (.long q0), .second, .val (.long q1), .second, .val (.long q2), .second, .val (.int i3), .val (.long a7), .second, .val (.long b9), .second, .val (.long b11), .second, .val (.int n13), .val (.int (i3 &&& (3 : Int32))), .val (.long q2), .second, .unset, .unset, .unset, .unset]) rfl (XS.goto X0.here hx rfl (pc0 := 100) (pc' := 111) rfl (hb hby at_100) (by decide) (by decide) kq)))) ?_
          exact J111 _ _ _ _ _ _ ha1 hb1 hn1
        · skip
          refine own_to s₁ (mkF m 111 #[.val (.long q0), .second, .val (.long q1), .second, .val (.long q2), .second, .val (.int i3), .val (.long a7), .second, .val (.long b9), .second, .val (.long b11), .second, .val (.int n13), .val (.int (i3 &&& (3 : Int32))), .val (.long (a7 ^^^ (1024 : Int64))), .second, .unset, .unset, .unset, .unset] []) (fun tq kq => XS.icmpYes X0.here hx rfl (pc0 := 93) (pc' := 103) rfl (hb hby at_93) rfl (feq c93).2 (by decide) (by decide) (XS.lload X0.here hx rfl (hb hby at_103) rfl (X0.ldc2Long hx hown (mvT hZ (own_w hw 30 rfl)) (g := (mkF m 105 #[.val (.long q0), .second, .val (.long q1), .second, .val (.long q2), .second, .val (.int i3), .val (.long a7), .second, .val (.long b9), .second, .val (.long b11), .second, .val (.int n13), .val (.int (i3 &&& (3 : Int32))), .unset, .unset, .unset, .unset, .unset, .unset] [(.long a7)])) rfl (hb hby at_105) _ (XS.lxor X0.here hx rfl (hb hby at_108) rfl (XS.lstore X0.here hx rfl (hb hby at_109) rfl (l' := #[.val (.long q0), .second, .val (.long q1), .second, .val (.long q2), .second, .val (.int i3), .val (.long a7), .second, .val (.long b9), .second, .val (.long b11), .second, .val (.int n13), .val (.int (i3 &&& (3 : Int32))), .val (.long (a7 ^^^ (1024 : Int64))), .second, .unset, .unset, .unset, .unset]) rfl kq))))) ?_
          exact J111 _ _ _ _ _ _ ha1 hb1 hn1
  have J40 : ∀ (a7 b9 b11 : Int64), ¬ a7 < (0 : Int64) → ¬ b11 < (0 : Int64) → Own p e below s room_1.cells room_1.slots (Q_rm0 Z q0 q1 q2 i3 h0 n0) s₁ (mkF m 40 #[.val (.long q0), .second, .val (.long q1), .second, .val (.long q2), .second, .val (.int i3), .val (.long a7), .second, .val (.long b9), .second, .unset, .unset, .unset, .unset, .unset, .unset, .unset, .unset, .unset, .unset] [(.long b11)]) := by
    intro a7 b9 b11 ha1 hb1
    refine own_to s₁ (mkF m 48 #[.val (.long q0), .second, .val (.long q1), .second, .val (.long q2), .second, .val (.int i3), .val (.long a7), .second, .val (.long b9), .second, .val (.long b11), .second, .unset, .unset, .unset, .unset, .unset, .unset, .unset, .unset] [(.int (((i3.toUInt32 >>> ((2 : Int32) &&& 31).toUInt32).toInt32) &&& (3 : Int32)))]) (fun tq kq => XS.lstore X0.here hx rfl (hb hby at_40) rfl (l' := #[.val (.long q0), .second, .val (.long q1), .second, .val (.long q2), .second, .val (.int i3), .val (.long a7), .second, .val (.long b9), .second, .val (.long b11), .second, .unset, .unset, .unset, .unset, .unset, .unset, .unset, .unset]) rfl (XS.iload X0.here hx rfl (hb hby at_42) rfl (XS.iconst X0.here hx rfl (hb hby at_44) (XS.iushr X0.here hx rfl (hb hby at_45) rfl (XS.iconst X0.here hx rfl (hb hby at_46) (XS.iand X0.here hx rfl (hb hby at_47) rfl kq)))))) ?_
    obtain ⟨n13, hn13⟩ : ∃ v, v = (((i3.toUInt32 >>> ((2 : Int32) &&& 31).toUInt32).toInt32) &&& (3 : Int32)) := ⟨_, rfl⟩
    rw [← hn13]
    have bn := c_and (((i3.toUInt32 >>> ((2 : Int32) &&& 31).toUInt32).toInt32)) (3 : Int32) (by decide)
    rw [← hn13] at bn
    have z3 : (3 : Int32).toInt = 3 := by decide
    refine own_to s₁ (mkF m 53 #[.val (.long q0), .second, .val (.long q1), .second, .val (.long q2), .second, .val (.int i3), .val (.long a7), .second, .val (.long b9), .second, .val (.long b11), .second, .val (.int n13), .unset, .unset, .unset, .unset, .unset, .unset, .unset] [(.int (2 : Int32)), (.int n13)]) (fun tq kq => XS.istore X0.here hx rfl (hb hby at_48) rfl (l' := #[.val (.long q0), .second, .val (.long q1), .second, .val (.long q2), .second, .val (.int i3), .val (.long a7), .second, .val (.long b9), .second, .val (.long b11), .second, .val (.int n13), .unset, .unset, .unset, .unset, .unset, .unset, .unset]) rfl (XS.iload X0.here hx rfl (hb hby at_50) rfl (XS.iconst X0.here hx rfl (hb hby at_52) kq))) ?_
    by_cases c53 : (2 : Int32) < n13
    · skip
      refine own_to s₁ (mkF m 59 #[.val (.long q0), .second, .val (.long q1), .second, .val (.long q2), .second, .val (.int i3), .val (.long a7), .second, .val (.long b9), .second, .val (.long b11), .second, .val (.int (2 : Int32)), .unset, .unset, .unset, .unset, .unset, .unset, .unset] []) (fun tq kq => XS.icmpNo X0.here hx rfl (hb hby at_53) rfl (tlt c53).2.2.2 (XS.iconst X0.here hx rfl (hb hby at_56) (XS.istore X0.here hx rfl (hb hby at_57) rfl (l' := #[.val (.long q0), .second, .val (.long q1), .second, .val (.long q2), .second, .val (.int i3), .val (.long a7), .second, .val (.long b9), .second, .val (.long b11), .second, .val (.int (2 : Int32)), .unset, .unset, .unset, .unset, .unset, .unset, .unset]) rfl kq))) ?_
      exact J59 _ _ _ _ ha1 hb1 (Or.inr (Or.inr rfl))
    · skip
      refine own_to s₁ (mkF m 59 #[.val (.long q0), .second, .val (.long q1), .second, .val (.long q2), .second, .val (.int i3), .val (.long a7), .second, .val (.long b9), .second, .val (.long b11), .second, .val (.int n13), .unset, .unset, .unset, .unset, .unset, .unset, .unset] []) (fun tq kq => XS.icmpYes X0.here hx rfl (pc0 := 53) (pc' := 59) rfl (hb hby at_53) rfl (flt c53).2.2.2 (by decide) (by decide) kq) ?_
      exact J59 _ _ _ _ ha1 hb1 (by rw [Int32.lt_iff_toInt_lt] at c53; rw [← Int32.toInt_inj, ← Int32.toInt_inj, ← Int32.toInt_inj]; have z0 : (0 : Int32).toInt = 0 := (by decide); have z1 : (1 : Int32).toInt = 1 := (by decide); have z2 : (2 : Int32).toInt = 2 := (by decide); omega)
  refine own_to s₁ (mkF m 5 #[.val (.long q0), .second, .val (.long q1), .second, .val (.long q2), .second, .val (.int i3), .unset, .unset, .unset, .unset, .unset, .unset, .unset, .unset, .unset, .unset, .unset, .unset, .unset, .unset] [(.long (q0 &&& (9223372036854775807 : Int64)))]) (fun tq kq => XS.lloadN X0.here hx rfl (hb hby at_0) rfl (X0.ldc2Long hx hown (mvT hZ (own_w hw 0 rfl)) (g := (mkF m 1 #[.val (.long q0), .second, .val (.long q1), .second, .val (.long q2), .second, .val (.int i3), .unset, .unset, .unset, .unset, .unset, .unset, .unset, .unset, .unset, .unset, .unset, .unset, .unset, .unset] [(.long q0)])) rfl (hb hby at_1) _ (XS.land X0.here hx rfl (hb hby at_4) rfl kq))) ?_
  obtain ⟨a7, hva7⟩ : ∃ v, v = (q0 &&& (9223372036854775807 : Int64)) := ⟨_, rfl⟩
  rw [← hva7]
  have ha1 : ¬ a7 < (0 : Int64) := by rw [hva7]; exact own_mask q0
  clear hva7
  refine own_to s₁ (mkF m 12 #[.val (.long q0), .second, .val (.long q1), .second, .val (.long q2), .second, .val (.int i3), .val (.long a7), .second, .unset, .unset, .unset, .unset, .unset, .unset, .unset, .unset, .unset, .unset, .unset, .unset] [(.long (q1 &&& (9223372036854775807 : Int64)))]) (fun tq kq => XS.lstore X0.here hx rfl (hb hby at_5) rfl (l' := #[.val (.long q0), .second, .val (.long q1), .second, .val (.long q2), .second, .val (.int i3), .val (.long a7), .second, .unset, .unset, .unset, .unset, .unset, .unset, .unset, .unset, .unset, .unset, .unset, .unset]) rfl (XS.lloadN X0.here hx rfl (hb hby at_7) rfl (X0.ldc2Long hx hown (mvT hZ (own_w hw 0 rfl)) (g := (mkF m 8 #[.val (.long q0), .second, .val (.long q1), .second, .val (.long q2), .second, .val (.int i3), .val (.long a7), .second, .unset, .unset, .unset, .unset, .unset, .unset, .unset, .unset, .unset, .unset, .unset, .unset] [(.long q1)])) rfl (hb hby at_8) _ (XS.land X0.here hx rfl (hb hby at_11) rfl kq)))) ?_
  obtain ⟨b9, hvb9⟩ : ∃ v, v = (q1 &&& (9223372036854775807 : Int64)) := ⟨_, rfl⟩
  rw [← hvb9]
  have hb9 : ¬ b9 < (0 : Int64) := by rw [hvb9]; exact own_mask q1
  clear hvb9
  refine own_to s₁ (mkF m 19 #[.val (.long q0), .second, .val (.long q1), .second, .val (.long q2), .second, .val (.int i3), .val (.long a7), .second, .val (.long b9), .second, .unset, .unset, .unset, .unset, .unset, .unset, .unset, .unset, .unset, .unset] [(.int (i3 &&& (16 : Int32)))]) (fun tq kq => XS.lstore X0.here hx rfl (hb hby at_12) rfl (l' := #[.val (.long q0), .second, .val (.long q1), .second, .val (.long q2), .second, .val (.int i3), .val (.long a7), .second, .val (.long b9), .second, .unset, .unset, .unset, .unset, .unset, .unset, .unset, .unset, .unset, .unset]) rfl (XS.iload X0.here hx rfl (hb hby at_14) rfl (XS.bipush X0.here hx rfl (hb hby at_16) (XS.iand X0.here hx rfl (hb hby at_18) rfl kq)))) ?_
  by_cases c19 : (i3 &&& (16 : Int32)) = (0 : Int32)
  · skip
    refine own_to s₁ (mkF m 40 #[.val (.long q0), .second, .val (.long q1), .second, .val (.long q2), .second, .val (.int i3), .val (.long a7), .second, .val (.long b9), .second, .unset, .unset, .unset, .unset, .unset, .unset, .unset, .unset, .unset, .unset] [(.long b9)]) (fun tq kq => XS.ifYes X0.here hx rfl (pc0 := 19) (pc' := 38) rfl (hb hby at_19) rfl ((if0 _ _).trans (teq c19).1) (by decide) (by decide) (XS.lload X0.here hx rfl (hb hby at_38) rfl kq)) ?_
    exact J40 _ _ _ ha1 hb9
  · skip
    refine own_to s₁ (mkF m 40 #[.val (.long q0), .second, .val (.long q1), .second, .val (.long q2), .second, .val (.int i3), .val (.long a7), .second, .val (.long b9), .second, .unset, .unset, .unset, .unset, .unset, .unset, .unset, .unset, .unset, .unset] [(.long ((b9 &&& (-1024 : Int64)) ||| (a7 &&& (1023 : Int64))))]) (fun tq kq => XS.ifNo X0.here hx rfl (hb hby at_19) rfl ((if0 _ _).trans (feq c19).1) (XS.lload X0.here hx rfl (hb hby at_22) rfl (X0.ldc2Long hx hown (mvT hZ (own_w hw 28 rfl)) (g := (mkF m 24 #[.val (.long q0), .second, .val (.long q1), .second, .val (.long q2), .second, .val (.int i3), .val (.long a7), .second, .val (.long b9), .second, .unset, .unset, .unset, .unset, .unset, .unset, .unset, .unset, .unset, .unset] [(.long b9)])) rfl (hb hby at_24) _ (XS.land X0.here hx rfl (hb hby at_27) rfl (XS.lload X0.here hx rfl (hb hby at_28) rfl (X0.ldc2Long hx hown (mvT hZ (own_w hw 29 rfl)) (g := (mkF m 30 #[.val (.long q0), .second, .val (.long q1), .second, .val (.long q2), .second, .val (.int i3), .val (.long a7), .second, .val (.long b9), .second, .unset, .unset, .unset, .unset, .unset, .unset, .unset, .unset, .unset, .unset] [(.long a7), (.long (b9 &&& (-1024 : Int64)))])) rfl (hb hby at_30) _ (XS.land X0.here hx rfl (hb hby at_33) rfl (XS.lor X0.here hx rfl (hb hby at_34) rfl (XS.goto X0.here hx rfl (pc0 := 35) (pc' := 40) rfl (hb hby at_35) (by decide) (by decide) kq))))))))) ?_
    exact J40 _ _ _ ha1 (own_nn (by have := (c_orSL (b9 &&& (-1024 : Int64)) (a7 &&& (1023 : Int64))).1 ((c_andSL b9 _).2.1 (own_pp hb9)) ((c_andSL a7 _).2.1 (own_pp ha1)); exact this))
set_option maxRecDepth 65536 in
set_option maxHeartbeats 40000000 in
theorem comes_1 {Post : Tables → Env → Array Value → State → Outcome → State → Prop} (hpost : ∀ tb e args s v u, (limb_1_1.after args s (.returned v) u = true ∧ limb_1_2.after args s (.returned v) u = true ∧ True) → FrameEnd s (.returned v) u (Jvm.fieldLocs frame_1_writes args s ++ Jvm.arrayLocs frame_1_arrays args s ++ Jvm.staticLocs frame_1_statics s) 16 34944 → Post tb e args s (.returned v) u) :
    ArmFor flags0 classFile x code maxLocals ret World_1 tables_1 room_1 Calls_1 rest_1 Pre_1 Post := by
  intro l hfl _ _ p e ha hc hk s m args below hf hA hF happ hP
  obtain ⟨hcalls, hrest, hpre⟩ := hP
  obtain ⟨-, -, -, hnamed, -, -, -, hat⟩ := (Spec.applies_iff hf).mp happ
  obtain ⟨hg, hn⟩ := and_e (Cond.before_iff.mp (show (Jvm.Cond.and given_1 narrow_1).before args s = true from hpre))
  obtain ⟨q1, q2⟩ := and_e hg
  obtain ⟨q3, q4⟩ := and_e q2
  obtain ⟨q5, q6⟩ := and_e q4
  obtain ⟨q7, q8⟩ := and_e q6
  obtain ⟨w0, w1, w2, w3, rfl⟩ : ∃ w0 w1 w2 w3 : Value, args = #[w0, w1, w2, w3] := by
    have hs : args.size = 4 := by simpa [Cond.value, given_1] using q1
    obtain ⟨L⟩ := args
    match L, hs with
    | [w0, w1, w2, w3], _ => exact ⟨w0, w1, w2, w3, rfl⟩
  have hw := fun d (hd : d ∈ tables_1) => atoms_spec (ws := Jvm.Cond.code x code maxLocals ret :: tables_1) hat d (List.mem_cons_of_mem _ hd)
  have hfit : Fit s := fun {y c} hc i hi => by
    obtain ⟨ha, rfl⟩ := Array.getElem?_eq_some_iff.mp hc
    have q := List.all_eq_true.mp ((Array.all_eq_true_iff_forall_mem.mp hF) _ (Array.getElem_mem ha)) i (List.mem_range.mpr hi)
    simpa [Array.getElem?_eq_getElem hi] using q
  obtain ⟨i0, ei0⟩ := isL_v q3
  obtain rfl : w0 = (.long i0) := Option.some.inj ei0
  obtain ⟨i1, ei1⟩ := isL_v q5
  obtain rfl : w1 = (.long i1) := Option.some.inj ei1
  obtain ⟨i2, ei2⟩ := isL_v q7
  obtain rfl : w2 = (.long i2) := Option.some.inj ei2
  obtain ⟨i3, ei3⟩ := is_v q8
  obtain rfl : w3 = (.int i3) := Option.some.inj ei3
  obtain ⟨n, o, h1, h2, h3, _, L, rfl, ⟨rfl, N⟩, hq⟩ := rm0 l s _ hw tables_1 i0 i1 i2 i3 s.heap s.heap.size (Nat.le_refl _)  p e ha hc hk s m _ below hf ((Spec.applies_iff_loose hf).mp happ).1 ⟨rfl, State.Warmed39.refl s, rfl⟩ trivial
  refine ⟨n, _, h1, h2, h3, hpost _ _ _ _ _ _ ⟨Cond.after_iff.mpr rfl, Cond.after_iff.mpr (eq_i res_at (Term.int_eval (1)) rfl), trivial⟩ ⟨hq.1, hq.2.1, (hq.2.2.sift fun y hy => Or.inr (N y hy)).mono (by decide) (by decide)⟩⟩
theorem main_1_1 : Claimed_1_1 := comes_1 fun _ _ _ _ _ _ h hF => ⟨h.1, hF⟩
theorem main_1_2 : Claimed_1_2 := comes_1 fun _ _ _ _ _ _ h hF => ⟨h.2.1, hF⟩
end Jvm.Pilot.@@N@@
namespace Jvm.Pilot.@@N@@
open Jvm Jvm.ClassFile Sem Op Lib Jvm.Free Jvm.Stand Jvm.Pilot.@@N@@.Jvm.D
/-! MADE BY PROGRAM (witnessworld.py) out of the Statement's table words and the real class files: 11 classes; the members and pool entries that the words name. The judged class is class 1, her method 2. -/
namespace start1
open Jvm.ClassFile
def u (s : String) : CpInfo := .utf8 (stringToUtf16 s)
/-- a pool by its gaps: so many unusable entries, then the entry; so many at the end -/
def gap : Nat → List CpInfo → List CpInfo
  | 0, r => r
  | n + 1, r => .unusable :: gap n r
def poolList (es : List (Nat × CpInfo)) (last : Nat) : List CpInfo := es.foldr (fun e r => gap e.1 (e.2 :: r)) (gap last [])
def pool (es : List (Nat × CpInfo)) (last : Nat) : Array CpInfo := ⟨poolList es last⟩
def fileOf (pool : Array CpInfo) (this : Nat) (attrs : Array Attribute := #[]) (ms : Array MethodInfo := #[]) (fl : Nat := 33) (sup : Nat := 0) (ifs : Array Nat := #[]) (fds : Array FieldInfo := #[]) : ClassFile where
  minorVersion := 0
  majorVersion := 65
  constantPool := pool
  accessFlags := fl
  thisClass := this
  superClass := sup
  interfaces := ifs
  fields := fds
  methods := ms
  attributes := attrs
def plain (name : String) (sup : Option ClassId) : Class where
  name := name
  kind := .ordinary
  loader := none
  accessFlags := 33
  super := sup
  interfaces := #[]
  cf := none
  fields := #[]
  methods := #[]
  instanceTypes := #[]
  staticTypes := #[]
  resolved := #[]
  callSites := []
  init := .initialized
  statics := none
  mirror := none

def pool0 : Array CpInfo := pool [(5, u "<init>"), (0, u "()V"), (1, .class_ 10), (1, u "java/lang/Object")] 113

def k0c0 : Code := { maxStack := 0, maxLocals := 1, code := object_method_1_code, exceptionTable := #[], attributes := #[] }
def k0m0 : Method := { name := "<init>", desc := "()V", sig := { parameters := [], returnType := none }, accessFlags := 1, code := some k0c0 }
/-- java/lang/Object -/
def k0 : Class := { plain "java/lang/Object" none with
  accessFlags := 33
  interfaces := #[]
  cf := some (fileOf pool0 8 #[] #[{ accessFlags := 1, nameIndex := 5, descriptorIndex := 6, attributes := #[] }] 33 0 #[] #[])
  fields := #[]
  methods := #[k0m0]
  instanceTypes := #[]
  staticTypes := #[]
  resolved := Array.replicate 124 none
  statics := none }

def pool1 : Array CpInfo := pool [(2, .class_ 4), (0, .nameAndType 5 6), (0, u "java/lang/Object"), (0, u "<init>"), (0, u "()V"), (2, .long 9223372036854775807), (1, .long 18446744073709550592), (1, .long 1023), (1, .long 1024), (1, .class_ 18), (0, u "kehai/LongSet"), (0, .methodref 17 3), (0, .methodref 17 21), (0, .nameAndType 22 23), (0, u "add"), (0, u "(J)V"), (0, .methodref 17 25), (0, .nameAndType 26 27), (0, u "contains"), (0, u "(J)Z"), (0, .methodref 29 30), (0, .class_ 31), (0, .nameAndType 32 33), (0, u "kehai/LongSetContainsPinLaw"), (0, u "expect"), (0, u "(JJJI)Z"), (3, u "law")] 2

def k1m0 : Method := { name := "<init>", desc := "()V", sig := { parameters := [], returnType := none }, accessFlags := 1, code := none }
def k1c1 : Code := { maxStack := 4, maxLocals := 7, code := method_2_code, exceptionTable := #[], attributes := #[] }
def k1m1 : Method := { name := "expect", desc := "(JJJI)Z", sig := { parameters := [.long, .long, .long, .int], returnType := some .boolean }, accessFlags := 10, code := some k1c1 }
def k1c2 : Code := { maxStack := 8, maxLocals := 21, code := code, exceptionTable := #[], attributes := #[] }
def k1m2 : Method := { name := "law", desc := "(JJJI)Z", sig := { parameters := [.long, .long, .long, .int], returnType := some .boolean }, accessFlags := 9, code := some k1c2 }
/-- kehai/LongSetContainsPinLaw -/
def k1 : Class := { plain "kehai/LongSetContainsPinLaw" (some 0) with
  accessFlags := 49
  interfaces := #[]
  cf := some (fileOf pool1 29 #[] #[{ accessFlags := 1, nameIndex := 5, descriptorIndex := 6, attributes := #[] }, { accessFlags := 10, nameIndex := 32, descriptorIndex := 33, attributes := #[] }, { accessFlags := 9, nameIndex := 37, descriptorIndex := 33, attributes := #[] }] 49 2 #[] #[])
  fields := #[]
  methods := #[k1m0, k1m1, k1m2]
  instanceTypes := #[]
  staticTypes := #[]
  resolved := Array.replicate 40 none
  statics := none }

def pool2 : Array CpInfo := pool [(1, .methodref 2 3), (0, .class_ 4), (0, .nameAndType 5 6), (0, u "java/lang/Object"), (0, u "<init>"), (0, u "()V"), (0, .fieldref 8 9), (0, .class_ 10), (0, .nameAndType 11 12), (0, u "kehai/LongSet"), (0, u "places"), (0, u "[J"), (0, .fieldref 8 14), (0, .nameAndType 15 12), (0, u "recent"), (9, .fieldref 8 26), (0, .nameAndType 27 28), (0, u "size"), (0, u "I"), (3, .methodref 8 33), (0, .nameAndType 34 35), (0, u "find"), (0, u "([JJ)I"), (0, .long 11400714819323198485), (5, u "FREE"), (0, u "J"), (3, u "MOVED"), (1, u "RECENT"), (3, u "add"), (0, u "(J)V"), (1, u "contains"), (0, u "(J)Z")] 18

def k2c0 : Code := { maxStack := 2, maxLocals := 1, code := prog_27_method_1_code, exceptionTable := #[], attributes := #[] }
def k2m0 : Method := { name := "<init>", desc := "()V", sig := { parameters := [], returnType := none }, accessFlags := 0, code := some k2c0 }
def k2c1 : Code := { maxStack := 4, maxLocals := 6, code := prog_27_method_2_code, exceptionTable := #[], attributes := #[] }
def k2m1 : Method := { name := "add", desc := "(J)V", sig := { parameters := [.long], returnType := none }, accessFlags := 0, code := some k2c1 }
def k2c2 : Code := { maxStack := 4, maxLocals := 5, code := prog_27_method_3_code, exceptionTable := #[], attributes := #[] }
def k2m2 : Method := { name := "contains", desc := "(J)Z", sig := { parameters := [.long], returnType := some .boolean }, accessFlags := 0, code := some k2c2 }
def k2c3 : Code := { maxStack := 4, maxLocals := 5, code := prog_27_method_4_code, exceptionTable := #[], attributes := #[] }
def k2m3 : Method := { name := "find", desc := "([JJ)I", sig := { parameters := [(.array .long), .long], returnType := some .int }, accessFlags := 10, code := some k2c3 }
/-- kehai/LongSet -/
def k2 : Class := { plain "kehai/LongSet" (some 0) with
  accessFlags := 48
  interfaces := #[]
  cf := some (fileOf pool2 8 #[] #[{ accessFlags := 0, nameIndex := 5, descriptorIndex := 6, attributes := #[] }, { accessFlags := 0, nameIndex := 53, descriptorIndex := 54, attributes := #[] }, { accessFlags := 0, nameIndex := 56, descriptorIndex := 57, attributes := #[] }, { accessFlags := 10, nameIndex := 34, descriptorIndex := 35, attributes := #[] }] 48 2 #[] #[{ accessFlags := 26, nameIndex := 42, descriptorIndex := 43, attributes := #[] }, { accessFlags := 26, nameIndex := 47, descriptorIndex := 28, attributes := #[] }, { accessFlags := 26, nameIndex := 49, descriptorIndex := 28, attributes := #[] }, { accessFlags := 2, nameIndex := 11, descriptorIndex := 12, attributes := #[] }, { accessFlags := 2, nameIndex := 27, descriptorIndex := 28, attributes := #[] }, { accessFlags := 18, nameIndex := 15, descriptorIndex := 12, attributes := #[] }])
  fields := #[{ name := "FREE", type := .long, accessFlags := 26, slot := 0, constantValue := 0 }, { name := "MOVED", type := .int, accessFlags := 26, slot := 1, constantValue := 0 }, { name := "RECENT", type := .int, accessFlags := 26, slot := 2, constantValue := 0 }, { name := "places", type := (.array .long), accessFlags := 2, slot := 0, constantValue := 0 }, { name := "size", type := .int, accessFlags := 2, slot := 1, constantValue := 0 }, { name := "recent", type := (.array .long), accessFlags := 18, slot := 2, constantValue := 0 }]
  methods := #[k2m0, k2m1, k2m2, k2m3]
  instanceTypes := #[(.array .long), .int, (.array .long)]
  staticTypes := #[.long, .int, .int]
  resolved := Array.replicate 76 none
  statics := none }

def pool3 : Array CpInfo := pool [(1, u "java/lang/Cloneable"), (0, .class_ 1), (0, u "java/lang/Object"), (0, .class_ 3)] 3

/-- java/lang/Cloneable -/
def k3 : Class := { plain "java/lang/Cloneable" (some 0) with
  accessFlags := 1537
  interfaces := #[]
  cf := some (fileOf pool3 2 #[] #[] 1537 4 #[] #[])
  fields := #[]
  methods := #[]
  instanceTypes := #[]
  staticTypes := #[]
  resolved := Array.replicate 8 none
  statics := none }

def pool4 : Array CpInfo := pool [(1, u "java/io/Serializable"), (0, .class_ 1), (0, u "java/lang/Object"), (0, .class_ 3)] 3

/-- java/io/Serializable -/
def k4 : Class := { plain "java/io/Serializable" (some 0) with
  accessFlags := 1537
  interfaces := #[]
  cf := some (fileOf pool4 2 #[] #[] 1537 4 #[] #[])
  fields := #[]
  methods := #[]
  instanceTypes := #[]
  staticTypes := #[]
  resolved := Array.replicate 8 none
  statics := none }

/-- the primitive byte -/
def k5 : Class := { plain "byte" none with kind := .primitive 'B', accessFlags := 0x411 }
/-- [B -/
def k6 : Class := { plain "[B" (some 0) with kind := .array 5 .byte, interfaces := #[3, 4], accessFlags := 1041 }

/-- the primitive int -/
def k7 : Class := { plain "int" none with kind := .primitive 'I', accessFlags := 0x411 }
/-- [I -/
def k8 : Class := { plain "[I" (some 0) with kind := .array 7 .int, interfaces := #[3, 4], accessFlags := 1041 }

/-- the primitive long -/
def k9 : Class := { plain "long" none with kind := .primitive 'J', accessFlags := 0x411 }
/-- [J -/
def k10 : Class := { plain "[J" (some 0) with kind := .array 9 .long, interfaces := #[3, 4], accessFlags := 1041 }

def heap : Heap := #[]
def classes : Array Class := #[k0, k1, k2, k3, k4, k5, k6, k7, k8, k9, k10]
def interned : List (Array UInt16 × Addr) := []
def slotsUsed : Nat := 0
def theMethod : MethodId := ⟨1, 2⟩
def args0 : Array Value := #[.long 5, .long 9, .long 7, .int 9]
def aboutOver (below : List Frame) : State where
  vm := { classes := classes, interned := interned.toArray }
  heap := heap
  slotsUsed := slotsUsed
  threads := #[{ frames := .invoking theMethod args0 :: below }]
def below0 : List Frame := [.native { method := ⟨0, 0⟩, args := #[] }]
def about1 : State := aboutOver below0
def p0 : Program := .bare "" "" ""
def e0 : Env := launch0.env 0 0 0
theorem w_frames : about1.frames = Frame.invoking theMethod args0 :: below0 := rfl
set_option maxRecDepth 65536 in
theorem w_args : argsFit about1.vm theMethod args0 = true := by decide +kernel
set_option maxRecDepth 65536 in
theorem w_heap : heapFits about1 = true := by decide +kernel
set_option maxRecDepth 65536 in
theorem w_runnable : about1.curStatus? = some .runnable := by decide +kernel
set_option maxRecDepth 65536 in
theorem w_alone : about1.alone = true := by decide +kernel
set_option maxRecDepth 65536 in
theorem w_named : about1.methodNamed? x = some theMethod := by decide +kernel
set_option maxRecDepth 65536 in
theorem w_hears : about1.hears theMethod below0 = true := by decide +kernel
set_option maxRecDepth 65536 in
theorem w_ripe : about1.ripe theMethod args0 below0 = true := by decide +kernel
theorem w_running : about1.status = .running := rfl
set_option maxRecDepth 65536 in
theorem w_room : about1.hasRoom e0.platform room_1 = true :=
  launch0.hasRoom_least _ room_1 (by decide +kernel) (by decide +kernel) (by decide +kernel) (by decide +kernel) (by decide +kernel) (by decide +kernel)
theorem allAtoms_all (ts : List Jvm.Cond) (a : Array Jvm.Value) (st : Jvm.State) : (allAtoms ts).before a st = ts.all (fun c => c.before a st) := by
  induction ts with
  | nil => rfl
  | cons c t ih =>
    show (Jvm.Cond.and c (allAtoms t)).before a st = _
    rw [Jvm.Cond.before_and, ih, List.all_cons]
def words1 : List Jvm.Cond := Jvm.Cond.code x code maxLocals ret :: tables_1
/-- a 'code' word, met by the world's own term for the bytes: nothing is compared byte by byte -/
theorem code_word {y : MethodName} {bytes : ByteArray} {mx : Nat} {rt : Option FieldType} {a : Array Value} {s : State} {m : MethodId} {meth : Method} {c : Code} (h1 : s.methodNamed? y = some m) (h2 : s.vm.method? m = some meth) (h3 : meth.code = some c) (h4 : c.code = bytes)
    (h5 : (c.maxLocals == mx && c.exceptionTable.isEmpty && decide (c.maxStack ≤ mostOperands) && decide (meth.sig.returnType = rt) && !meth.locks && decide (parseMethodDescriptor y.desc = some meth.sig)) = true) : (Jvm.Cond.code y bytes mx rt).before a s = true := by
  simp only [Bool.and_eq_true, beq_iff_eq, Bool.not_eq_true', decide_eq_true_eq] at h5
  obtain ⟨⟨⟨⟨⟨g1, g2⟩, g3⟩, g4⟩, g5⟩, g6⟩ := h5
  simp [Cond.before, Cond.holds, Cond.value, h1, h2, h3, h4, g1, g2, g3, g4, g5, g6]
def isCode : Jvm.Cond → Bool
  | .code _ _ _ _ => true
  | _ => false
theorem all_split {L : List Jvm.Cond} {P : Jvm.Cond → Bool} (h1 : L.all (fun c => isCode c || P c) = true) (h2 : ∀ c ∈ L.filter isCode, P c = true) : L.all P = true := by
  refine List.all_eq_true.mpr fun c hc => ?_
  have h := List.all_eq_true.mp h1 c hc
  rcases Bool.eq_false_or_eq_true (isCode c) with hi | hi
  · exact h2 c (List.mem_filter.mpr ⟨hc, hi⟩)
  · simpa [hi] using h
set_option maxRecDepth 65536 in
theorem w_c0 : (Jvm.Cond.code x code maxLocals ret).before args0 about1 = true := code_word (m := ⟨1, 2⟩) (meth := k1m2) (c := k1c2) (by decide +kernel) rfl rfl rfl (by decide +kernel)
set_option maxRecDepth 65536 in
theorem w_c1 : (Jvm.Cond.code ({ cls := "kehai/LongSet", name := "<init>", desc := "()V" } : Jvm.MethodName) prog_27_method_1_code (1 : Nat) (Option.none : Option Jvm.ClassFile.FieldType)).before args0 about1 = true := code_word (m := ⟨2, 0⟩) (meth := k2m0) (c := k2c0) (by decide +kernel) rfl rfl rfl (by decide +kernel)
set_option maxRecDepth 65536 in
theorem w_c2 : (Jvm.Cond.code ({ cls := "java/lang/Object", name := "<init>", desc := "()V" } : Jvm.MethodName) object_method_1_code (1 : Nat) (Option.none : Option Jvm.ClassFile.FieldType)).before args0 about1 = true := code_word (m := ⟨0, 0⟩) (meth := k0m0) (c := k0c0) (by decide +kernel) rfl rfl rfl (by decide +kernel)
set_option maxRecDepth 65536 in
theorem w_c3 : (Jvm.Cond.code ({ cls := "kehai/LongSet", name := "contains", desc := "(J)Z" } : Jvm.MethodName) prog_27_method_3_code (5 : Nat) (Option.some Jvm.ClassFile.FieldType.boolean)).before args0 about1 = true := code_word (m := ⟨2, 2⟩) (meth := k2m2) (c := k2c2) (by decide +kernel) rfl rfl rfl (by decide +kernel)
set_option maxRecDepth 65536 in
theorem w_c4 : (Jvm.Cond.code ({ cls := "kehai/LongSet", name := "find", desc := "([JJ)I" } : Jvm.MethodName) prog_27_method_4_code (5 : Nat) (Option.some Jvm.ClassFile.FieldType.int)).before args0 about1 = true := code_word (m := ⟨2, 3⟩) (meth := k2m3) (c := k2c3) (by decide +kernel) rfl rfl rfl (by decide +kernel)
set_option maxRecDepth 65536 in
theorem w_c5 : (Jvm.Cond.code ({ cls := "kehai/LongSetContainsPinLaw", name := "expect", desc := "(JJJI)Z" } : Jvm.MethodName) method_2_code (7 : Nat) (Option.some Jvm.ClassFile.FieldType.boolean)).before args0 about1 = true := code_word (m := ⟨1, 1⟩) (meth := k1m1) (c := k1c1) (by decide +kernel) rfl rfl rfl (by decide +kernel)
set_option maxRecDepth 65536 in
theorem w_c6 : (Jvm.Cond.code ({ cls := "kehai/LongSet", name := "add", desc := "(J)V" } : Jvm.MethodName) prog_27_method_2_code (6 : Nat) (Option.none : Option Jvm.ClassFile.FieldType)).before args0 about1 = true := code_word (m := ⟨2, 1⟩) (meth := k2m1) (c := k2c1) (by decide +kernel) rfl rfl rfl (by decide +kernel)
def codes1 : List Jvm.Cond := [Jvm.Cond.code x code maxLocals ret, Jvm.Cond.code ({ cls := "kehai/LongSet", name := "<init>", desc := "()V" } : Jvm.MethodName) prog_27_method_1_code (1 : Nat) (Option.none : Option Jvm.ClassFile.FieldType), Jvm.Cond.code ({ cls := "java/lang/Object", name := "<init>", desc := "()V" } : Jvm.MethodName) object_method_1_code (1 : Nat) (Option.none : Option Jvm.ClassFile.FieldType), Jvm.Cond.code ({ cls := "kehai/LongSet", name := "contains", desc := "(J)Z" } : Jvm.MethodName) prog_27_method_3_code (5 : Nat) (Option.some Jvm.ClassFile.FieldType.boolean), Jvm.Cond.code ({ cls := "kehai/LongSet", name := "find", desc := "([JJ)I" } : Jvm.MethodName) prog_27_method_4_code (5 : Nat) (Option.some Jvm.ClassFile.FieldType.int), Jvm.Cond.code ({ cls := "kehai/LongSetContainsPinLaw", name := "expect", desc := "(JJJI)Z" } : Jvm.MethodName) method_2_code (7 : Nat) (Option.some Jvm.ClassFile.FieldType.boolean), Jvm.Cond.code ({ cls := "kehai/LongSet", name := "add", desc := "(J)V" } : Jvm.MethodName) prog_27_method_2_code (6 : Nat) (Option.none : Option Jvm.ClassFile.FieldType)]
set_option maxRecDepth 65536 in
theorem codes_eq : words1.filter isCode = codes1 := rfl
theorem w_codes : ∀ c ∈ words1.filter isCode, c.before args0 about1 = true := by
  rw [codes_eq]
  intro c hc
  simp only [codes1, List.mem_cons, List.not_mem_nil, or_false] at hc
  rcases hc with rfl | rfl | rfl | rfl | rfl | rfl | rfl
  · exact w_c0
  · exact w_c1
  · exact w_c2
  · exact w_c3
  · exact w_c4
  · exact w_c5
  · exact w_c6
set_option maxRecDepth 65536 in
theorem w_t1 : (words1.take 24).all (fun c => isCode c || c.before args0 about1) = true := by decide +kernel
set_option maxRecDepth 65536 in
theorem w_t2 : (words1.drop 24).all (fun c => isCode c || c.before args0 about1) = true := by decide +kernel
theorem w_tables : (allAtoms (Jvm.Cond.code x code maxLocals ret :: tables_1)).before args0 about1 = true := by
  rw [allAtoms_all]
  show words1.all (fun c => c.before args0 about1) = true
  refine all_split ?_ w_codes
  rw [← List.take_append_drop 24 words1, List.all_append, w_t1, w_t2]
  rfl
set_option maxRecDepth 65536 in
theorem w_case : (Jvm.Cond.and given_1 narrow_1).before args0 about1 = true := by decide +kernel
theorem w_applies : (headSpec (Jvm.Cond.code x code maxLocals ret :: tables_1) room_1).applies x e0.platform about1 = true :=
  (Spec.applies_iff w_frames).mpr ⟨w_running, w_runnable, w_alone, w_named, w_hears, w_ripe, w_room, w_tables⟩
theorem atStart : AtStart classFile x code maxLocals ret World_1 tables_1 room_1 Calls_1 rest_1 Pre_1 launch0 p0 e0 about1 theMethod args0 below0 :=
  ⟨lists_1, trivial, launch0.admits_env _ _ _, launch0.least_env, fairChoices_fair.cas, fairChoices_fair.clock, w_frames, w_args, w_heap, w_applies, trivial, trivial, w_case⟩
end start1
theorem witness_1 : WitnessClaimed_1 := ⟨start1.p0, start1.e0, start1.about1, start1.theMethod, start1.args0, start1.below0, start1.atStart⟩
end Jvm.Pilot.@@N@@
