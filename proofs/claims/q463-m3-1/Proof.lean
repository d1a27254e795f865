import JvmDerived
import JvmDerived.Pilot.@@N@@Statement
import JvmDerived.Pilot.@@N@@Code
set_option linter.unusedVariables false
set_option linter.unusedSimpArgs false
namespace Jvm.Pilot.@@N@@
open Jvm Jvm.ClassFile Sem Op Lib Jvm.Free Jvm.Stand Jvm.LawKit Jvm.RoadKit Bundle Jvm.Pilot.@@N@@.Jvm.D
/-! own kit: a walk as a chain of "from here the run ends well" -/
section OwnKit
/-- from T with the frame g on top the run goes on and ends as Q says -/
def Own (p : Program) (e : Env) (below : List Frame) (s : State) (kc ks : Nat) (Q : Option Value → Heap → List Loc → Prop) (T : State) (g : JFrame) : Prop :=
  ∃ s₂ o, Steps p.tables e below (T.setTop g) s₂ ∧ s₂.status = .running ∧ Ended s₂ below o ∧ ∃ v L, o = .returned v ∧ Q v s₂.heap L ∧ FrameEnd s o s₂ L kc ks
variable {p : Program} {l : Launch} {e : Env} {R : Room} {s : State} {m : MethodId} {args : Array Value} {below : List Frame} {meth : Method} {c : Code} {T T' : State} {locs : List Loc} {cells slots kc ks : Nat} {Q : Option Value → Heap → List Loc → Prop}
/-- unlike addresses, hidden from omega -/
def own_ne (a b : Addr) : Prop := a ≠ b
theorem own_staK {Z : State} {h h' : Heap} {C n d : String} {v : Value} (F : Sta Z h C n d v) (K : Keep h h' []) : Sta Z h' C n d v := by
  obtain ⟨cf, i, k, f, st, cell, h1, h2, h3, h4, h5, r⟩ := F
  exact ⟨cf, i, k, f, st, cell, h1, h2, h3, h4, K.2.1 _ _ h5 (by simp), r⟩
theorem own_staX {Z : State} {h h' : Heap} {C n d D : String} {v : Value} {x : Addr} (F : Sta Z h C n d v) (K : Keep h h' [x]) (E : Exa Z h x D) : Sta Z h' C n d v := by
  obtain ⟨cf, i, k, f, st, cell, h1, h2, h3, h4, h5, h6, r⟩ := F
  refine ⟨cf, i, k, f, st, cell, h1, h2, h3, h4, K.2.1 _ _ h5 (fun q => ?_), h6, r⟩
  cases List.mem_singleton.mp q
  obtain ⟨c2, k2, g1, g2, g3, g4, -⟩ := E
  cases h5.symm.trans g1
  revert h6
  cases hv : cell.vm <;> simp_all [VmData.isStatics]
theorem own_staA {Z : State} {h h' : Heap} {C n d : String} {v : Value} {x : Addr} (F : Sta Z h C n d v) (K : Keep h h' [x]) (A : ∃ (cl : Cell) (ty : FieldType), Arr Z h x cl ty) : Sta Z h' C n d v := by
  obtain ⟨cf, i, k, f, st, cell, h1, h2, h3, h4, h5, h6, r⟩ := F
  refine ⟨cf, i, k, f, st, cell, h1, h2, h3, h4, K.2.1 _ _ h5 (fun q => ?_), h6, r⟩
  cases List.mem_singleton.mp q
  obtain ⟨cl, ty, g1, ⟨g2, -⟩, -⟩ := A
  cases h5.symm.trans g1
  revert h6
  cases hv : cell.vm <;> simp_all [VmData.isStatics]
theorem own_go {g g' : JFrame} (h : ∀ t, Steps p.tables e below (T'.setTop g') t → Steps p.tables e below (T.setTop g) t) (k : Own p e below s kc ks Q T' g') : Own p e below s kc ks Q T g := by
  obtain ⟨s₂, o, h1, r⟩ := k
  exact ⟨s₂, o, h _ h1, r⟩
theorem own_to (T' : State) (g' : JFrame) {g : JFrame} (h : ∀ t, Steps p.tables e below (T'.setTop g') t → Steps p.tables e below (T.setTop g) t) (k : Own p e below s kc ks Q T' g') : Own p e below s kc ks Q T g := own_go h k
theorem own_ret (X : Stand p l e R s m args below meth c T locs cells slots) (hx : p.tables.exec = Jvm.exec) {pc : Nat} {Ls : Array Slot} {w : Value} {t : FieldType} {i : Instr} {rest : List Value} (hret : meth.sig.returnType = some t) (hlk : meth.locks = false) (hn : narrow t w = w)
    (hi : (i = .ireturn ∧ (t = .int ∨ t = .boolean ∨ t = .byte ∨ t = .char ∨ t = .short) ∧ ∃ z, w = .int z) ∨ (i = .lreturn ∧ t = .long ∧ ∃ z, w = .long z) ∨ (i = .dreturn ∧ t = .double ∧ ∃ z, w = .double z) ∨ (i = .freturn ∧ t = .float ∧ ∃ z, w = .float z) ∨ (i = .areturn ∧ t.isReference = true ∧ w.isRef = true))
    (hd : decode c.code pc = .ok (i, 1)) (hc : cells ≤ kc) (hs : slots ≤ ks) (q : Q (some w) T.heap locs) : Own p e below s kc ks Q T (mkF m pc Ls (w :: rest)) := by
  obtain ⟨fs, hr, hrun, hended, hW, hsame⟩ := X.leave (v := some w) (fun h => by rw [hret] at h; cases h) hlk
  exact ⟨_, _, retOut X hx hret hn hi hd hr, hrun, hended, _, locs, rfl, q, ⟨_, rfl⟩, hW, hsame.mono hc hs⟩
theorem own_retI (X : Stand p l e R s m args below meth c T locs cells slots) (hx : p.tables.exec = Jvm.exec) {pc : Nat} {Ls : Array Slot} {z : Int32} {rest : List Value} (hret : meth.sig.returnType = some .int) (hlk : meth.locks = false)
    (hd : decode c.code pc = .ok (.ireturn, 1)) (hc : cells ≤ kc) (hs : slots ≤ ks) (q : Q (some (.int z)) T.heap locs) : Own p e below s kc ks Q T (mkF m pc Ls (.int z :: rest)) :=
  own_ret X hx hret hlk rfl (Or.inl ⟨rfl, Or.inl rfl, _, rfl⟩) hd hc hs q
theorem own_retZ (X : Stand p l e R s m args below meth c T locs cells slots) (hx : p.tables.exec = Jvm.exec) {pc : Nat} {Ls : Array Slot} {z : Int32} {rest : List Value} (hret : meth.sig.returnType = some .boolean) (hlk : meth.locks = false)
    (hd : decode c.code pc = .ok (.ireturn, 1)) (hc : cells ≤ kc) (hs : slots ≤ ks) (hz : z = 0 ∨ z = 1) (q : Q (some (.int z)) T.heap locs) : Own p e below s kc ks Q T (mkF m pc Ls (.int z :: rest)) :=
  own_ret X hx hret hlk (by rcases hz with rfl | rfl <;> rfl) (Or.inl ⟨rfl, Or.inr (Or.inl rfl), _, rfl⟩) hd hc hs q
theorem own_retC (X : Stand p l e R s m args below meth c T locs cells slots) (hx : p.tables.exec = Jvm.exec) {pc : Nat} {Ls : Array Slot} {z : Int32} {rest : List Value} (hret : meth.sig.returnType = some .char) (hlk : meth.locks = false)
    (hd : decode c.code pc = .ok (.ireturn, 1)) (hc : cells ≤ kc) (hs : slots ≤ ks) (hz : z.toUInt32.toUInt16.toUInt32.toInt32 = z) (q : Q (some (.int z)) T.heap locs) : Own p e below s kc ks Q T (mkF m pc Ls (.int z :: rest)) :=
  own_ret X hx hret hlk (congrArg Value.int hz) (Or.inl ⟨rfl, Or.inr (Or.inr (Or.inr (Or.inl rfl))), _, rfl⟩) hd hc hs q
theorem own_retB (X : Stand p l e R s m args below meth c T locs cells slots) (hx : p.tables.exec = Jvm.exec) {pc : Nat} {Ls : Array Slot} {z : Int32} {rest : List Value} (hret : meth.sig.returnType = some .byte) (hlk : meth.locks = false)
    (hd : decode c.code pc = .ok (.ireturn, 1)) (hc : cells ≤ kc) (hs : slots ≤ ks) (hz : z.toInt8.toInt32 = z) (q : Q (some (.int z)) T.heap locs) : Own p e below s kc ks Q T (mkF m pc Ls (.int z :: rest)) :=
  own_ret X hx hret hlk (congrArg Value.int hz) (Or.inl ⟨rfl, Or.inr (Or.inr (Or.inl rfl)), _, rfl⟩) hd hc hs q
theorem own_cat1 {v : Value} (h : v.isRef = true) : v.category = 1 := by cases v <;> first | rfl | cases h
theorem own_retJ (X : Stand p l e R s m args below meth c T locs cells slots) (hx : p.tables.exec = Jvm.exec) {pc : Nat} {Ls : Array Slot} {z : Int64} {rest : List Value} (hret : meth.sig.returnType = some .long) (hlk : meth.locks = false)
    (hd : decode c.code pc = .ok (.lreturn, 1)) (hc : cells ≤ kc) (hs : slots ≤ ks) (q : Q (some (.long z)) T.heap locs) : Own p e below s kc ks Q T (mkF m pc Ls (.long z :: rest)) :=
  own_ret X hx hret hlk rfl (Or.inr (Or.inl ⟨rfl, rfl, _, rfl⟩)) hd hc hs q
theorem own_retD (X : Stand p l e R s m args below meth c T locs cells slots) (hx : p.tables.exec = Jvm.exec) {pc : Nat} {Ls : Array Slot} {z : UInt64} {rest : List Value} (hret : meth.sig.returnType = some .double) (hlk : meth.locks = false)
    (hd : decode c.code pc = .ok (.dreturn, 1)) (hc : cells ≤ kc) (hs : slots ≤ ks) (q : Q (some (.double z)) T.heap locs) : Own p e below s kc ks Q T (mkF m pc Ls (.double z :: rest)) :=
  own_ret X hx hret hlk rfl (Or.inr (Or.inr (Or.inl ⟨rfl, rfl, _, rfl⟩))) hd hc hs q
theorem own_retA (X : Stand p l e R s m args below meth c T locs cells slots) (hx : p.tables.exec = Jvm.exec) {pc : Nat} {Ls : Array Slot} {w : Value} {t : FieldType} {rest : List Value} (hret : meth.sig.returnType = some t) (hlk : meth.locks = false)
    (ht : t.isReference = true) (hw : w.isRef = true) (hd : decode c.code pc = .ok (.areturn, 1)) (hc : cells ≤ kc) (hs : slots ≤ ks) (q : Q (some w) T.heap locs) : Own p e below s kc ks Q T (mkF m pc Ls (w :: rest)) :=
  own_ret X hx hret hlk (by cases t <;> cases w <;> first | rfl | (cases ht; done) | (cases hw; done)) (Or.inr (Or.inr (Or.inr (Or.inr ⟨rfl, ht, hw⟩)))) hd hc hs q
theorem own_retV (X : Stand p l e R s m args below meth c T locs cells slots) (hx : p.tables.exec = Jvm.exec) {pc : Nat} {Ls : Array Slot} (hret : meth.sig.returnType = none) (hlk : meth.locks = false)
    (hd : decode c.code pc = .ok (.return_, 1)) (hc : cells ≤ kc) (hs : slots ≤ ks) (q : Q none T.heap locs) : Own p e below s kc ks Q T (mkF m pc Ls []) := by
  obtain ⟨fs, hr, hrun, hended, hW, hsame⟩ := X.leave (v := none) (fun _ => rfl) hlk
  exact ⟨_, _, X.returnOut hx hret hd hr, hrun, hended, _, locs, rfl, q, ⟨_, rfl⟩, hW, hsame.mono hc hs⟩
/-- a body's contract out of its walk -/
theorem own_met {Z : State} {h0 : Heap} {y : MethodName} {bytes : ByteArray} {ml : Nat} {ret : Option FieldType} {ws : List Jvm.Cond} {rm : Room} {as' : Array Value} (hp : plainFor y = true)
    (body : ∀ (p : Program) (e : Env) (s : State) (m : MethodId) (below : List Frame) (meth : Method) (c : Code) (s₁ : State), Stand p l e rm s m as' below meth c s₁ [] 0 0 → p.tables.exec = Jvm.exec → c.code = bytes → c.maxLocals = ml → meth.sig.returnType = ret → meth.locks = false →
      s.vm.findClass y.cls = some m.cls → meth.name = y.name → Z.Warmed39 s.vm → s₁.heap = h0 → Own p e below s rm.cells rm.slots Q s₁ (entryFrame m as' ml)) :
    MetFree l y (head1 (Jvm.Cond.code y bytes ml ret :: ws) rm) (fun a U => a = as' ∧ Z.Warmed39 U.vm ∧ U.heap = h0) (fun _ _ _ _ _ => True) (fun _ U o U' => ∃ v L, o = .returned v ∧ Q v U'.heap L ∧ FrameEnd U o U' L rm.cells rm.slots) := by
  refine MetFree.of_bodySF hp hisR ?_
  intro p e s m args below meth c s₁ Bd hml0 hP hK
  obtain ⟨rfl, hZ, hh⟩ := hP
  exact body p e s m below meth c s₁ (Stand.of_body Bd) Bd.exec Bd.bytes hml0 Bd.returns Bd.notSynchronized (findClass_of_methodNamed Bd.named) (name_of_methodNamed Bd.named Bd.method).1 hZ (by rw [← hh, Bd.state]; rfl)
theorem own_entry {g g' : JFrame} (q : g = g') (k : Own p e below s kc ks Q T g') : Own p e below s kc ks Q T g := q ▸ k
theorem own_mvMN {Z s : State} {a0 args : Array Value} {own host : String} {index : Nat} {y : MethodName} (hZ : Z.Warmed39 s.vm) (w : (Jvm.Cond.methodLinkNest own index y host).before a0 Z = true) : (Jvm.Cond.methodLinkNest own index y host).before args s = true := (Jvm.Cond.methodLinkNest_wide hZ w :)
theorem own_w {Z : State} {a0 : Array Value} (hw : ∀ d ∈ tables_1, d.before a0 Z = true) (i : Nat) {d : Jvm.Cond} (h : tables_1[i]? = some d) : d.before a0 Z = true := hw _ (List.mem_of_getElem? h)
end OwnKit
/-! own kit, wide: a walk that may load a String constant for the first time -/
section OwnWide
def OwnW (p : Program) (e : Env) (below : List Frame) (s : State) (kc ks : Nat) (Q : Option Value → Heap → List Loc → Prop) (T : State) (g : JFrame) : Prop :=
  ∃ s₂ o, Steps p.tables e below (T.setTop g) s₂ ∧ s₂.status = .running ∧ Ended s₂ below o ∧ ∃ v L, o = .returned v ∧ Q v s₂.heap L ∧ ReturnedEndW s o s₂ L kc ks
variable {p : Program} {l : Launch} {e : Env} {R : Room} {s : State} {m : MethodId} {args : Array Value} {below : List Frame} {meth : Method} {c : Code} {T T' : State} {locs : List Loc} {cells slots kc ks : Nat} {Q : Option Value → Heap → List Loc → Prop} {vm0 : Vm} {k0 : Nat}
theorem own_toW (T' : State) (g' : JFrame) {g : JFrame} (h : ∀ t, Steps p.tables e below (T'.setTop g') t → Steps p.tables e below (T.setTop g) t) (k : OwnW p e below s kc ks Q T' g') : OwnW p e below s kc ks Q T g := by
  obtain ⟨s₂, o, h1, r⟩ := k
  exact ⟨s₂, o, h _ h1, r⟩
theorem own_retWx (X : Stand p l e R (s.setVm vm0) m args below meth c T locs cells slots) (hS : s.Since vm0 k0) (hk : k0 ≤ T.heap.size) (hx : p.tables.exec = Jvm.exec) {pc : Nat} {Ls : Array Slot} {w : Value} {t : FieldType} {i : Instr} {rest : List Value} (hret : meth.sig.returnType = some t) (hlk : meth.locks = false) (hn : narrow t w = w)
    (hi : (i = .ireturn ∧ (t = .int ∨ t = .boolean ∨ t = .byte ∨ t = .char ∨ t = .short) ∧ ∃ z, w = .int z) ∨ (i = .lreturn ∧ t = .long ∧ ∃ z, w = .long z) ∨ (i = .dreturn ∧ t = .double ∧ ∃ z, w = .double z) ∨ (i = .freturn ∧ t = .float ∧ ∃ z, w = .float z) ∨ (i = .areturn ∧ t.isReference = true ∧ w.isRef = true))
    (hd : decode c.code pc = .ok (i, 1)) (hc : cells ≤ kc) (hs : slots ≤ ks) (q : Q (some w) T.heap locs) : OwnW p e below s kc ks Q T (mkF m pc Ls (w :: rest)) := by
  obtain ⟨fs, hr, hrun, hended, h1, h2, h3, h4⟩ := X.leaveW hS hk (v := some w) (fun h => by rw [hret] at h; cases h) hlk
  exact ⟨_, _, retOut X hx hret hn hi hd hr, hrun, hended, _, locs, rfl, q, h1, h2, h3, h4.mono hc hs⟩
theorem own_retZW (X : Stand p l e R (s.setVm vm0) m args below meth c T locs cells slots) (hS : s.Since vm0 k0) (hk : k0 ≤ T.heap.size) (hx : p.tables.exec = Jvm.exec) {pc : Nat} {Ls : Array Slot} {z : Int32} {rest : List Value} (hret : meth.sig.returnType = some .boolean) (hlk : meth.locks = false)
    (hd : decode c.code pc = .ok (.ireturn, 1)) (hc : cells ≤ kc) (hs : slots ≤ ks) (hz : z = 0 ∨ z = 1) (q : Q (some (.int z)) T.heap locs) : OwnW p e below s kc ks Q T (mkF m pc Ls (.int z :: rest)) :=
  own_retWx X hS hk hx hret hlk (by rcases hz with rfl | rfl <;> rfl) (Or.inl ⟨rfl, Or.inr (Or.inl rfl), _, rfl⟩) hd hc hs q
theorem own_retAW (X : Stand p l e R (s.setVm vm0) m args below meth c T locs cells slots) (hS : s.Since vm0 k0) (hk : k0 ≤ T.heap.size) (hx : p.tables.exec = Jvm.exec) {pc : Nat} {Ls : Array Slot} {w : Value} {t : FieldType} {rest : List Value} (hret : meth.sig.returnType = some t) (hlk : meth.locks = false)
    (ht : t.isReference = true) (hw : w.isRef = true) (hd : decode c.code pc = .ok (.areturn, 1)) (hc : cells ≤ kc) (hs : slots ≤ ks) (q : Q (some w) T.heap locs) : OwnW p e below s kc ks Q T (mkF m pc Ls (w :: rest)) :=
  own_retWx X hS hk hx hret hlk (by cases t <;> cases w <;> first | rfl | (cases ht; done) | (cases hw; done)) (Or.inr (Or.inr (Or.inr (Or.inr ⟨rfl, ht, hw⟩)))) hd hc hs q
theorem own_retVW (X : Stand p l e R (s.setVm vm0) m args below meth c T locs cells slots) (hS : s.Since vm0 k0) (hk : k0 ≤ T.heap.size) (hx : p.tables.exec = Jvm.exec) {pc : Nat} {Ls : Array Slot} (hret : meth.sig.returnType = none) (hlk : meth.locks = false)
    (hd : decode c.code pc = .ok (.return_, 1)) (hc : cells ≤ kc) (hs : slots ≤ ks) (q : Q none T.heap locs) : OwnW p e below s kc ks Q T (mkF m pc Ls []) := by
  obtain ⟨fs, hr, hrun, hended, h1, h2, h3, h4⟩ := X.leaveW hS hk (v := none) (fun _ => rfl) hlk
  exact ⟨_, _, X.returnOut hx hret hd hr, hrun, hended, _, locs, rfl, q, h1, h2, h3, h4.mono hc hs⟩
theorem own_metW {Z : State} {h0 : Heap} {y : MethodName} {bytes : ByteArray} {ml : Nat} {ret : Option FieldType} {ws : List Jvm.Cond} {rm : Room} {as' : Array Value} (hp : plainFor y = true)
    (body : ∀ (p : Program) (e : Env) (s : State) (m : MethodId) (below : List Frame) (meth : Method) (c : Code) (s₁ : State), Stand p l e rm (s.setVm s.vm) m as' below meth c s₁ [] 0 0 → p.tables.exec = Jvm.exec → c.code = bytes → c.maxLocals = ml → meth.sig.returnType = ret → meth.locks = false →
      (s.setVm s.vm).vm.findClass y.cls = some m.cls → meth.name = y.name → Z.Warmed39 (s.setVm s.vm).vm → s₁.heap = h0 → s.Since s.vm h0.size → OwnW p e below s rm.cells rm.slots Q s₁ (entryFrame m as' ml)) :
    MetFree l y (head1 (Jvm.Cond.code y bytes ml ret :: ws) rm) (fun a U => a = as' ∧ Z.Warmed39 U.vm ∧ U.heap = h0) (fun _ _ _ _ _ => True) (fun _ U o U' => ∃ v L, o = .returned v ∧ Q v U'.heap L ∧ ReturnedEndW U o U' L rm.cells rm.slots) := by
  refine MetFree.of_bodySF hp hisR ?_
  intro p e s m args below meth c s₁ Bd hml0 hP hK
  obtain ⟨rfl, hZ, hh⟩ := hP
  have X0 : Stand p l e rm s m _ below meth c s₁ [] 0 0 := Stand.of_body Bd
  have h0' : s₁.heap = h0 := by rw [← hh, Bd.state]; rfl
  have hw : s.WarmedH s.vm := by
    have q := X0.warmed
    rw [Bd.state] at q
    exact q
  exact body p e s m below meth c s₁ X0 Bd.exec Bd.bytes hml0 Bd.returns Bd.notSynchronized (findClass_of_methodNamed Bd.named) (name_of_methodNamed Bd.named Bd.method).1 hZ h0' (hw.since _)
theorem own_entryW {g g' : JFrame} (q : g = g') (k : OwnW p e below s kc ks Q T g') : OwnW p e below s kc ks Q T g := q ▸ k
end OwnWide
/-! own kit, held: a walk that loads String constants and reads them (LawHeld's invariant goes with it) -/
section OwnHeld
def OwnH (Z : State) (EL : List (String × Nat)) (p : Program) (e : Env) (below : List Frame) (s : State) (kc ks : Nat) (Q : Option Value → Heap → List Loc → Prop) (T : State) (g : JFrame) : Prop :=
  ∃ s₂ o, Steps p.tables e below (T.setTop g) s₂ ∧ s₂.status = .running ∧ Ended s₂ below o ∧ ∃ v L, o = .returned v ∧ Q v s₂.heap L ∧ CHr Z EL s.vm s.heap s₂.vm s₂.heap ∧ ReturnedEndW s o s₂ L kc ks
variable {Z : State} {a0 : Array Value} {EL : List (String × Nat)} {p : Program} {l : Launch} {e : Env} {R : Room} {s : State} {m : MethodId} {args : Array Value} {below : List Frame} {meth : Method} {c : Code} {T T' : State} {locs : List Loc} {cells slots kc ks : Nat} {Q : Option Value → Heap → List Loc → Prop} {vm0 : Vm} {k0 : Nat}
theorem own_toH (T' : State) (g' : JFrame) {g : JFrame} (h : ∀ t, Steps p.tables e below (T'.setTop g') t → Steps p.tables e below (T.setTop g) t) (k : OwnH Z EL p e below s kc ks Q T' g') : OwnH Z EL p e below s kc ks Q T g := by
  obtain ⟨s₂, o, h1, r⟩ := k
  exact ⟨s₂, o, h _ h1, r⟩
theorem own_retHx (X : Stand p l e R (s.setVm vm0) m args below meth c T locs cells slots) (hS : s.Since vm0 k0) (hk : k0 ≤ T.heap.size) (hZ : Z.Warmed39 vm0) (hEL : EW Z a0 EL) (C : CHr Z EL s.vm s.heap vm0 T.heap) (hx : p.tables.exec = Jvm.exec) {pc : Nat} {Ls : Array Slot} {w : Value} {t : FieldType} {i : Instr} {rest : List Value} (hret : meth.sig.returnType = some t) (hlk : meth.locks = false) (hn : narrow t w = w)
    (hi : (i = .ireturn ∧ (t = .int ∨ t = .boolean ∨ t = .byte ∨ t = .char ∨ t = .short) ∧ ∃ z, w = .int z) ∨ (i = .lreturn ∧ t = .long ∧ ∃ z, w = .long z) ∨ (i = .dreturn ∧ t = .double ∧ ∃ z, w = .double z) ∨ (i = .freturn ∧ t = .float ∧ ∃ z, w = .float z) ∨ (i = .areturn ∧ t.isReference = true ∧ w.isRef = true))
    (hd : decode c.code pc = .ok (i, 1)) (hc : cells ≤ kc) (hs : slots ≤ ks) (q : Q (some w) T.heap locs) : OwnH Z EL p e below s kc ks Q T (mkF m pc Ls (w :: rest)) := by
  obtain ⟨fs, hr, hrun, hended, h1, h2, h3, h4⟩ := X.leaveW hS hk (v := some w) (fun h => by rw [hret] at h; cases h) hlk
  exact ⟨_, _, retOut X hx hret hn hi hd hr, hrun, hended, _, locs, rfl, q, (have C2 := C.trans (CHv.at X hZ hEL C.1); C2), h1, h2, h3, h4.mono hc hs⟩
theorem own_retZH (X : Stand p l e R (s.setVm vm0) m args below meth c T locs cells slots) (hS : s.Since vm0 k0) (hk : k0 ≤ T.heap.size) (hZ : Z.Warmed39 vm0) (hEL : EW Z a0 EL) (C : CHr Z EL s.vm s.heap vm0 T.heap) (hx : p.tables.exec = Jvm.exec) {pc : Nat} {Ls : Array Slot} {z : Int32} {rest : List Value} (hret : meth.sig.returnType = some .boolean) (hlk : meth.locks = false)
    (hd : decode c.code pc = .ok (.ireturn, 1)) (hc : cells ≤ kc) (hs : slots ≤ ks) (hz : z = 0 ∨ z = 1) (q : Q (some (.int z)) T.heap locs) : OwnH Z EL p e below s kc ks Q T (mkF m pc Ls (.int z :: rest)) :=
  own_retHx X hS hk hZ hEL C hx hret hlk (by rcases hz with rfl | rfl <;> rfl) (Or.inl ⟨rfl, Or.inr (Or.inl rfl), _, rfl⟩) hd hc hs q
theorem own_retAH (X : Stand p l e R (s.setVm vm0) m args below meth c T locs cells slots) (hS : s.Since vm0 k0) (hk : k0 ≤ T.heap.size) (hZ : Z.Warmed39 vm0) (hEL : EW Z a0 EL) (C : CHr Z EL s.vm s.heap vm0 T.heap) (hx : p.tables.exec = Jvm.exec) {pc : Nat} {Ls : Array Slot} {w : Value} {t : FieldType} {rest : List Value} (hret : meth.sig.returnType = some t) (hlk : meth.locks = false)
    (ht : t.isReference = true) (hw : w.isRef = true) (hd : decode c.code pc = .ok (.areturn, 1)) (hc : cells ≤ kc) (hs : slots ≤ ks) (q : Q (some w) T.heap locs) : OwnH Z EL p e below s kc ks Q T (mkF m pc Ls (w :: rest)) :=
  own_retHx X hS hk hZ hEL C hx hret hlk (by cases t <;> cases w <;> first | rfl | (cases ht; done) | (cases hw; done)) (Or.inr (Or.inr (Or.inr (Or.inr ⟨rfl, ht, hw⟩)))) hd hc hs q
theorem own_retVH (X : Stand p l e R (s.setVm vm0) m args below meth c T locs cells slots) (hS : s.Since vm0 k0) (hk : k0 ≤ T.heap.size) (hZ : Z.Warmed39 vm0) (hEL : EW Z a0 EL) (C : CHr Z EL s.vm s.heap vm0 T.heap) (hx : p.tables.exec = Jvm.exec) {pc : Nat} {Ls : Array Slot} (hret : meth.sig.returnType = none) (hlk : meth.locks = false)
    (hd : decode c.code pc = .ok (.return_, 1)) (hc : cells ≤ kc) (hs : slots ≤ ks) (q : Q none T.heap locs) : OwnH Z EL p e below s kc ks Q T (mkF m pc Ls []) := by
  obtain ⟨fs, hr, hrun, hended, h1, h2, h3, h4⟩ := X.leaveW hS hk (v := none) (fun _ => rfl) hlk
  exact ⟨_, _, X.returnOut hx hret hd hr, hrun, hended, _, locs, rfl, q, (have C2 := C.trans (CHv.at X hZ hEL C.1); C2), h1, h2, h3, h4.mono hc hs⟩
theorem own_metH {h0 : Heap} {y : MethodName} {bytes : ByteArray} {ml : Nat} {ret : Option FieldType} {ws : List Jvm.Cond} {rm : Room} {as' : Array Value} (hp : plainFor y = true)
    (body : ∀ (p : Program) (e : Env) (s : State) (m : MethodId) (below : List Frame) (meth : Method) (c : Code) (s₁ : State), Stand p l e rm (s.setVm s.vm) m as' below meth c s₁ [] 0 0 → p.tables.exec = Jvm.exec → c.code = bytes → c.maxLocals = ml → meth.sig.returnType = ret → meth.locks = false →
      (s.setVm s.vm).vm.findClass y.cls = some m.cls → meth.name = y.name → Z.Warmed39 (s.setVm s.vm).vm → s₁.heap = h0 → s.Since s.vm h0.size → CHr Z EL s.vm s.heap s.vm h0 → OwnH Z EL p e below s rm.cells rm.slots Q s₁ (entryFrame m as' ml)) :
    MetFree l y (head1 (Jvm.Cond.code y bytes ml ret :: ws) rm) (fun a U => a = as' ∧ Z.Warmed39 U.vm ∧ U.heap = h0 ∧ CHv Z EL U.vm h0) (fun _ _ _ _ _ => True) (fun _ U o U' => ∃ v L, o = .returned v ∧ Q v U'.heap L ∧ CHr Z EL U.vm U.heap U'.vm U'.heap ∧ ReturnedEndW U o U' L rm.cells rm.slots) := by
  refine MetFree.of_bodySF hp hisR ?_
  intro p e s m args below meth c s₁ Bd hml0 hP hK
  obtain ⟨rfl, hZ, hh, hC⟩ := hP
  have X0 : Stand p l e rm s m _ below meth c s₁ [] 0 0 := Stand.of_body Bd
  have h0' : s₁.heap = h0 := by rw [← hh, Bd.state]; rfl
  have hw : s.WarmedH s.vm := by
    have q := X0.warmed
    rw [Bd.state] at q
    exact q
  have hC0 : CHr Z EL s.vm s.heap s.vm h0 := by rw [hh]; exact CHr.refl hC
  exact body p e s m below meth c s₁ X0 Bd.exec Bd.bytes hml0 Bd.returns Bd.notSynchronized (findClass_of_methodNamed Bd.named) (name_of_methodNamed Bd.named Bd.method).1 hZ h0' (hw.since _) hC0
theorem own_metHS {h0 : Heap} {xs : Addr} {y : MethodName} {bytes : ByteArray} {ml : Nat} {ret : Option FieldType} {ws : List Jvm.Cond} {rm : Room} {as' : Array Value} (hp : plainFor y = true)
    (body : ∀ (p : Program) (e : Env) (s : State) (m : MethodId) (below : List Frame) (meth : Method) (c : Code) (s₁ : State), Stand p l e rm (s.setVm s.vm) m as' below meth c s₁ [] 0 0 → p.tables.exec = Jvm.exec → c.code = bytes → c.maxLocals = ml → meth.sig.returnType = ret → meth.locks = false →
      (s.setVm s.vm).vm.findClass y.cls = some m.cls → meth.name = y.name → Z.Warmed39 (s.setVm s.vm).vm → s₁.heap = h0 → s.Since s.vm h0.size → CHr Z EL s.vm s.heap s.vm h0 → Safe Z EL s.vm h0 xs → OwnH Z EL p e below s rm.cells rm.slots Q s₁ (entryFrame m as' ml)) :
    MetFree l y (head1 (Jvm.Cond.code y bytes ml ret :: ws) rm) (fun a U => a = as' ∧ Z.Warmed39 U.vm ∧ U.heap = h0 ∧ CHv Z EL U.vm h0 ∧ Safe Z EL U.vm h0 xs) (fun _ _ _ _ _ => True) (fun _ U o U' => ∃ v L, o = .returned v ∧ Q v U'.heap L ∧ CHr Z EL U.vm U.heap U'.vm U'.heap ∧ ReturnedEndW U o U' L rm.cells rm.slots) := by
  refine MetFree.of_bodySF hp hisR ?_
  intro p e s m args below meth c s₁ Bd hml0 hP hK
  obtain ⟨rfl, hZ, hh, hC, hSf⟩ := hP
  have X0 : Stand p l e rm s m _ below meth c s₁ [] 0 0 := Stand.of_body Bd
  have h0' : s₁.heap = h0 := by rw [← hh, Bd.state]; rfl
  have hw : s.WarmedH s.vm := by
    have q := X0.warmed
    rw [Bd.state] at q
    exact q
  have hC0 : CHr Z EL s.vm s.heap s.vm h0 := by rw [hh]; exact CHr.refl hC
  exact body p e s m below meth c s₁ X0 Bd.exec Bd.bytes hml0 Bd.returns Bd.notSynchronized (findClass_of_methodNamed Bd.named) (name_of_methodNamed Bd.named Bd.method).1 hZ h0' (hw.since _) hC0 hSf
theorem own_backSH {h : Heap} {xs : Addr} {y : MethodName} {bytes : ByteArray} {maxL : Nat} {ret : Option FieldType} {rm : Room} {len W : Nat} {as' : Array Value}
    (hM : MetFree l y (head1 [Cond.code y bytes maxL ret] rm) (fun a U => a = as' ∧ Z.Warmed39 U.vm ∧ U.heap = h ∧ CHv Z EL U.vm h ∧ Safe Z EL U.vm h xs) (fun _ _ _ _ _ => True) (fun _ U o U' => ∃ v L, o = .returned v ∧ Q v U'.heap L ∧ CHr Z EL U.vm U.heap U'.vm U'.heap ∧ ReturnedEndW U o U' L rm.cells rm.slots))
    (hZ : Z.Warmed39 vm0) (wc : (Cond.code y bytes maxL ret).before a0 Z = true) (wz : (Cond.initialized y.cls).before a0 Z = true) (hf : rm.frames + 1 ≤ R.frames) (hl : W + (maxL + 11) + rm.locals ≤ R.locals) (hEL : EW Z a0 EL) (H : CHv Z EL vm0 h) (hlt : xs < h.size) (S : Safe Z EL vm0 h xs) :
    BackS l R p e below (s.setVm vm0) args y len W (fun A a => a = as' ∧ A.U.heap = h ∧ A.cells + rm.cells ≤ R.cells ∧ A.slots + rm.slots ≤ R.slots)
      (fun A _ v B => ∃ L, Q v B.U.heap L ∧ B.locs = A.locs ++ L ∧ B.cells = A.cells + rm.cells ∧ B.slots = A.slots + rm.slots ∧ CHr Z EL vm0 h B.U.vm B.U.heap) :=
  BackS.of_freeW (bytes := bytes) (maxL := maxL) (ret := ret) (E := fun _ first o t L k n => k = rm.cells ∧ n = rm.slots ∧ (∃ v, o = .returned v ∧ Q v t.heap L) ∧ CHr Z EL first.vm first.heap t.vm t.heap) hM hf hl
    (fun m meth c A a Y hp => have hU : Z.Warmed39 A.U.vm := wtrans (s := s.setVm vm0) hZ Y.warmed
      ⟨by show (Cond.and _ .tt).before a A.U = true; rw [Cond.before_and, mv hU wc]; rfl, mv hU wc, mv hU wz, hp.2.2.1, hp.2.2.2⟩)
    (fun m meth c A a g mk Y hp => ⟨hp.1, wtrans (s := s.setVm vm0) hZ Y.warmed, hp.2.1, (CHv.at Y hZ hEL H).1, (CHv.at Y hZ hEL H).safe hlt S⟩) (fun _ _ _ _ _ _ _ _ _ => trivial)
    (fun _ _ _ _ ⟨v, L, h1, h2, h3, h4⟩ => ⟨L, _, _, h4, rfl, rfl, ⟨v, h1, h2⟩, h3⟩)
    (fun m meth c A a g mk v t L k n Y hp _ _ ⟨e1, e2, ⟨v', e3, e4⟩, e5⟩ => by
      cases e3; subst e1 e2
      refine ⟨L, e4, rfl, rfl, rfl, (CHv.at Y hZ hEL H).trans ?_⟩
      rw [← hp.2.1]; exact e5)
theorem own_metHW {h0 : Heap} {y : MethodName} {bytes : ByteArray} {ml : Nat} {ret : Option FieldType} {ws : List Jvm.Cond} {rm : Room} {as' : Array Value} (hp : plainFor y = true)
    (body : ∀ (p : Program) (e : Env) (s : State) (m : MethodId) (below : List Frame) (meth : Method) (c : Code) (s₁ : State), Stand p l e rm (s.setVm s.vm) m as' below meth c s₁ [] 0 0 → p.tables.exec = Jvm.exec → c.code = bytes → c.maxLocals = ml → meth.sig.returnType = ret → meth.locks = false →
      (s.setVm s.vm).vm.findClass y.cls = some m.cls → meth.name = y.name → Z.Warmed39 (s.setVm s.vm).vm → s₁.heap = h0 → s.Since s.vm h0.size → CHv Z EL s.vm h0 → OwnW p e below s rm.cells rm.slots Q s₁ (entryFrame m as' ml)) :
    MetFree l y (head1 (Jvm.Cond.code y bytes ml ret :: ws) rm) (fun a U => a = as' ∧ Z.Warmed39 U.vm ∧ U.heap = h0 ∧ CHv Z EL U.vm h0) (fun _ _ _ _ _ => True) (fun _ U o U' => ∃ v L, o = .returned v ∧ Q v U'.heap L ∧ ReturnedEndW U o U' L rm.cells rm.slots) := by
  refine MetFree.of_bodySF hp hisR ?_
  intro p e s m args below meth c s₁ Bd hml0 hP hK
  obtain ⟨rfl, hZ, hh, hC⟩ := hP
  have X0 : Stand p l e rm s m _ below meth c s₁ [] 0 0 := Stand.of_body Bd
  have h0' : s₁.heap = h0 := by rw [← hh, Bd.state]; rfl
  have hw : s.WarmedH s.vm := by
    have q := X0.warmed
    rw [Bd.state] at q
    exact q
  exact body p e s m below meth c s₁ X0 Bd.exec Bd.bytes hml0 Bd.returns Bd.notSynchronized (findClass_of_methodNamed Bd.named) (name_of_methodNamed Bd.named Bd.method).1 hZ h0' (hw.since _) hC
theorem own_entryH {g g' : JFrame} (q : g = g') (k : OwnH Z EL p e below s kc ks Q T g') : OwnH Z EL p e below s kc ks Q T g := q ▸ k
end OwnHeld
theorem own_sub : ∀ a ∈ Bundle.stringAtoms, a ∈ tables_1 := by decide +kernel
section OwnLdcW
open Jvm.Free.SB Jvm.Free.SBG
variable {p : Program} {l : Launch} {e : Env} {R : Room} {s : State} {m : MethodId} {args : Array Value} {below : List Frame} {meth : Method} {c : Code} {T : State} {locs : List Loc} {cells slots : Nat} {Z : State} {a0 : Array Value} {EL : List (String × Nat)} {h : Heap} {vm0 : Vm} {own : String} {index : Nat}
/-- the tables once the String at b has been interned under us and noted in the pool -/
def own_noted (T : State) (k : ClassId) (ix : Nat) (us : Array UInt16) (b : Addr) : Vm := ({ T.vm with interned := T.vm.interned.push (us, b) } : Vm).noted k ix (.string b)
/-- ldc_w of the constant "", with no premise on what is held -/
theorem own_ldcWN (X : Stand p l e R s m args below meth c T locs cells slots) (hx : p.tables.exec = Jvm.exec) (hown : s.vm.findClass own = some m.cls) (hlk : (Cond.stringLink own index "").before args s = true) (hS : ∀ a ∈ Bundle.stringAtoms, a.before args s = true)
    {g : JFrame} (hg : g.method = m) (hd : decode c.code g.pc = .ok (.ldc_w index, 3)) (hrc : cells + 2 ≤ R.cells) (hrs : slots + 4 ≤ R.slots) :
    ∃ (a : Addr) (U : State), Stand p l e R (s.setVm U.vm) m args below meth c U locs (cells + 2) (slots + 4) ∧ s.Since U.vm U.heap.size ∧ (∃ k₂, U.vm.classes[m.cls]? = some k₂ ∧ k₂.resolved[index]? = some (some (.string a))) ∧ (∀ b, b < T.heap.size → U.heap[b]? = T.heap[b]?) ∧
      T.Warmed39 U.vm ∧ (U.vm.interned = T.vm.interned ∨ ∃ us : Array UInt16, U.vm.interned = T.vm.interned.push (us, a) ∧ T.vm.interned.find? (fun p => p.1 == us) = none ∧ (us.all (· < 256) = true → SlIn 0 T.heap.size U a us)) ∧
      ∀ target, Steps p.tables e below (U.setTop { g with pc := g.pc + 3, stack := .ref a :: g.stack }) target → Steps p.tables e below (T.setTop g) target := by
  obtain ⟨k, cf, i, us, hk, hcf, hc, hu, hnm, hdec, hres⟩ := Cond.stringLink_spec hown hlk
  obtain ⟨k', hk', he⟩ := X.warmed.alike.2.2 _ _ hk
  have hcf' : k'.cf = some cf := by rw [he]; exact hcf
  have hlen : (stringBytes us).size ≤ 0 := text_bytes_le hdec
  have names : ∀ q : Class, q.cf = some cf → q.cf.bind (namesOf? ·.constantPool index) = some (.string "") ∧ q.cf.bind (·.constantPool[index]?) = some (.string i) ∧ q.cf.bind (·.constantPool.utf8? i) = some us := fun q hq => by
    rw [hq]
    exact ⟨hnm, hc, by simp [ConstantPool.utf8?, hu]⟩
  have state : (k'.resolved[index]? = some none ∧ k.resolved[index]? = some none) ∨ ∃ a, k'.resolved[index]? = some (some (.string a)) := by
    rcases X.warmed.wide.entry hk hk' index with e0 | ⟨-, r, e1, hr | ⟨a, t, rfl, -⟩⟩
    · exact hres.imp (fun z => ⟨e0.trans z, z⟩) (fun ⟨a, z⟩ => ⟨a, e0.trans z⟩)
    · exact absurd hr (by cases r <;> simp [State.rightAt, hk, hcf, hnm])
    · exact Or.inr ⟨a, e1⟩
  subst hg
  rcases state with ⟨hop, hop0⟩ | ⟨a, hr⟩
  · obtain ⟨n1, n2, n3⟩ := names k hcf
    obtain ⟨r1, r2, r3⟩ := names k' hcf'
    rcases hf : T.vm.interned.find? (fun p => p.1 == us) with _ | ⟨u', a⟩
    · -- a new String
      obtain ⟨Q, LQ, q4, fv, fc⟩ := StringT.of_atoms (args := args) hS
      obtain ⟨kS, kB, LS, ty⟩ := LQ.warmer X.warmed.alike
      have fs : T.fitsSlot = s.fitsSlot := (show T.fitsSlot = (s.setVm T.vm).fitsSlot from rfl).trans (State.fitsSlot_setVm X.warmed.alike)
      have found : ({ T.vm with interned := T.vm.interned.push (us, T.heap.size + 1) } : Vm).interned.find? (fun p => p.1 == us) = some (us, T.heap.size + 1) := by
        show (T.vm.interned.push (us, T.heap.size + 1)).find? _ = _
        rw [Array.find?_push, hf]; simp
      have warm : s.Warmed39 (own_noted T g.method.cls index us (T.heap.size + 1)) := (X.warmed.wide.interns us (T.heap.size + 1)).notedString hk (Or.inl hop0) n1 n2 n3 found
      have warmT : T.Warmed39 (own_noted T g.method.cls index us (T.heap.size + 1)) := ((State.Warmed39.refl T).interns us (T.heap.size + 1)).notedString hk' (Or.inl hop) r1 r2 r3 found
      have Y := (X.pushed (bytesOf Q.cB us)).pushed (stringAt Q.cS kS Q.fv Q.fc us T.heap.size)
      rw [← withString_eq] at Y
      have hp : (withString T Q.cB Q.cS kS Q.fv Q.fc us).heap = (T.heap.push (bytesOf Q.cB us)).push (stringAt Q.cS kS Q.fv Q.fc us T.heap.size) := by rw [withString_eq]; rfl
      have sz : (withString T Q.cB Q.cS kS Q.fv Q.fc us).heap.size = T.heap.size + 2 := by rw [hp]; simp
      have old : ∀ b, b < T.heap.size → (withString T Q.cB Q.cS kS Q.fv Q.fc us).heap[b]? = T.heap[b]? := fun b hb => by
        rw [hp, Array.getElem?_push, if_neg (by rw [Array.size_push]; omega), Array.getElem?_push, if_neg (by omega)]
      have atB : ((withString T Q.cB Q.cS kS Q.fv Q.fc us).setVm (own_noted T g.method.cls index us (T.heap.size + 1))).heap[T.heap.size]? = some (bytesOf Q.cB us) := by
        show (withString T Q.cB Q.cS kS Q.fv Q.fc us).heap[T.heap.size]? = _
        rw [hp, Array.getElem?_push, if_neg (by rw [Array.size_push]; omega), Array.getElem?_push, if_pos rfl]
      have atS : ((withString T Q.cB Q.cS kS Q.fv Q.fc us).setVm (own_noted T g.method.cls index us (T.heap.size + 1))).heap[T.heap.size + 1]? = some (stringAt Q.cS kS Q.fv Q.fc us T.heap.size) := by
        show (withString T Q.cB Q.cS kS Q.fv Q.fc us).heap[T.heap.size + 1]? = _
        rw [hp, Array.getElem?_push, if_pos (by rw [Array.size_push])]
      have one : T.Interned1 ((withString T Q.cB Q.cS kS Q.fv Q.fc us).setVm (own_noted T g.method.cls index us (T.heap.size + 1))) :=
        ⟨Nat.le_trans (Nat.le_add_right _ 2) (Nat.le_of_eq sz.symm), Or.inr ⟨us, T.heap.size + 1, rfl, Nat.le_succ _, Nat.lt_of_lt_of_eq (Nat.lt_succ_self _) sz.symm⟩⟩
      have b1 : (bytesOf Q.cB us).slots.size = (stringBytes us).size := by rw [(Cell.writeAll_facts _ _).2.2]; simp [bytes0]
      have b2 : (stringAt Q.cS kS Q.fv Q.fc us T.heap.size).slots.size = 4 := by simp [string0, Cell.setSlot, ty, q4]
      refine ⟨T.heap.size + 1, (withString T Q.cB Q.cS kS Q.fv Q.fc us).setVm (own_noted T g.method.cls index us (T.heap.size + 1)), (Y.mono (by omega) (by rw [b1, b2]; omega)).retabled warm, ⟨warm, State.Booked.step (X.warmed.no_new_pair _) X.same.2.1 one⟩,
        ⟨_, Vm.classes_note_self (vm := { T.vm with interned := T.vm.interned.push (us, T.heap.size + 1) }) index (.string (T.heap.size + 1)) hk', Class.resolved_note_self (.string (T.heap.size + 1)) hop⟩, old, warmT, Or.inr ⟨us, rfl, hf, fun hl => made_sl hS LQ q4 ty warm.alike atB atS hl (by omega) 0⟩, fun target hrest => ?_⟩
      refine Steps.instr (c := _) (by simpa using X.here) ?_
      simp [jvm, wpRun, exec, X.here.top, hx, hd]
      refine ldc_w.wp_string_new (e := e) (s := T) (f := g) X.here.top hk' hcf' hc hu hop hf LS.found LS.cls LS.initialized LS.ordinary LS.foundB LS.clsB LS.kindB LS.value LS.coder ?_ ?_ (X.cellsAbove hrc) ?_
        (stringBytes_fit LS.clsB LS.kindB us) LS.valueSlot LS.coderSlot (by rw [fs]; exact fv _) (by rw [fs]; exact fc _) (fun d' acts' => ?_)
      · rw [Launch.admits_arrayLengthLimit X.admits]; omega
      · rw [Launch.admits_maxHeapBytes X.admits]; simp only [componentBytes]; omega
      · have := X.slotsAbove (n := 4) hrs
        show T.slotsUsed + (stringBytes us).size + kS.instanceTypes.size ≤ _
        rw [ty, q4]; omega
      · intro acts''
        have t1 : (withString T Q.cB Q.cS kS Q.fv Q.fc us).topJava?.isSome := by simpa [withString] using X.here.top
        have t2 : ((withString T Q.cB Q.cS kS Q.fv Q.fc us).setVm (({ T.vm with interned := T.vm.interned.push (us, T.heap.size + 1) } : Vm).noted g.method.cls index (.string (T.heap.size + 1)))).topJava?.isSome := by simpa using t1
        simp [jvm, afterInstr, t1, t2]
        rw [State.modifyTopJava_setTop]
        exact hrest
    · -- interned before
      obtain rfl : u' = us := by simpa using Array.find?_some hf
      have warm : s.Warmed39 (T.vm.noted g.method.cls index (.string a)) := X.warmed.wide.notedString hk (Or.inl hop0) n1 n2 n3 hf
      refine ⟨a, T.setVm (T.vm.noted g.method.cls index (.string a)), (X.mono (by omega) (by omega)).retabled warm, ⟨warm, State.Booked.step (T₂ := T.setVm (T.vm.noted g.method.cls index (.string a))) (X.warmed.no_new_pair _) X.same.2.1 ⟨Nat.le_refl _, Or.inl rfl⟩⟩, ⟨_, Vm.classes_note_self index (.string a) hk', Class.resolved_note_self (.string a) hop⟩, fun _ _ => rfl, (State.Warmed39.refl T).notedString hk' (Or.inl hop) r1 r2 r3 hf, Or.inl rfl, fun target hrest => ?_⟩
      jvm_step X.here [hx, hd, ldc_w.wp_string_found (e := e) (s := T) (f := g) X.here.top hk' hcf' hc hu hop hf]
      exact hrest
  · -- resolved before
    refine ⟨a, T, (X.mono (by omega) (by omega)).retabled X.warmed.wide, X.warmed.since _, ⟨k', hk', hr⟩, fun _ _ => rfl, State.Warmed39.refl T, Or.inl rfl, fun target hrest => ?_⟩
    jvm_step X.here [hx, hd, ldc_w.wp_string (e := e) (s := T) (f := g) X.here.top hk' hcf' hc hr]
    exact hrest
/-- what the booked form of a String says in the road's own words -/
theorem own_slread {vm : Vm} {h' : Heap} {q : SQ} {us : Array UInt16} (hW : Z.Warmed39 vm) (F : SlB (Wst Z vm h') q us) :
    Exa Z h' q.sa "java/lang/String" ∧ Fld Z h' q.sa "java/lang/String" "coder" "B" (.int 0) ∧ Fld Z h' q.sa "java/lang/String" "value" "[B" (.ref q.sd) ∧ Arr Z h' q.sd q.SA .byte ∧ q.SA.slots = stringBytes us := by
  obtain ⟨cS, ⟨⟨y1, y2, y3, ⟨cv, kv, iv, y4, z4⟩, ⟨cc, kc, ic, y5, z5⟩, y6, y7, y8, y9, d1, d2, d3, -⟩, f1, f2⟩, ⟨kS, g1, g2, g3⟩, -, hbyt⟩ := F
  have hal : Z.vm.Alike vm := hW.alike
  obtain ⟨kv', w4⟩ := ff_back (U := Wst Z vm h') hal y4
  obtain ⟨kc', w5⟩ := ff_back (U := Wst Z vm h') hal y5
  have nmS : Z.vm.findClass "java/lang/String" = some q.sC.cls := by rw [← hal.findClass, f2]; exact f1
  obtain ⟨kz, hkz, -⟩ := Vm.findClass_spec nmS
  obtain ⟨kz', hkz', ekz⟩ := hal.2.2 _ _ hkz
  have ekS : kz' = kS := Option.some.inj (hkz'.symm.trans (f2 ▸ (show vm.classes[cS]? = some kS from g1)))
  obtain ⟨n1, k9, n2, comp, n3⟩ := d2
  refine ⟨⟨q.sC, kz, y1, nmS, hkz, y3, fun _ => by rw [g3, ← ekS, ekz]⟩, ⟨q.sC, cc, kc', ic, q.fSC, y1, w5, y7, y2, y3, by rw [← hal.assignable]; exact z5, y9⟩, ⟨q.sC, cv, kv', iv, q.fSV, y1, w4, y6, y2, y3, by rw [← hal.assignable]; exact z4, y8⟩, ⟨d1, ⟨n1, ?_⟩, d3⟩, hbyt⟩
  have hlt : q.SA.cls < Z.vm.classes.size := by
    have hl := (Array.getElem?_eq_some_iff.mp (show vm.classes[q.SA.cls]? = some k9 from n2)).1
    rw [hal.2.1] at hl; exact hl
  obtain ⟨kb', hkb', ekb⟩ := hal.2.2 _ _ (Array.getElem?_eq_getElem hlt)
  have e9 : k9 = kb' := Option.some.inj ((show vm.classes[q.SA.cls]? = some k9 from n2).symm.trans hkb')
  exact ⟨_, Array.getElem?_eq_getElem hlt, comp, by rw [e9, ekb] at n3; exact n3⟩
/-- ldc_w of the constant "", read -/
theorem own_ldcW (X : Stand p l e R (s.setVm vm0) m args below meth c T locs cells slots) (hx : p.tables.exec = Jvm.exec) (hZ : Z.Warmed39 vm0) (hown : vm0.findClass own = some m.cls) (w : (Cond.stringLink own index "").before a0 Z = true) (wS : ∀ a ∈ Bundle.stringAtoms, a.before a0 Z = true)
    (eT : T.heap = h) {k0 : Nat} (hS : s.Since vm0 k0) (hk : k0 ≤ h.size) (hEL : EW Z a0 EL) (hmem : (own, index) ∈ EL) (H : CHv Z EL vm0 h) {g : JFrame} (hg : g.method = m) (hd : decode c.code g.pc = .ok (.ldc_w index, 3)) (hc : cells + 2 ≤ R.cells) (hl : slots + 4 ≤ R.slots) :
    ∃ (a : Addr) (T' : State) (h' : Heap) (k1 : Nat) (b : Addr) (k : ClassId), Stand p l e R (s.setVm T'.vm) m args below meth c T' locs (cells + 2) (slots + 4) ∧ T'.heap = h' ∧ Ext h h' ∧ s.Since T'.vm k1 ∧ k1 ≤ h'.size ∧ Z.Warmed39 (s.setVm T'.vm).vm ∧ (s.setVm T'.vm).vm.findClass own = some m.cls ∧
      Exa Z h' a "java/lang/String" ∧ Fld Z h' a "java/lang/String" "coder" "B" (.int 0) ∧ Fld Z h' a "java/lang/String" "value" "[B" (.ref b) ∧ Arv Z h' b k .byte (0 : Int32) (([] : List Int32).map Value.int) (.int 0) ∧ CHr Z EL vm0 h T'.vm h' ∧
      ∀ target, Steps p.tables e below (T'.setTop { g with pc := g.pc + 3, stack := .ref a :: g.stack }) target → Steps p.tables e below (T.setTop g) target := by
  subst eT
  have wS' : ∀ d ∈ Bundle.stringAtoms, d.before args (s.setVm vm0) = true := fun d hd => by
    have q := wS d hd
    simp only [Bundle.stringAtoms, List.mem_cons, List.not_mem_nil, or_false] at hd
    rcases hd with rfl | rfl | rfl | rfl | rfl | rfl | rfl
    · exact mv (s := s.setVm vm0) hZ q
    · exact mv (s := s.setVm vm0) hZ q
    · exact mvA (s := s.setVm vm0) hZ q
    · exact mv (s := s.setVm vm0) hZ q
    · exact mv (s := s.setVm vm0) hZ q
    · exact mv (s := s.setVm vm0) hZ q
    · exact mv (s := s.setVm vm0) hZ q
  obtain ⟨a, U, Y, hU, ⟨ku, hku, hru⟩, old, wT, hint, st⟩ := own_ldcWN X hx hown (mvS hZ w) wS' hg hd hc hl
  have E : Ext T.heap U.heap := ext_of old
  have hW : Z.Warmed39 U.vm := State.Warmed39.trans (t := s.setVm vm0) hZ hU.1
  have hf : U.vm.findClass own = some m.cls := by rw [hU.1.alike.findClass]; exact hown
  have A := CHv.at X hZ hEL H
  have B := CHv.later (vm := T.vm) (vm1 := U.vm) (wtrans (s := s.setVm vm0) hZ X.warmed) (show (Wst Z T.vm T.heap).Warmed39 U.vm from wT) hEL E (hint.imp id fun ⟨us, e1, e2, e3⟩ => ⟨us, a, e1, e2, fun hl => by
    obtain ⟨q, cS, hq, r1, r2, r3, r4, r5⟩ := e3 hl
    have F : SlB U q us := ⟨cS, r1, r2, r3, r4⟩
    refine ⟨q, hq, F.carry (V := Wst Z U.vm U.heap) (Vm.Alike.refl _) F.ha F.hd, ?_⟩
    rcases r5 with ⟨z, -⟩ | z
    · exact absurd z (Nat.not_lt_zero _)
    · exact z⟩) A.1
  have C := A.trans ⟨B.1, E.1, B.2⟩
  obtain ⟨k3, cf, i, us, hk3, hcf, hp, hu, -, htext, -⟩ := Cond.stringLink_spec (args := args) (s := Wst Z U.vm U.heap) hf (mvS (s := { Z with heap := U.heap }) hW w)
  cases hku.symm.trans (show U.vm.classes[m.cls]? = some k3 from hk3)
  obtain ⟨q, hqa, F⟩ := SlB.of (C.1 _ hmem us a ⟨m.cls, ku, cf, i, hf, hku, hcf, hp, hu, Or.inl hru⟩)
  obtain ⟨x1, x2, x3, x4, x5⟩ := own_slread hW F
  subst hqa
  have sz : q.SA.slots.size = 0 := by rw [x5]; exact Nat.le_zero.mp (text_bytes_le htext)
  exact ⟨q.sa, U, _, _, q.sd, q.SA.cls, Y, rfl, E, hS.trans hU (Nat.le_trans hk E.1), Nat.le_refl _, hW, hf, x1, x2, x3, ⟨q.SA, x4, rfl, sz, by decide, fun j hj => absurd hj (by omega), fun j hj => absurd hj (by omega)⟩, C, st⟩
end OwnLdcW
def own_upd (f : Nat → Int32) (i : Nat) (x : Int32) : Nat → Int32 := fun j => if j = i then x else f j
def BArr (Z : State) (h : Heap) (a : Addr) (n : Nat) (f : Nat → Int32) : Prop := ∃ c : Cell, Arr Z h a c .byte ∧ c.slots.size = n ∧ ∀ i, i < n → c.slots[i]? = some (.int (f i))
theorem BArr.lt {Z : State} {h : Heap} {a : Addr} {n : Nat} {f : Nat → Int32} (F : BArr Z h a n f) : a < h.size := by obtain ⟨c, A, -⟩ := F; exact A.lt
theorem BArr.ext {Z : State} {h h' : Heap} {a : Addr} {n : Nat} {f : Nat → Int32} (F : BArr Z h a n f) (E : Ext h h') : BArr Z h' a n f := by obtain ⟨c, A, r⟩ := F; exact ⟨c, A.ext E, r⟩
theorem BArr.other {Z : State} {h h' : Heap} {a : Addr} {n : Nat} {f : Nat → Int32} {b : Addr} {sl : Nat} {v : Value} (F : BArr Z h b n f) (W : Wr h h' a sl v) (q : b ≠ a) : BArr Z h' b n f := by obtain ⟨c, A, r⟩ := F; exact ⟨c, A.other W q, r⟩
theorem BArr.keep {Z : State} {h h' : Heap} {a : Addr} {n : Nat} {f : Nat → Int32} {ws : List Addr} (F : BArr Z h a n f) (K : Keep h h' ws) (q : a ∉ ws) : BArr Z h' a n f := by obtain ⟨c, A, r⟩ := F; exact ⟨c, ⟨K.2.1 a c A.1 q, A.2⟩, r⟩
theorem BArr.new {Z : State} {h : Heap} {a : Addr} {k : ClassId} {z : Int32} {n : Nat} (A : Arr Z h a (newA k .byte z) .byte) (hz : z.toNatClampNeg = n) : BArr Z h a n (fun _ => 0) := by
  refine ⟨_, A, (sz_new _ _ _).trans hz, fun i hi => ?_⟩
  subst hz
  simp only [newA, Array.getElem?_replicate, if_pos hi]
  rfl
theorem BArr.set {Z : State} {h h' : Heap} {a : Addr} {n : Nat} {f : Nat → Int32} {c : Cell} {j : Int32} {x : Int32} (A : Arr Z h a c .byte) (hs : c.slots.size = n) (hat : ∀ i, i < n → c.slots[i]? = some (.int (f i))) (W : Wr h h' a j.toNatClampNeg (.int (nar .byte x))) {i : Nat} (hj : j.toNatClampNeg = i) : BArr Z h' a n (own_upd f i (x.toInt8.toInt32)) := by
  subst hj
  refine ⟨_, A.same W, (sz_set _ _ _).trans hs, fun i hi => ?_⟩
  simp only [Cell.setSlot, Array.getElem?_setIfInBounds, own_upd]
  by_cases q : j.toNatClampNeg = i
  · subst q
    rw [if_pos rfl, if_pos (by rw [hs]; exact hi), if_pos rfl]
    first | rfl | done
  · rw [if_neg q, if_neg (fun z => q z.symm)]
    exact hat i hi
theorem BArr.eq {Z : State} {h : Heap} {a : Addr} {n : Nat} {f : Nat → Int32} {g : Nat → Int32} (F : BArr Z h a n f) (q : f = g) : BArr Z h a n g := q ▸ F
theorem own_shr0 (x : Int32) : x >>> ((0 : Int32) &&& 31) = x := by
  rw [show (0 : Int32) &&& 31 = 0 from rfl]; exact Int32.shiftRight_zero
theorem own_i2cc {x y : Int32} (h : x.toUInt32.toUInt16.toUInt32.toInt32 = y) : y.toUInt32.toUInt16.toUInt32.toInt32 = y := by
  subst h
  have q := c_i2c x
  have r := c_i2c (x.toUInt32.toUInt16.toUInt32.toInt32)
  rw [← Int32.toInt_inj]
  omega
theorem own_ltn {a b : Nat} (ha : a < 1000) (hb : b < 1000) : Int32.ofNat a < Int32.ofNat b ↔ a < b := by
  rw [Int32.lt_iff_toInt_lt, toInt_of (n := Int32.ofNat a) rfl (by omega), toInt_of (n := Int32.ofNat b) rfl (by omega)]
  omega
theorem own_eqn {a b : Nat} (ha : a < 1000) (hb : b < 1000) : Int32.ofNat a = Int32.ofNat b ↔ a = b := by
  rw [← Int32.toInt_inj, toInt_of (n := Int32.ofNat a) rfl (by omega), toInt_of (n := Int32.ofNat b) rfl (by omega)]
  omega
theorem own_nonneg {n : Nat} (hn : n < 1000) : ¬ Int32.ofNat n < (0 : Int32) := by
  rw [Int32.lt_iff_toInt_lt, toInt_of rfl (by omega)]
  have z : (0 : Int32).toInt = 0 := by decide
  omega
theorem own_addn (a b : Nat) (ha : a < 1000) (hb : b < 1000) : Int32.ofNat a + Int32.ofNat b = Int32.ofNat (a + b) := by
  rw [← Int32.toInt_inj, toInt_of (n := Int32.ofNat (a + b)) rfl (by omega)]
  have q := c_iadd (Int32.ofNat a) (Int32.ofNat b)
  rw [toInt_of (n := Int32.ofNat a) rfl (by omega), toInt_of (n := Int32.ofNat b) rfl (by omega)] at q
  have r := rng32 (Int32.ofNat a + Int32.ofNat b)
  omega
theorem own_subn (a b : Nat) (h : b ≤ a) (ha : a < 1000) : Int32.ofNat a - Int32.ofNat b = Int32.ofNat (a - b) := by
  rw [← Int32.toInt_inj, toInt_of (n := Int32.ofNat (a - b)) rfl (by omega)]
  have q := c_isub (Int32.ofNat a) (Int32.ofNat b)
  rw [toInt_of (n := Int32.ofNat a) rfl (by omega), toInt_of (n := Int32.ofNat b) rfl (by omega)] at q
  have r := rng32 (Int32.ofNat a - Int32.ofNat b)
  omega
/-- an array that the library tells by its list -/
theorem own_barr {Z : State} {h : Heap} {a : Addr} {k : ClassId} {z : Int32} {bs : List Int32} {n : Nat} (F : Arv Z h a k .byte z (bs.map Value.int) (.int 0)) (hn : bs.length = n) (hz : z.toNatClampNeg = n) : BArr Z h a n (fun i => bs.getD i 0) := by
  obtain ⟨c, A, -, hs, -, hh, -⟩ := F
  refine ⟨c, A, hs.trans hz, fun i hi => ?_⟩
  have q := hh i (by rw [hs, hz]; exact hi)
  rw [q]
  simp [List.getD, List.getElem?_map]
theorem d18_0 : decode jdk_42_method_152_code 0 = .ok (.getstatic 38, 3) := by decide +kernel
theorem d18_3 : decode jdk_42_method_152_code 3 = .ok (.ifCond .eq 10, 3) := by decide +kernel
theorem d18_6 : decode jdk_42_method_152_code 6 = .ok (.aload_n 0, 1) := by decide +kernel
theorem d18_7 : decode jdk_42_method_152_code 7 = .ok (.getfield 15, 3) := by decide +kernel
theorem d18_10 : decode jdk_42_method_152_code 10 = .ok (.goto 4, 3) := by decide +kernel
theorem d18_13 : decode jdk_42_method_152_code 13 = .ok (.iconst 1, 1) := by decide +kernel
theorem d18_14 : decode jdk_42_method_152_code 14 = .ok (.ireturn, 1) := by decide +kernel
theorem pn_18 : plainName "java/lang/String" = true := by first | (simp [plainName, overriddenIn]; done) | decide +kernel
theorem ef_18_R (m : MethodId) (x0 : Addr) : entryFrame m #[(.ref x0)] 1 = mkF m 0 #[.val (.ref x0)] [] := by first | (simp [entryFrame, mkF, argsToLocals, Value.category]; done) | rfl
def Q_rmCod (Z : State) (a1 : Addr) (G1 : Int32) (h0 : Heap) (n0 : Nat) (v : Option Value) (h : Heap) (L : List Loc) : Prop := v = some (.int (0 : Int32)) ∧ Fr n0 L ∧ h = h0
set_option maxRecDepth 65536 in
set_option maxHeartbeats 40000000 in
theorem rmCod (l : Launch) (Z : State) (a0 : Array Value) (hw : ∀ d ∈ tables_1, d.before a0 Z = true) (ws : List Jvm.Cond) (a1 : Addr) (G1 : Int32) (h0 : Heap) (n0 : Nat) (Z0 : n0 ≤ h0.size) (O2 : Sta Z h0 "java/lang/String" "COMPACT_STRINGS" "Z" (.int G1)) (hG : ¬ G1 = (0 : Int32)) (F2 : Fld Z h0 a1 "java/lang/String" "coder" "B" (.int (0 : Int32))) :
    MetFree l (⟨"java/lang/String", "coder", "()B"⟩ : MethodName) (head1 (Jvm.Cond.code (⟨"java/lang/String", "coder", "()B"⟩ : MethodName) jdk_42_method_152_code 1 (some .byte) :: ws) ({ frames := 0, cells := 0, slots := 0, locals := 0 } : Room)) (fun a U => a = #[(.ref a1)] ∧ Z.Warmed39 U.vm ∧ U.heap = h0) (fun _ _ _ _ _ => True) (fun _ U o U' => ∃ v L, o = .returned v ∧ Q_rmCod Z a1 G1 h0 n0 v U'.heap L ∧ FrameEnd U o U' L ({ frames := 0, cells := 0, slots := 0, locals := 0 } : Room).cells ({ frames := 0, cells := 0, slots := 0, locals := 0 } : Room).slots) := by
  refine own_met (y := (⟨"java/lang/String", "coder", "()B"⟩ : MethodName)) (Q := (Q_rmCod Z a1 G1 h0 n0)) (plainFor_of_name pn_18) fun p e s m below meth c s₁ X0 hx hby hml hret hlk hown hnm hZ e0 => ?_
  refine own_entry (ef_18_R m a1) ?_
  obtain ⟨T1, X1, e1, st1⟩ := getS2 X0 hx hZ hown (host := "") (Or.inl (own_w hw 21 rfl)) Via.refl e0 O2 (g := (mkF m 0 #[.val (.ref a1)] [])) rfl (hb hby d18_0)
  refine own_to T1 (mkF m 7 #[.val (.ref a1)] [(.ref a1)]) (fun tq kq => st1 _ (XS.ifNo X1.here hx rfl (hb hby d18_3) rfl ((if0 _ _).trans (feq hG).1) (XS.aloadN X1.here hx rfl (hb hby d18_6) rfl rfl kq))) ?_
  obtain ⟨T2, X2, e2, st2⟩ := getF X1 hx hZ hown (host := "") (Or.inl (own_w hw 52 rfl)) Via.refl e1 F2 (g := (mkF m 7 #[.val (.ref a1)] [(.ref a1)])) rfl rfl (hb hby d18_7)
  refine own_to T2 (mkF m 14 #[.val (.ref a1)] [(.int (0 : Int32))]) (fun tq kq => st2 _ (XS.goto X2.here hx rfl (pc0 := 10) (pc' := 14) rfl (hb hby d18_10) (by decide) (by decide) kq)) ?_
  exact own_retB X2 hx hret hlk (hb hby d18_14) (by decide) (by decide) rfl ⟨rfl, (Fr.nil n0), e2⟩
theorem d17_0 : decode jdk_42_method_54_code 0 = .ok (.aload_n 0, 1) := by decide +kernel
theorem d17_1 : decode jdk_42_method_54_code 1 = .ok (.getfield 9, 3) := by decide +kernel
theorem d17_4 : decode jdk_42_method_54_code 4 = .ok (.arraylength, 1) := by decide +kernel
theorem d17_5 : decode jdk_42_method_54_code 5 = .ok (.aload_n 0, 1) := by decide +kernel
theorem d17_6 : decode jdk_42_method_54_code 6 = .ok (.invokevirtual 335, 3) := by decide +kernel
theorem d17_9 : decode jdk_42_method_54_code 9 = .ok (.ishr, 1) := by decide +kernel
theorem d17_10 : decode jdk_42_method_54_code 10 = .ok (.ireturn, 1) := by decide +kernel
theorem ef_17_R (m : MethodId) (x0 : Addr) : entryFrame m #[(.ref x0)] 1 = mkF m 0 #[.val (.ref x0)] [] := by first | (simp [entryFrame, mkF, argsToLocals, Value.category]; done) | rfl
def Q_rmLen (Z : State) (a1 t1 : Addr) (n : Nat) (f : Nat → Int32) (G1 : Int32) (h0 : Heap) (n0 : Nat) (v : Option Value) (h : Heap) (L : List Loc) : Prop := v = some (.int (Int32.ofNat n)) ∧ Fr n0 L ∧ h = h0
theorem pd_16 : parseMethodDescriptor "()B" = some ⟨[], some .byte⟩ := by decide +kernel
set_option maxRecDepth 65536 in
set_option maxHeartbeats 40000000 in
theorem rmLen (l : Launch) (Z : State) (a0 : Array Value) (hw : ∀ d ∈ tables_1, d.before a0 Z = true) (ws : List Jvm.Cond) (a1 t1 : Addr) (n : Nat) (f : Nat → Int32) (G1 : Int32) (h0 : Heap) (n0 : Nat) (Z0 : n0 ≤ h0.size) (O2 : Sta Z h0 "java/lang/String" "COMPACT_STRINGS" "Z" (.int G1)) (hG : ¬ G1 = (0 : Int32)) (E1 : Exa Z h0 a1 "java/lang/String") (F1 : Fld Z h0 a1 "java/lang/String" "value" "[B" (.ref t1)) (F2 : Fld Z h0 a1 "java/lang/String" "coder" "B" (.int (0 : Int32))) (A1 : BArr Z h0 t1 n f) :
    MetFree l (⟨"java/lang/String", "length", "()I"⟩ : MethodName) (head1 (Jvm.Cond.code (⟨"java/lang/String", "length", "()I"⟩ : MethodName) jdk_42_method_54_code 1 (some .int) :: ws) ({ frames := 1, cells := 0, slots := 0, locals := 13 } : Room)) (fun a U => a = #[(.ref a1)] ∧ Z.Warmed39 U.vm ∧ U.heap = h0) (fun _ _ _ _ _ => True) (fun _ U o U' => ∃ v L, o = .returned v ∧ Q_rmLen Z a1 t1 n f G1 h0 n0 v U'.heap L ∧ FrameEnd U o U' L ({ frames := 1, cells := 0, slots := 0, locals := 13 } : Room).cells ({ frames := 1, cells := 0, slots := 0, locals := 13 } : Room).slots) := by
  refine own_met (y := (⟨"java/lang/String", "length", "()I"⟩ : MethodName)) (Q := (Q_rmLen Z a1 t1 n f G1 h0 n0)) (plainFor_of_name pn_18) fun p e s m below meth c s₁ X0 hx hby hml hret hlk hown hnm hZ e0 => ?_
  refine own_entry (ef_17_R m a1) ?_
  obtain ⟨c1, Ar1, hsz1, hat1⟩ := A1
  refine own_to s₁ (mkF m 1 #[.val (.ref a1)] [(.ref a1)]) (fun tq kq => XS.aloadN X0.here hx rfl (hb hby d17_0) rfl rfl kq) ?_
  obtain ⟨T1, X1, e1, st1⟩ := getF X0 hx hZ hown (host := "") (Or.inl (own_w hw 54 rfl)) Via.refl e0 F1 (g := (mkF m 1 #[.val (.ref a1)] [(.ref a1)])) rfl rfl (hb hby d17_1)
  refine own_to T1 (mkF m 5 #[.val (.ref a1)] [(.int (c1.slots.size.toInt32))]) (fun tq kq => st1 _ (X1.arraylength hx (by rw [e1]; exact Ar1.1) (State.isArrayOf_alike hZ.alike Ar1.2.1) (g := (mkF m 4 #[.val (.ref a1)] [(.ref t1)])) rfl rfl (hb hby d17_4) _ kq)) ?_
  rw [show c1.slots.size.toInt32 = Int32.ofNat n from by rw [hsz1] <;> rfl]
  refine own_to T1 (mkF m 6 #[.val (.ref a1)] [(.ref a1), (.int (Int32.ofNat n))]) (fun tq kq => XS.aloadN X1.here hx rfl (hb hby d17_5) rfl rfl kq) ?_
  obtain ⟨cq2, kq2, q2a, q2b, q2c⟩ := isOf hZ e1 E1
  obtain ⟨_, _, ⟨T2, L2, k2, n2⟩, -, X2, ⟨Lc2, hQ2, l2, y2, z2⟩, st2⟩ := X1.virtualBack hx (y := (⟨"java/lang/String", "coder", "()B"⟩ : MethodName)) (z := (⟨"java/lang/String", "coder", "()B"⟩ : MethodName)) hown (mvT hZ (own_w hw 84 rfl)) (mvT hZ (own_w hw 85 rfl)) (notFace_of_selects (args := #[]) (mvT hZ (own_w hw 87 rfl))) (mvT hZ (own_w hw 87 rfl)) (mvT hZ (own_w hw 86 rfl)) (by decide) (backOf (W := 1) (rmCod l Z a0 hw [] a1 G1 h0 n0 Z0 O2 hG F2) hZ (own_w hw 88 rfl) (own_w hw 10 rfl) (by decide) (by decide)) q2a q2c (g := (mkF m 6 #[.val (.ref a1)] [(.ref a1), (.int (Int32.ofNat n))])) rfl (by rw [hml]; rfl) (Steps.refl _) (argsL := []) (rest := [(.int (Int32.ofNat n))]) (lenOf pd_16 rfl) rfl (by show 2 * 0 + _ ≤ _; exact Nat.le_of_eq rfl) (hb hby d17_6) (fun _ _ => ⟨rfl, e1, (by decide : 0 + 0 ≤ _), (by decide : 0 + 0 ≤ _)⟩)
  dsimp only [Pt.U, Pt.locs, Pt.cells, Pt.slots] at X2 l2 y2 z2 st2 hQ2
  have l2y := l2.symm
  clear l2
  subst l2y
  obtain rfl : k2 = 0 := y2
  obtain rfl : n2 = 0 := z2
  obtain ⟨rfl, N2q, e2⟩ := hQ2
  have N2 := Fr.app (Fr.nil n0) N2q
  refine own_to T2 (mkF m 10 #[.val (.ref a1)] [(.int ((Int32.ofNat n) >>> ((0 : Int32) &&& 31)))]) (fun tq kq => st2.trans (XS.ishr X2.here hx rfl (hb hby d17_9) rfl kq)) ?_
  rw [show ((Int32.ofNat n) >>> ((0 : Int32) &&& 31)) = (Int32.ofNat n) from own_shr0 _]
  exact own_retI X2 hx hret hlk (hb hby d17_10) (by decide) (by decide) ⟨rfl, N2, e2⟩
theorem d16_0 : decode jdk_42_method_154_code 0 = .ok (.getstatic 38, 3) := by decide +kernel
theorem d16_3 : decode jdk_42_method_154_code 3 = .ok (.ifCond .eq 14, 3) := by decide +kernel
theorem d16_6 : decode jdk_42_method_154_code 6 = .ok (.aload_n 0, 1) := by decide +kernel
theorem d16_7 : decode jdk_42_method_154_code 7 = .ok (.getfield 15, 3) := by decide +kernel
theorem d16_10 : decode jdk_42_method_154_code 10 = .ok (.ifCond .ne 7, 3) := by decide +kernel
theorem d16_13 : decode jdk_42_method_154_code 13 = .ok (.iconst 1, 1) := by decide +kernel
theorem d16_14 : decode jdk_42_method_154_code 14 = .ok (.goto 4, 3) := by decide +kernel
theorem d16_17 : decode jdk_42_method_154_code 17 = .ok (.iconst 0, 1) := by decide +kernel
theorem d16_18 : decode jdk_42_method_154_code 18 = .ok (.ireturn, 1) := by decide +kernel
theorem ef_16_R (m : MethodId) (x0 : Addr) : entryFrame m #[(.ref x0)] 1 = mkF m 0 #[.val (.ref x0)] [] := by first | (simp [entryFrame, mkF, argsToLocals, Value.category]; done) | rfl
def Q_rmLat (Z : State) (a1 : Addr) (G1 : Int32) (h0 : Heap) (n0 : Nat) (v : Option Value) (h : Heap) (L : List Loc) : Prop := v = some (.int (1 : Int32)) ∧ Fr n0 L ∧ h = h0
set_option maxRecDepth 65536 in
set_option maxHeartbeats 40000000 in
theorem rmLat (l : Launch) (Z : State) (a0 : Array Value) (hw : ∀ d ∈ tables_1, d.before a0 Z = true) (ws : List Jvm.Cond) (a1 : Addr) (G1 : Int32) (h0 : Heap) (n0 : Nat) (Z0 : n0 ≤ h0.size) (O2 : Sta Z h0 "java/lang/String" "COMPACT_STRINGS" "Z" (.int G1)) (hG : ¬ G1 = (0 : Int32)) (F2 : Fld Z h0 a1 "java/lang/String" "coder" "B" (.int (0 : Int32))) :
    MetFree l (⟨"java/lang/String", "isLatin1", "()Z"⟩ : MethodName) (head1 (Jvm.Cond.code (⟨"java/lang/String", "isLatin1", "()Z"⟩ : MethodName) jdk_42_method_154_code 1 (some .boolean) :: ws) ({ frames := 0, cells := 0, slots := 0, locals := 0 } : Room)) (fun a U => a = #[(.ref a1)] ∧ Z.Warmed39 U.vm ∧ U.heap = h0) (fun _ _ _ _ _ => True) (fun _ U o U' => ∃ v L, o = .returned v ∧ Q_rmLat Z a1 G1 h0 n0 v U'.heap L ∧ FrameEnd U o U' L ({ frames := 0, cells := 0, slots := 0, locals := 0 } : Room).cells ({ frames := 0, cells := 0, slots := 0, locals := 0 } : Room).slots) := by
  refine own_met (y := (⟨"java/lang/String", "isLatin1", "()Z"⟩ : MethodName)) (Q := (Q_rmLat Z a1 G1 h0 n0)) (plainFor_of_name pn_18) fun p e s m below meth c s₁ X0 hx hby hml hret hlk hown hnm hZ e0 => ?_
  refine own_entry (ef_16_R m a1) ?_
  obtain ⟨T1, X1, e1, st1⟩ := getS2 X0 hx hZ hown (host := "") (Or.inl (own_w hw 21 rfl)) Via.refl e0 O2 (g := (mkF m 0 #[.val (.ref a1)] [])) rfl (hb hby d16_0)
  refine own_to T1 (mkF m 7 #[.val (.ref a1)] [(.ref a1)]) (fun tq kq => st1 _ (XS.ifNo X1.here hx rfl (hb hby d16_3) rfl ((if0 _ _).trans (feq hG).1) (XS.aloadN X1.here hx rfl (hb hby d16_6) rfl rfl kq))) ?_
  obtain ⟨T2, X2, e2, st2⟩ := getF X1 hx hZ hown (host := "") (Or.inl (own_w hw 52 rfl)) Via.refl e1 F2 (g := (mkF m 7 #[.val (.ref a1)] [(.ref a1)])) rfl rfl (hb hby d16_7)
  refine own_to T2 (mkF m 18 #[.val (.ref a1)] [(.int (1 : Int32))]) (fun tq kq => st2 _ (XS.ifNo X2.here hx rfl (hb hby d16_10) rfl ((if0 _ _).trans (teq (by decide : (0 : Int32) = (0 : Int32))).2) (XS.iconst X2.here hx rfl (hb hby d16_13) (XS.goto X2.here hx rfl (pc0 := 14) (pc' := 18) rfl (hb hby d16_14) (by decide) (by decide) kq)))) ?_
  exact own_retZ X2 hx hret hlk (hb hby d16_18) (by decide) (by decide) (Or.inr rfl) ⟨rfl, (Fr.nil n0), e2⟩
def own_dec (x y : Int32) : Int32 := ((((x &&& (255 : Int32)) <<< ((0 : Int32) &&& 31)) ||| ((y &&& (255 : Int32)) <<< ((8 : Int32) &&& 31))).toUInt32.toUInt16.toUInt32.toInt32)
def own_lo (x : Int32) : Int32 := ((x >>> ((0 : Int32) &&& 31)).toInt8.toInt32).toInt8.toInt32
def own_hi (x : Int32) : Int32 := ((x >>> ((8 : Int32) &&& 31)).toInt8.toInt32).toInt8.toInt32
def own_put (f : Nat → Int32) (i : Nat) (x : Int32) : Nat → Int32 := own_upd (own_upd f (2 * i) (own_lo x)) (2 * i + 1) (own_hi x)
def own_U (f : Nat → Int32) (m n : Nat) (cc : Nat → Int32) : Prop := (∀ i, i < m → own_dec (f (2 * i)) (f (2 * i + 1)) = cc i) ∧ ∀ j, j < n → fits .byte (.int (f j)) = true
def own_c7 (va vb vc vd ve : Int32) : Nat → Int32 := fun i => ([va, 257, vb, vc, vd, ve, 256] : List Int32).getD i 0
theorem own_fitb (x : Int32) : fits .byte (.int (x.toInt8.toInt32)) = true := by
  exact fits_nar_byte x
theorem own_declh {x : Int32} (h : ¬ x < (0 : Int32) ∧ ¬ (257 : Int32) < x) : own_dec (own_lo x) (own_hi x) = x := by
  have z : (257 : Int32).toInt = 257 := by decide
  have z0 : (0 : Int32).toInt = 0 := by decide
  rw [Int32.lt_iff_toInt_lt, Int32.lt_iff_toInt_lt] at h
  obtain ⟨m, hm⟩ : ∃ m : Nat, x = Int32.ofNat m ∧ m < 258 := ⟨x.toNatClampNeg, (back32 (by rw [Int32.lt_iff_toInt_lt]; omega)).1.symm, by have q := nat_of (j := x) (by rw [Int32.lt_iff_toInt_lt]; omega); omega⟩
  have key : ∀ m : Fin 258, own_dec (own_lo (Int32.ofNat m)) (own_hi (Int32.ofNat m)) = Int32.ofNat m := by decide +kernel
  rw [hm.1]; exact key ⟨m, hm.2⟩
theorem own_U0 {cc : Nat → Int32} : own_U (fun _ => 0) 0 14 cc := ⟨fun i hi => absurd hi (by omega), fun _ _ => rfl⟩
theorem own_Ustep {f : Nat → Int32} {m n : Nat} {cc : Nat → Int32} {x : Int32} (U : own_U f m n cc) (hx : ¬ x < (0 : Int32) ∧ ¬ (257 : Int32) < x) (hcx : cc m = x) : own_U (own_put f m x) (m + 1) n cc := by
  refine ⟨fun i hi => ?_, fun j hj => ?_⟩
  · by_cases q : i = m
    · subst q
      simp only [own_put, own_upd, if_pos, show ¬ (2 * i = 2 * i + 1) from by omega, if_false]
      rw [hcx]; exact own_declh hx
    · simp only [own_put, own_upd, show ¬ (2 * i = 2 * m + 1) from by omega, show ¬ (2 * i = 2 * m) from by omega, show ¬ (2 * i + 1 = 2 * m + 1) from by omega, show ¬ (2 * i + 1 = 2 * m) from by omega, if_false]
      exact U.1 i (by omega)
  · simp only [own_put, own_upd]
    split
    · exact own_fitb _
    · split
      · exact own_fitb _
      · exact U.2 j hj
theorem own_257 {x : Int32} (h : ¬ x < (0 : Int32) ∧ ¬ (255 : Int32) < x) : ¬ x < (0 : Int32) ∧ ¬ (257 : Int32) < x := by
  have z : (257 : Int32).toInt = 257 := by decide
  have z1 : (255 : Int32).toInt = 255 := by decide
  have z0 : (0 : Int32).toInt = 0 := by decide
  rw [Int32.lt_iff_toInt_lt, Int32.lt_iff_toInt_lt] at *
  omega
theorem own_nar7 {v : Int32} (h : ¬ v < (0 : Int32) ∧ ¬ (257 : Int32) < v) : nar .char v = v := by
  have z : (257 : Int32).toInt = 257 := by decide
  have z0 : (0 : Int32).toInt = 0 := by decide
  rw [Int32.lt_iff_toInt_lt, Int32.lt_iff_toInt_lt] at h
  have q := c_i2c v
  show v.toUInt32.toUInt16.toUInt32.toInt32 = v
  rw [← Int32.toInt_inj]
  omega
theorem own_shl1 {n : Nat} (h : n < 100) : Int32.ofNat n <<< ((1 : Int32) &&& 31) = Int32.ofNat (2 * n) := by
  have key : ∀ m : Fin 100, Int32.ofNat m <<< ((1 : Int32) &&& 31) = Int32.ofNat (2 * m) := by decide +kernel
  exact key ⟨n, h⟩
theorem own_shr1 {n : Nat} (h : n < 100) : Int32.ofNat (2 * n) >>> ((1 : Int32) &&& 31) = Int32.ofNat n := by
  have key : ∀ m : Fin 100, Int32.ofNat (2 * m) >>> ((1 : Int32) &&& 31) = Int32.ofNat m := by decide +kernel
  exact key ⟨n, h⟩
theorem own_or3 {a b d : Nat} (ha : a < 8) (hb : b < 8) (hd : d < 8) : ¬ ((Int32.ofNat a ||| Int32.ofNat b) ||| Int32.ofNat d) < (0 : Int32) := by
  have key : ∀ a b d : Fin 8, ¬ ((Int32.ofNat a ||| Int32.ofNat b) ||| Int32.ofNat d) < (0 : Int32) := by decide +kernel
  exact key ⟨a, ha⟩ ⟨b, hb⟩ ⟨d, hd⟩
theorem own_ltc {n : Nat} {k : Int32} (hn : n < 1000) (hk : 1000 ≤ k.toInt) : Int32.ofNat n < k := by
  rw [Int32.lt_iff_toInt_lt, toInt_of (n := Int32.ofNat n) rfl (by omega)]
  omega
theorem own_decc (x y : Int32) : (own_dec x y).toUInt32.toUInt16.toUInt32.toInt32 = own_dec x y := own_i2cc rfl
theorem own_cod {n len : Nat} (h : len < 8) (h0 : 0 < len) : (n = len → (((Int32.ofNat len - Int32.ofNat n).toUInt32 >>> ((31 : Int32) &&& 31).toUInt32).toInt32).toInt8.toInt32 = (0 : Int32)) ∧ (n = 2 * len → (((Int32.ofNat len - Int32.ofNat n).toUInt32 >>> ((31 : Int32) &&& 31).toUInt32).toInt32).toInt8.toInt32 = (1 : Int32)) := by
  have k1 : ∀ m : Fin 8, (((Int32.ofNat m - Int32.ofNat m).toUInt32 >>> ((31 : Int32) &&& 31).toUInt32).toInt32).toInt8.toInt32 = (0 : Int32) := by decide +kernel
  have k2 : ∀ m : Fin 8, 0 < m.val → (((Int32.ofNat m - Int32.ofNat (2 * m)).toUInt32 >>> ((31 : Int32) &&& 31).toUInt32).toInt32).toInt8.toInt32 = (1 : Int32) := by decide +kernel
  refine ⟨fun z => ?_, fun z => ?_⟩ <;> subst z
  · exact k1 ⟨n, h⟩
  · exact k2 ⟨len, h⟩ h0
theorem own_barreq {Z : State} {h : Heap} {a : Addr} {n m : Nat} {f : Nat → Int32} (F : BArr Z h a n f) (q : n = m) : BArr Z h a m f := q ▸ F
theorem d11_0 : decode jdk_52_method_5_code 0 = .ok (.getstatic 44, 3) := by decide +kernel
theorem d11_3 : decode jdk_52_method_5_code 3 = .ok (.ifCond .ne 25, 3) := by decide +kernel
theorem d11_6 : decode jdk_52_method_5_code 6 = .ok (.iload_n 1, 1) := by decide +kernel
theorem d11_7 : decode jdk_52_method_5_code 7 = .ok (.ifCond .lt 11, 3) := by decide +kernel
theorem d11_10 : decode jdk_52_method_5_code 10 = .ok (.iload_n 1, 1) := by decide +kernel
theorem d11_11 : decode jdk_52_method_5_code 11 = .ok (.aload_n 0, 1) := by decide +kernel
theorem d11_12 : decode jdk_52_method_5_code 12 = .ok (.invokestatic 48, 3) := by decide +kernel
theorem d11_15 : decode jdk_52_method_5_code 15 = .ok (.if_icmp .lt 13, 3) := by decide +kernel
theorem d11_18 : decode jdk_52_method_5_code 18 = .ok (.new 52, 3) := by decide +kernel
theorem d11_21 : decode jdk_52_method_5_code 21 = .ok (.dup, 1) := by decide +kernel
theorem d11_22 : decode jdk_52_method_5_code 22 = .ok (.ldc 54, 2) := by decide +kernel
theorem d11_24 : decode jdk_52_method_5_code 24 = .ok (.invokespecial 56, 3) := by decide +kernel
theorem d11_28 : decode jdk_52_method_5_code 28 = .ok (.iload_n 1, 1) := by decide +kernel
theorem d11_29 : decode jdk_52_method_5_code 29 = .ok (.iconst 1, 1) := by decide +kernel
theorem d11_30 : decode jdk_52_method_5_code 30 = .ok (.ishl, 1) := by decide +kernel
theorem d11_31 : decode jdk_52_method_5_code 31 = .ok (.istore_n 1, 1) := by decide +kernel
theorem d11_32 : decode jdk_52_method_5_code 32 = .ok (.aload_n 0, 1) := by decide +kernel
theorem d11_33 : decode jdk_52_method_5_code 33 = .ok (.iload_n 1, 1) := by decide +kernel
theorem d11_34 : decode jdk_52_method_5_code 34 = .ok (.iinc 1 1, 3) := by decide +kernel
theorem d11_37 : decode jdk_52_method_5_code 37 = .ok (.baload, 1) := by decide +kernel
theorem d11_38 : decode jdk_52_method_5_code 38 = .ok (.sipush 255, 3) := by decide +kernel
theorem d11_41 : decode jdk_52_method_5_code 41 = .ok (.iand, 1) := by decide +kernel
theorem d11_42 : decode jdk_52_method_5_code 42 = .ok (.getstatic 59, 3) := by decide +kernel
theorem d11_45 : decode jdk_52_method_5_code 45 = .ok (.ishl, 1) := by decide +kernel
theorem d11_46 : decode jdk_52_method_5_code 46 = .ok (.aload_n 0, 1) := by decide +kernel
theorem d11_47 : decode jdk_52_method_5_code 47 = .ok (.iload_n 1, 1) := by decide +kernel
theorem d11_48 : decode jdk_52_method_5_code 48 = .ok (.baload, 1) := by decide +kernel
theorem d11_49 : decode jdk_52_method_5_code 49 = .ok (.sipush 255, 3) := by decide +kernel
theorem d11_52 : decode jdk_52_method_5_code 52 = .ok (.iand, 1) := by decide +kernel
theorem d11_53 : decode jdk_52_method_5_code 53 = .ok (.getstatic 63, 3) := by decide +kernel
theorem d11_56 : decode jdk_52_method_5_code 56 = .ok (.ishl, 1) := by decide +kernel
theorem d11_57 : decode jdk_52_method_5_code 57 = .ok (.ior, 1) := by decide +kernel
theorem d11_58 : decode jdk_52_method_5_code 58 = .ok (.i2c, 1) := by decide +kernel
theorem d11_59 : decode jdk_52_method_5_code 59 = .ok (.ireturn, 1) := by decide +kernel
theorem pn_11 : plainName "java/lang/StringUTF16" = true := by first | (simp [plainName, overriddenIn]; done) | decide +kernel
theorem ef_11_RI (m : MethodId) (x0 : Addr) (x1 : Int32) : entryFrame m #[(.ref x0), (.int x1)] 2 = mkF m 0 #[.val (.ref x0), .val (.int x1)] [] := by first | (simp [entryFrame, mkF, argsToLocals, Value.category]; done) | rfl
def Q_rmGC (Z : State) (t1 : Addr) (i n : Nat) (f : Nat → Int32) (y : Int32) (h0 : Heap) (n0 : Nat) (v : Option Value) (h : Heap) (L : List Loc) : Prop := v = some (.int y) ∧ Fr n0 L ∧ h = h0
set_option maxRecDepth 65536 in
set_option maxHeartbeats 40000000 in
theorem rmGC (l : Launch) (Z : State) (a0 : Array Value) (hw : ∀ d ∈ tables_1, d.before a0 Z = true) (ws : List Jvm.Cond) (t1 : Addr) (i n : Nat) (f : Nat → Int32) (y : Int32) (h0 : Heap) (n0 : Nat) (Z0 : n0 ≤ h0.size) (OA : Sta Z h0 "java/lang/StringUTF16" "$assertionsDisabled" "Z" (.int (1 : Int32))) (OH : Sta Z h0 "java/lang/StringUTF16" "HI_BYTE_SHIFT" "I" (.int (0 : Int32))) (OL : Sta Z h0 "java/lang/StringUTF16" "LO_BYTE_SHIFT" "I" (.int (8 : Int32))) (A1 : BArr Z h0 t1 n f) (hi : 2 * i + 1 < n) (hn : n < 100) (hy : own_dec (f (2 * i)) (f (2 * i + 1)) = y) :
    MetFree l (⟨"java/lang/StringUTF16", "getChar", "([BI)C"⟩ : MethodName) (head1 (Jvm.Cond.code (⟨"java/lang/StringUTF16", "getChar", "([BI)C"⟩ : MethodName) jdk_52_method_5_code 2 (some .char) :: ws) ({ frames := 0, cells := 0, slots := 0, locals := 0 } : Room)) (fun a U => a = #[(.ref t1), (.int (Int32.ofNat i))] ∧ Z.Warmed39 U.vm ∧ U.heap = h0) (fun _ _ _ _ _ => True) (fun _ U o U' => ∃ v L, o = .returned v ∧ Q_rmGC Z t1 i n f y h0 n0 v U'.heap L ∧ FrameEnd U o U' L ({ frames := 0, cells := 0, slots := 0, locals := 0 } : Room).cells ({ frames := 0, cells := 0, slots := 0, locals := 0 } : Room).slots) := by
  refine own_met (y := (⟨"java/lang/StringUTF16", "getChar", "([BI)C"⟩ : MethodName)) (Q := (Q_rmGC Z t1 i n f y h0 n0)) (plainFor_of_name pn_11) fun p e s m below meth c s₁ X0 hx hby hml hret hlk hown hnm hZ e0 => ?_
  refine own_entry (ef_11_RI m t1 (Int32.ofNat i)) ?_
  obtain ⟨c1, Ar1, hsz1, hat1⟩ := A1
  have hinx : ¬ ((Int32.ofNat (2 * i)) < 0 ∨ c1.slots.size ≤ (Int32.ofNat (2 * i)).toNatClampNeg) := by rw [hsz1]; exact within rfl (by omega) (by omega)
  have hatx : c1.slots[(Int32.ofNat (2 * i)).toNatClampNeg]? = some (.int (f (2 * i))) := by rw [clamp_of rfl (by omega)]; exact hat1 _ (by omega)
  have hiny : ¬ ((Int32.ofNat (2 * i + 1)) < 0 ∨ c1.slots.size ≤ (Int32.ofNat (2 * i + 1)).toNatClampNeg) := by rw [hsz1]; exact within rfl (by omega) (by omega)
  have haty : c1.slots[(Int32.ofNat (2 * i + 1)).toNatClampNeg]? = some (.int (f (2 * i + 1))) := by rw [clamp_of rfl (by omega)]; exact hat1 _ (by omega)
  obtain ⟨T1, X1, e1, st1⟩ := getS2 X0 hx hZ hown (host := "") (Or.inl (own_w hw 43 rfl)) Via.refl e0 OA (g := (mkF m 0 #[.val (.ref t1), .val (.int (Int32.ofNat i))] [])) rfl (hb hby d11_0)
  refine own_to T1 (mkF m 31 #[.val (.ref t1), .val (.int (Int32.ofNat i))] [(.int ((Int32.ofNat i) <<< ((1 : Int32) &&& 31)))]) (fun tq kq => st1 _ (XS.ifYes X1.here hx rfl (pc0 := 3) (pc' := 28) rfl (hb hby d11_3) rfl ((if0 _ _).trans (feq (by decide : ¬ ((1 : Int32) = (0 : Int32)))).2) (by decide) (by decide) (XS.iloadN X1.here hx rfl (hb hby d11_28) rfl (XS.iconst X1.here hx rfl (hb hby d11_29) (XS.ishl X1.here hx rfl (hb hby d11_30) rfl kq))))) ?_
  rw [show ((Int32.ofNat i) <<< ((1 : Int32) &&& 31)) = (Int32.ofNat (2 * i)) from own_shl1 (by omega)]
  refine own_to T1 (mkF m 37 #[.val (.ref t1), .val (.int ((Int32.ofNat (2 * i)) + (1 : Int32)))] [(.int (Int32.ofNat (2 * i))), (.ref t1)]) (fun tq kq => XS.istoreN X1.here hx rfl (hb hby d11_31) rfl (l' := #[.val (.ref t1), .val (.int (Int32.ofNat (2 * i)))]) rfl (XS.aloadN X1.here hx rfl (hb hby d11_32) rfl rfl (XS.iloadN X1.here hx rfl (hb hby d11_33) rfl (XS.iinc X1.here hx rfl (hb hby d11_34) rfl (l' := #[.val (.ref t1), .val (.int ((Int32.ofNat (2 * i)) + (1 : Int32)))]) rfl kq)))) ?_
  rw [show (Int32.ofNat (2 * i) + (1 : Int32)) = Int32.ofNat (2 * i + 1) from own_addn (2 * i) 1 (by omega) (by decide)]
  refine own_to T1 (mkF m 42 #[.val (.ref t1), .val (.int (Int32.ofNat (2 * i + 1)))] [(.int ((f (2 * i)) &&& (255 : Int32)))]) (fun tq kq => X1.baloadBytes hx (j := (Int32.ofNat (2 * i))) (v := (.int (f (2 * i)))) (by rw [e1]; exact Ar1.1) (State.isArrayOf_alike hZ.alike Ar1.2.1) Ar1.2.2 hinx hatx (g := (mkF m 37 #[.val (.ref t1), .val (.int (Int32.ofNat (2 * i + 1)))] [(.int (Int32.ofNat (2 * i))), (.ref t1)])) rfl rfl (hb hby d11_37) _ (XS.sipush X1.here hx rfl (hb hby d11_38) (XS.iand X1.here hx rfl (hb hby d11_41) rfl kq))) ?_
  obtain ⟨T2, X2, e2, st2⟩ := getS2 X1 hx hZ hown (host := "") (Or.inl (own_w hw 44 rfl)) Via.refl e1 OH (g := (mkF m 42 #[.val (.ref t1), .val (.int (Int32.ofNat (2 * i + 1)))] [(.int ((f (2 * i)) &&& (255 : Int32)))])) rfl (hb hby d11_42)
  refine own_to T2 (mkF m 53 #[.val (.ref t1), .val (.int (Int32.ofNat (2 * i + 1)))] [(.int ((f (2 * i + 1)) &&& (255 : Int32))), (.int (((f (2 * i)) &&& (255 : Int32)) <<< ((0 : Int32) &&& 31)))]) (fun tq kq => st2 _ (XS.ishl X2.here hx rfl (hb hby d11_45) rfl (XS.aloadN X2.here hx rfl (hb hby d11_46) rfl rfl (XS.iloadN X2.here hx rfl (hb hby d11_47) rfl (X2.baloadBytes hx (j := (Int32.ofNat (2 * i + 1))) (v := (.int (f (2 * i + 1)))) (by rw [e2]; exact Ar1.1) (State.isArrayOf_alike hZ.alike Ar1.2.1) Ar1.2.2 hiny haty (g := (mkF m 48 #[.val (.ref t1), .val (.int (Int32.ofNat (2 * i + 1)))] [(.int (Int32.ofNat (2 * i + 1))), (.ref t1), (.int (((f (2 * i)) &&& (255 : Int32)) <<< ((0 : Int32) &&& 31)))])) rfl rfl (hb hby d11_48) _ (XS.sipush X2.here hx rfl (hb hby d11_49) (XS.iand X2.here hx rfl (hb hby d11_52) rfl kq))))))) ?_
  obtain ⟨T3, X3, e3, st3⟩ := getS2 X2 hx hZ hown (host := "") (Or.inl (own_w hw 45 rfl)) Via.refl e2 OL (g := (mkF m 53 #[.val (.ref t1), .val (.int (Int32.ofNat (2 * i + 1)))] [(.int ((f (2 * i + 1)) &&& (255 : Int32))), (.int (((f (2 * i)) &&& (255 : Int32)) <<< ((0 : Int32) &&& 31)))])) rfl (hb hby d11_53)
  refine own_to T3 (mkF m 59 #[.val (.ref t1), .val (.int (Int32.ofNat (2 * i + 1)))] [(.int (((((f (2 * i)) &&& (255 : Int32)) <<< ((0 : Int32) &&& 31)) ||| (((f (2 * i + 1)) &&& (255 : Int32)) <<< ((8 : Int32) &&& 31))).toUInt32.toUInt16.toUInt32.toInt32))]) (fun tq kq => st3 _ (XS.ishl X3.here hx rfl (hb hby d11_56) rfl (XS.ior X3.here hx rfl (hb hby d11_57) rfl (XS.i2c X3.here hx rfl (hb hby d11_58) rfl kq)))) ?_
  rw [show (((((f (2 * i)) &&& (255 : Int32)) <<< ((0 : Int32) &&& 31)) ||| (((f (2 * i + 1)) &&& (255 : Int32)) <<< ((8 : Int32) &&& 31))).toUInt32.toUInt16.toUInt32.toInt32) = y from hy]
  exact own_retC X3 hx hret hlk (hb hby d11_59) (by decide) (by decide) (own_i2cc hy) ⟨rfl, (Fr.nil n0), e3⟩
theorem d10_0 : decode jdk_52_method_4_code 0 = .ok (.getstatic 44, 3) := by decide +kernel
theorem d10_3 : decode jdk_52_method_4_code 3 = .ok (.ifCond .ne 25, 3) := by decide +kernel
theorem d10_6 : decode jdk_52_method_4_code 6 = .ok (.iload_n 1, 1) := by decide +kernel
theorem d10_7 : decode jdk_52_method_4_code 7 = .ok (.ifCond .lt 11, 3) := by decide +kernel
theorem d10_10 : decode jdk_52_method_4_code 10 = .ok (.iload_n 1, 1) := by decide +kernel
theorem d10_11 : decode jdk_52_method_4_code 11 = .ok (.aload_n 0, 1) := by decide +kernel
theorem d10_12 : decode jdk_52_method_4_code 12 = .ok (.invokestatic 48, 3) := by decide +kernel
theorem d10_15 : decode jdk_52_method_4_code 15 = .ok (.if_icmp .lt 13, 3) := by decide +kernel
theorem d10_18 : decode jdk_52_method_4_code 18 = .ok (.new 52, 3) := by decide +kernel
theorem d10_21 : decode jdk_52_method_4_code 21 = .ok (.dup, 1) := by decide +kernel
theorem d10_22 : decode jdk_52_method_4_code 22 = .ok (.ldc 54, 2) := by decide +kernel
theorem d10_24 : decode jdk_52_method_4_code 24 = .ok (.invokespecial 56, 3) := by decide +kernel
theorem d10_28 : decode jdk_52_method_4_code 28 = .ok (.iload_n 1, 1) := by decide +kernel
theorem d10_29 : decode jdk_52_method_4_code 29 = .ok (.iconst 1, 1) := by decide +kernel
theorem d10_30 : decode jdk_52_method_4_code 30 = .ok (.ishl, 1) := by decide +kernel
theorem d10_31 : decode jdk_52_method_4_code 31 = .ok (.istore_n 1, 1) := by decide +kernel
theorem d10_32 : decode jdk_52_method_4_code 32 = .ok (.aload_n 0, 1) := by decide +kernel
theorem d10_33 : decode jdk_52_method_4_code 33 = .ok (.iload_n 1, 1) := by decide +kernel
theorem d10_34 : decode jdk_52_method_4_code 34 = .ok (.iinc 1 1, 3) := by decide +kernel
theorem d10_37 : decode jdk_52_method_4_code 37 = .ok (.iload_n 2, 1) := by decide +kernel
theorem d10_38 : decode jdk_52_method_4_code 38 = .ok (.getstatic 59, 3) := by decide +kernel
theorem d10_41 : decode jdk_52_method_4_code 41 = .ok (.ishr, 1) := by decide +kernel
theorem d10_42 : decode jdk_52_method_4_code 42 = .ok (.i2b, 1) := by decide +kernel
theorem d10_43 : decode jdk_52_method_4_code 43 = .ok (.bastore, 1) := by decide +kernel
theorem d10_44 : decode jdk_52_method_4_code 44 = .ok (.aload_n 0, 1) := by decide +kernel
theorem d10_45 : decode jdk_52_method_4_code 45 = .ok (.iload_n 1, 1) := by decide +kernel
theorem d10_46 : decode jdk_52_method_4_code 46 = .ok (.iload_n 2, 1) := by decide +kernel
theorem d10_47 : decode jdk_52_method_4_code 47 = .ok (.getstatic 63, 3) := by decide +kernel
theorem d10_50 : decode jdk_52_method_4_code 50 = .ok (.ishr, 1) := by decide +kernel
theorem d10_51 : decode jdk_52_method_4_code 51 = .ok (.i2b, 1) := by decide +kernel
theorem d10_52 : decode jdk_52_method_4_code 52 = .ok (.bastore, 1) := by decide +kernel
theorem d10_53 : decode jdk_52_method_4_code 53 = .ok (.return_, 1) := by decide +kernel
theorem ef_10_RII (m : MethodId) (x0 : Addr) (x1 : Int32) (x2 : Int32) : entryFrame m #[(.ref x0), (.int x1), (.int x2)] 3 = mkF m 0 #[.val (.ref x0), .val (.int x1), .val (.int x2)] [] := by first | (simp [entryFrame, mkF, argsToLocals, Value.category]; done) | rfl
def Q_rmPut (Z : State) (t1 : Addr) (i n : Nat) (f : Nat → Int32) (x : Int32) (h0 : Heap) (n0 : Nat) (v : Option Value) (h : Heap) (L : List Loc) : Prop := v = none ∧ Fr n0 L ∧ Keep h0 h [t1] ∧ BArr Z h t1 n (own_put f i x)
set_option maxRecDepth 65536 in
set_option maxHeartbeats 40000000 in
theorem rmPut (l : Launch) (Z : State) (a0 : Array Value) (hw : ∀ d ∈ tables_1, d.before a0 Z = true) (ws : List Jvm.Cond) (t1 : Addr) (i n : Nat) (f : Nat → Int32) (x : Int32) (h0 : Heap) (n0 : Nat) (Z0 : n0 ≤ h0.size) (OA : Sta Z h0 "java/lang/StringUTF16" "$assertionsDisabled" "Z" (.int (1 : Int32))) (OH : Sta Z h0 "java/lang/StringUTF16" "HI_BYTE_SHIFT" "I" (.int (0 : Int32))) (OL : Sta Z h0 "java/lang/StringUTF16" "LO_BYTE_SHIFT" "I" (.int (8 : Int32))) (A1 : BArr Z h0 t1 n f) (hi : 2 * i + 1 < n) (hn : n < 100) (g_t1 : n0 ≤ t1) :
    MetFree l (⟨"java/lang/StringUTF16", "putChar", "([BII)V"⟩ : MethodName) (head1 (Jvm.Cond.code (⟨"java/lang/StringUTF16", "putChar", "([BII)V"⟩ : MethodName) jdk_52_method_4_code 3 none :: ws) ({ frames := 0, cells := 0, slots := 0, locals := 0 } : Room)) (fun a U => a = #[(.ref t1), (.int (Int32.ofNat i)), (.int x)] ∧ Z.Warmed39 U.vm ∧ U.heap = h0) (fun _ _ _ _ _ => True) (fun _ U o U' => ∃ v L, o = .returned v ∧ Q_rmPut Z t1 i n f x h0 n0 v U'.heap L ∧ FrameEnd U o U' L ({ frames := 0, cells := 0, slots := 0, locals := 0 } : Room).cells ({ frames := 0, cells := 0, slots := 0, locals := 0 } : Room).slots) := by
  refine own_met (y := (⟨"java/lang/StringUTF16", "putChar", "([BII)V"⟩ : MethodName)) (Q := (Q_rmPut Z t1 i n f x h0 n0)) (plainFor_of_name pn_11) fun p e s m below meth c s₁ X0 hx hby hml hret hlk hown hnm hZ e0 => ?_
  refine own_entry (ef_10_RII m t1 (Int32.ofNat i) x) ?_
  have K0 := Keep.refl h0 [t1]
  obtain ⟨T1, X1, e1, st1⟩ := getS2 X0 hx hZ hown (host := "") (Or.inl (own_w hw 43 rfl)) Via.refl e0 OA (g := (mkF m 0 #[.val (.ref t1), .val (.int (Int32.ofNat i)), .val (.int x)] [])) rfl (hb hby d10_0)
  refine own_to T1 (mkF m 31 #[.val (.ref t1), .val (.int (Int32.ofNat i)), .val (.int x)] [(.int ((Int32.ofNat i) <<< ((1 : Int32) &&& 31)))]) (fun tq kq => st1 _ (XS.ifYes X1.here hx rfl (pc0 := 3) (pc' := 28) rfl (hb hby d10_3) rfl ((if0 _ _).trans (feq (by decide : ¬ ((1 : Int32) = (0 : Int32)))).2) (by decide) (by decide) (XS.iloadN X1.here hx rfl (hb hby d10_28) rfl (XS.iconst X1.here hx rfl (hb hby d10_29) (XS.ishl X1.here hx rfl (hb hby d10_30) rfl kq))))) ?_
  rw [show ((Int32.ofNat i) <<< ((1 : Int32) &&& 31)) = (Int32.ofNat (2 * i)) from own_shl1 (by omega)]
  refine own_to T1 (mkF m 37 #[.val (.ref t1), .val (.int ((Int32.ofNat (2 * i)) + (1 : Int32))), .val (.int x)] [(.int (Int32.ofNat (2 * i))), (.ref t1)]) (fun tq kq => XS.istoreN X1.here hx rfl (hb hby d10_31) rfl (l' := #[.val (.ref t1), .val (.int (Int32.ofNat (2 * i))), .val (.int x)]) rfl (XS.aloadN X1.here hx rfl (hb hby d10_32) rfl rfl (XS.iloadN X1.here hx rfl (hb hby d10_33) rfl (XS.iinc X1.here hx rfl (hb hby d10_34) rfl (l' := #[.val (.ref t1), .val (.int ((Int32.ofNat (2 * i)) + (1 : Int32))), .val (.int x)]) rfl kq)))) ?_
  rw [show (Int32.ofNat (2 * i) + (1 : Int32)) = Int32.ofNat (2 * i + 1) from own_addn (2 * i) 1 (by omega) (by decide)]
  refine own_to T1 (mkF m 38 #[.val (.ref t1), .val (.int (Int32.ofNat (2 * i + 1))), .val (.int x)] [(.int x), (.int (Int32.ofNat (2 * i))), (.ref t1)]) (fun tq kq => XS.iloadN X1.here hx rfl (hb hby d10_37) rfl kq) ?_
  obtain ⟨T2, X2, e2, st2⟩ := getS2 X1 hx hZ hown (host := "") (Or.inl (own_w hw 44 rfl)) Via.refl e1 OH (g := (mkF m 38 #[.val (.ref t1), .val (.int (Int32.ofNat (2 * i + 1))), .val (.int x)] [(.int x), (.int (Int32.ofNat (2 * i))), (.ref t1)])) rfl (hb hby d10_38)
  refine own_to T2 (mkF m 43 #[.val (.ref t1), .val (.int (Int32.ofNat (2 * i + 1))), .val (.int x)] [(.int ((x >>> ((0 : Int32) &&& 31)).toInt8.toInt32)), (.int (Int32.ofNat (2 * i))), (.ref t1)]) (fun tq kq => st2 _ (XS.ishr X2.here hx rfl (hb hby d10_41) rfl (XS.i2b X2.here hx rfl (hb hby d10_42) rfl kq))) ?_
  obtain ⟨co4, Aro4, hszo4, hato4⟩ := id A1
  obtain ⟨T3, h3, X3, e3, W3, st3⟩ := stB X2 hx hZ e2 Aro4 (j := (Int32.ofNat (2 * i))) (by rw [hszo4]; exact within rfl (by omega) (by omega)) (g := (mkF m 43 #[.val (.ref t1), .val (.int (Int32.ofNat (2 * i + 1))), .val (.int x)] [(.int ((x >>> ((0 : Int32) &&& 31)).toInt8.toInt32)), (.int (Int32.ofNat (2 * i))), (.ref t1)])) rfl rfl (hb hby d10_43)
  have f5 := OA.wr W3
  have f6 := OH.wr W3
  have f7 := OL.wr W3
  have N3 := Fr.snoc X3 (Fr.nil n0) g_t1
  have Zs3 : n0 ≤ h3.size := by rw [W3.size]; exact Z0
  have K3 := K0.wr W3 (Or.inl (List.mem_of_getElem? (i := 0) rfl))
  have V3 := BArr.set Aro4 hszo4 hato4 W3 (i := 2 * i) (clamp_of rfl (by omega))
  refine own_to T3 (mkF m 47 #[.val (.ref t1), .val (.int (Int32.ofNat (2 * i + 1))), .val (.int x)] [(.int x), (.int (Int32.ofNat (2 * i + 1))), (.ref t1)]) (fun tq kq => st3 _ (XS.aloadN X3.here hx rfl (hb hby d10_44) rfl rfl (XS.iloadN X3.here hx rfl (hb hby d10_45) rfl (XS.iloadN X3.here hx rfl (hb hby d10_46) rfl kq)))) ?_
  obtain ⟨T8, X8, e8, st8⟩ := getS2 X3 hx hZ hown (host := "") (Or.inl (own_w hw 45 rfl)) Via.refl e3 f7 (g := (mkF m 47 #[.val (.ref t1), .val (.int (Int32.ofNat (2 * i + 1))), .val (.int x)] [(.int x), (.int (Int32.ofNat (2 * i + 1))), (.ref t1)])) rfl (hb hby d10_47)
  refine own_to T8 (mkF m 52 #[.val (.ref t1), .val (.int (Int32.ofNat (2 * i + 1))), .val (.int x)] [(.int ((x >>> ((8 : Int32) &&& 31)).toInt8.toInt32)), (.int (Int32.ofNat (2 * i + 1))), (.ref t1)]) (fun tq kq => st8 _ (XS.ishr X8.here hx rfl (hb hby d10_50) rfl (XS.i2b X8.here hx rfl (hb hby d10_51) rfl kq))) ?_
  obtain ⟨co10, Aro10, hszo10, hato10⟩ := id V3
  obtain ⟨T9, h9, X9, e9, W9, st9⟩ := stB X8 hx hZ e8 Aro10 (j := (Int32.ofNat (2 * i + 1))) (by rw [hszo10]; exact within rfl (by omega) (by omega)) (g := (mkF m 52 #[.val (.ref t1), .val (.int (Int32.ofNat (2 * i + 1))), .val (.int x)] [(.int ((x >>> ((8 : Int32) &&& 31)).toInt8.toInt32)), (.int (Int32.ofNat (2 * i + 1))), (.ref t1)])) rfl rfl (hb hby d10_52)
  have f11 := f5.wr W9
  have f12 := f6.wr W9
  have f13 := f7.wr W9
  have N9 := Fr.snoc X9 N3 g_t1
  have Zs9 : n0 ≤ h9.size := by rw [W9.size]; exact Zs3
  have K9 := K3.wr W9 (Or.inl (List.mem_of_getElem? (i := 0) rfl))
  have V9 := BArr.set Aro10 hszo10 hato10 W9 (i := 2 * i + 1) (clamp_of rfl (by omega))
  refine own_to T9 (mkF m 53 #[.val (.ref t1), .val (.int (Int32.ofNat (2 * i + 1))), .val (.int x)] []) (fun tq kq => st9 _ kq) ?_
  exact own_retV X9 hx hret hlk (hb hby d10_53) (by decide) (by decide) (by rw [e9]; exact ⟨rfl, N9, K9, V9⟩)
theorem d9_0 : decode jdk_52_method_3_code 0 = .ok (.iload_n 0, 1) := by decide +kernel
theorem d9_1 : decode jdk_52_method_3_code 1 = .ok (.ifCond .ge 11, 3) := by decide +kernel
theorem d9_4 : decode jdk_52_method_3_code 4 = .ok (.new 17, 3) := by decide +kernel
theorem d9_7 : decode jdk_52_method_3_code 7 = .ok (.dup, 1) := by decide +kernel
theorem d9_8 : decode jdk_52_method_3_code 8 = .ok (.invokespecial 19, 3) := by decide +kernel
theorem d9_12 : decode jdk_52_method_3_code 12 = .ok (.iload_n 0, 1) := by decide +kernel
theorem d9_13 : decode jdk_52_method_3_code 13 = .ok (.ldc 20, 2) := by decide +kernel
theorem d9_15 : decode jdk_52_method_3_code 15 = .ok (.if_icmp .lt 40, 3) := by decide +kernel
theorem d9_18 : decode jdk_52_method_3_code 18 = .ok (.new 21, 3) := by decide +kernel
theorem d9_21 : decode jdk_52_method_3_code 21 = .ok (.dup, 1) := by decide +kernel
theorem d9_22 : decode jdk_52_method_3_code 22 = .ok (.new 23, 3) := by decide +kernel
theorem d9_25 : decode jdk_52_method_3_code 25 = .ok (.dup, 1) := by decide +kernel
theorem d9_26 : decode jdk_52_method_3_code 26 = .ok (.invokespecial 25, 3) := by decide +kernel
theorem d9_29 : decode jdk_52_method_3_code 29 = .ok (.ldc 26, 2) := by decide +kernel
theorem d9_31 : decode jdk_52_method_3_code 31 = .ok (.invokevirtual 28, 3) := by decide +kernel
theorem d9_34 : decode jdk_52_method_3_code 34 = .ok (.iload_n 0, 1) := by decide +kernel
theorem d9_35 : decode jdk_52_method_3_code 35 = .ok (.invokevirtual 32, 3) := by decide +kernel
theorem d9_38 : decode jdk_52_method_3_code 38 = .ok (.ldc 35, 2) := by decide +kernel
theorem d9_40 : decode jdk_52_method_3_code 40 = .ok (.invokevirtual 28, 3) := by decide +kernel
theorem d9_43 : decode jdk_52_method_3_code 43 = .ok (.ldc 20, 2) := by decide +kernel
theorem d9_45 : decode jdk_52_method_3_code 45 = .ok (.invokevirtual 32, 3) := by decide +kernel
theorem d9_48 : decode jdk_52_method_3_code 48 = .ok (.invokevirtual 37, 3) := by decide +kernel
theorem d9_51 : decode jdk_52_method_3_code 51 = .ok (.invokespecial 41, 3) := by decide +kernel
theorem d9_55 : decode jdk_52_method_3_code 55 = .ok (.iload_n 0, 1) := by decide +kernel
theorem d9_56 : decode jdk_52_method_3_code 56 = .ok (.iconst 1, 1) := by decide +kernel
theorem d9_57 : decode jdk_52_method_3_code 57 = .ok (.ishl, 1) := by decide +kernel
theorem d9_58 : decode jdk_52_method_3_code 58 = .ok (.ireturn, 1) := by decide +kernel
theorem ef_9_I (m : MethodId) (x0 : Int32) : entryFrame m #[(.int x0)] 1 = mkF m 0 #[.val (.int x0)] [] := by first | (simp [entryFrame, mkF, argsToLocals, Value.category]; done) | rfl
def Q_rmNBL (Z : State) (n : Nat) (h0 : Heap) (n0 : Nat) (v : Option Value) (h : Heap) (L : List Loc) : Prop := v = some (.int (Int32.ofNat (2 * n))) ∧ Fr n0 L ∧ h = h0
set_option maxRecDepth 65536 in
set_option maxHeartbeats 40000000 in
theorem rmNBL (l : Launch) (Z : State) (a0 : Array Value) (hw : ∀ d ∈ tables_1, d.before a0 Z = true) (ws : List Jvm.Cond) (n : Nat) (h0 : Heap) (n0 : Nat) (Z0 : n0 ≤ h0.size) (hn : n < 100) :
    MetFree l (⟨"java/lang/StringUTF16", "newBytesLength", "(I)I"⟩ : MethodName) (head1 (Jvm.Cond.code (⟨"java/lang/StringUTF16", "newBytesLength", "(I)I"⟩ : MethodName) jdk_52_method_3_code 1 (some .int) :: ws) ({ frames := 0, cells := 0, slots := 0, locals := 0 } : Room)) (fun a U => a = #[(.int (Int32.ofNat n))] ∧ Z.Warmed39 U.vm ∧ U.heap = h0) (fun _ _ _ _ _ => True) (fun _ U o U' => ∃ v L, o = .returned v ∧ Q_rmNBL Z n h0 n0 v U'.heap L ∧ FrameEnd U o U' L ({ frames := 0, cells := 0, slots := 0, locals := 0 } : Room).cells ({ frames := 0, cells := 0, slots := 0, locals := 0 } : Room).slots) := by
  refine own_met (y := (⟨"java/lang/StringUTF16", "newBytesLength", "(I)I"⟩ : MethodName)) (Q := (Q_rmNBL Z n h0 n0)) (plainFor_of_name pn_11) fun p e s m below meth c s₁ X0 hx hby hml hret hlk hown hnm hZ e0 => ?_
  refine own_entry (ef_9_I m (Int32.ofNat n)) ?_
  refine own_to s₁ (mkF m 58 #[.val (.int (Int32.ofNat n))] [(.int ((Int32.ofNat n) <<< ((1 : Int32) &&& 31)))]) (fun tq kq => XS.iloadN X0.here hx rfl (hb hby d9_0) rfl (XS.ifYes X0.here hx rfl (pc0 := 1) (pc' := 12) rfl (hb hby d9_1) rfl ((if0 _ _).trans (flt (own_nonneg (by omega))).2.1) (by decide) (by decide) (XS.iloadN X0.here hx rfl (hb hby d9_12) rfl (X0.ldcInt hx hown (mvT hZ (own_w hw 39 rfl)) (g := (mkF m 13 #[.val (.int (Int32.ofNat n))] [(.int (Int32.ofNat n))])) rfl (hb hby d9_13) _ (XS.icmpYes X0.here hx rfl (pc0 := 15) (pc' := 55) rfl (hb hby d9_15) rfl (tlt (own_ltc (by omega) (by decide))).1 (by decide) (by decide) (XS.iloadN X0.here hx rfl (hb hby d9_55) rfl (XS.iconst X0.here hx rfl (hb hby d9_56) (XS.ishl X0.here hx rfl (hb hby d9_57) rfl kq)))))))) ?_
  rw [show ((Int32.ofNat n) <<< ((1 : Int32) &&& 31)) = (Int32.ofNat (2 * n)) from own_shl1 (by omega)]
  exact own_retI X0 hx hret hlk (hb hby d9_58) (by decide) (by decide) ⟨rfl, (Fr.nil n0), e0⟩
theorem d8_0 : decode jdk_52_method_2_code 0 = .ok (.iload_n 0, 1) := by decide +kernel
theorem d8_1 : decode jdk_52_method_2_code 1 = .ok (.invokestatic 11, 3) := by decide +kernel
theorem d8_4 : decode jdk_52_method_2_code 4 = .ok (.newarray .byte, 2) := by decide +kernel
theorem d8_6 : decode jdk_52_method_2_code 6 = .ok (.areturn, 1) := by decide +kernel
theorem ef_8_I (m : MethodId) (x0 : Int32) : entryFrame m #[(.int x0)] 1 = mkF m 0 #[.val (.int x0)] [] := by first | (simp [entryFrame, mkF, argsToLocals, Value.category]; done) | rfl
def Q_rmNBF (Z : State) (u : Unit) (h0 : Heap) (n0 : Nat) (v : Option Value) (h : Heap) (L : List Loc) : Prop := ∃ b, v = some (.ref b) ∧ Fr n0 L ∧ Keep h0 h [] ∧ h0.size ≤ b ∧ n0 ≤ b ∧ BArr Z h b 14 (fun _ => 0)
theorem pd_7 : parseMethodDescriptor "(I)I" = some ⟨[.int], some .int⟩ := by decide +kernel
set_option maxRecDepth 65536 in
set_option maxHeartbeats 40000000 in
theorem rmNBF (l : Launch) (Z : State) (a0 : Array Value) (hw : ∀ d ∈ tables_1, d.before a0 Z = true) (ws : List Jvm.Cond) (u : Unit) (h0 : Heap) (n0 : Nat) (Z0 : n0 ≤ h0.size)  :
    MetFree l (⟨"java/lang/StringUTF16", "newBytesFor", "(I)[B"⟩ : MethodName) (head1 (Jvm.Cond.code (⟨"java/lang/StringUTF16", "newBytesFor", "(I)[B"⟩ : MethodName) jdk_52_method_2_code 1 (some (.array .byte)) :: ws) ({ frames := 1, cells := 1, slots := 14, locals := 12 } : Room)) (fun a U => a = #[(.int (7 : Int32))] ∧ Z.Warmed39 U.vm ∧ U.heap = h0) (fun _ _ _ _ _ => True) (fun _ U o U' => ∃ v L, o = .returned v ∧ Q_rmNBF Z u h0 n0 v U'.heap L ∧ FrameEnd U o U' L ({ frames := 1, cells := 1, slots := 14, locals := 12 } : Room).cells ({ frames := 1, cells := 1, slots := 14, locals := 12 } : Room).slots) := by
  refine own_met (y := (⟨"java/lang/StringUTF16", "newBytesFor", "(I)[B"⟩ : MethodName)) (Q := (Q_rmNBF Z u h0 n0)) (plainFor_of_name pn_11) fun p e s m below meth c s₁ X0 hx hby hml hret hlk hown hnm hZ e0 => ?_
  refine own_entry (ef_8_I m (7 : Int32)) ?_
  have K0 := Keep.refl h0 []
  refine own_to s₁ (mkF m 1 #[.val (.int (7 : Int32))] [(.int (7 : Int32))]) (fun tq kq => XS.iloadN X0.here hx rfl (hb hby d8_0) rfl kq) ?_
  obtain ⟨_, _, ⟨T1, L1, k1, n1⟩, -, X1, ⟨Lc1, hQ1, l1, y1, z1⟩, st1⟩ := Jvm.LawKit.callS X0 hx (y := (⟨"java/lang/StringUTF16", "newBytesLength", "(I)I"⟩ : MethodName)) hown (mvT hZ (own_w hw 36 rfl)) (mvT hZ (own_w hw 37 rfl)) (mvT hZ (own_w hw 24 rfl)) (mvT hZ (own_w hw 38 rfl)) (by decide) (backOf (W := 0) (rmNBL l Z a0 hw [] 7 h0 n0 Z0 (by decide)) hZ (own_w hw 38 rfl) (own_w hw 24 rfl) (by decide) (by decide)) (g := (mkF m 1 #[.val (.int (7 : Int32))] [(.int (7 : Int32))])) rfl (by rw [hml]; rfl) (argsL := [(.int (7 : Int32))]) (rest := []) (lenOf pd_7 rfl) rfl (by show 2 * 0 + _ ≤ _; exact Nat.le_of_eq rfl) (hb hby d8_1) (fun _ _ => ⟨rfl, e0, (by decide : 0 + 0 ≤ _), (by decide : 0 + 0 ≤ _)⟩)
  dsimp only [Pt.U, Pt.locs, Pt.cells, Pt.slots] at X1 l1 y1 z1 st1 hQ1
  have l1y := l1.symm
  clear l1
  subst l1y
  obtain rfl : k1 = 0 := y1
  obtain rfl : n1 = 0 := z1
  obtain ⟨rfl, N1q, e1⟩ := hQ1
  have N1 := Fr.app (Fr.nil n0) N1q
  refine own_to T1 (mkF m 4 #[.val (.int (7 : Int32))] [(.int (Int32.ofNat 14))]) (fun tq kq => st1 _ kq) ?_
  obtain ⟨T2, h2, k2, X2, e2, E2, A2, st2⟩ := newP X1 hx hZ (own_w hw 26 rfl) e1 (g := (mkF m 4 #[.val (.int (7 : Int32))] [(.int (Int32.ofNat 14))])) rfl (hb hby d8_4) rfl (own_nonneg (by omega)) (cap := 14) (by decide) (by decide) (by decide) (by decide)
  obtain ⟨b2, g2⟩ : ∃ z, z = h0.size := ⟨_, rfl⟩
  rw [← g2] at A2 st2
  have sz2 : n0 ≤ b2 := Nat.le_trans Z0 (Nat.le_of_eq g2.symm)
  have hs2 : h0.size ≤ b2 := Nat.le_trans K0.1 (Nat.le_of_eq g2.symm)
  have Zs2 : n0 ≤ h2.size := Nat.le_trans Z0 E2.1
  have K2 := K0.ext E2
  have V2 : BArr Z h2 b2 14 (fun _ => 0) := BArr.new A2 (by decide)
  refine own_to T2 (mkF m 6 #[.val (.int (7 : Int32))] [(.ref b2)]) (fun tq kq => st2 _ kq) ?_
  exact own_retA X2 hx hret hlk rfl rfl (hb hby d8_6) (by decide) (by decide) (by rw [e2]; exact ⟨b2, rfl, N1, K2, hs2, sz2, V2⟩)
theorem d7_0 : decode jdk_52_method_14_code 0 = .ok (.iload_n 2, 1) := by decide +kernel
theorem d7_1 : decode jdk_52_method_14_code 1 = .ok (.invokestatic 107, 3) := by decide +kernel
theorem d7_4 : decode jdk_52_method_14_code 4 = .ok (.astore_n 3, 1) := by decide +kernel
theorem d7_5 : decode jdk_52_method_14_code 5 = .ok (.iconst 0, 1) := by decide +kernel
theorem d7_6 : decode jdk_52_method_14_code 6 = .ok (.istore 4, 2) := by decide +kernel
theorem d7_8 : decode jdk_52_method_14_code 8 = .ok (.iload 4, 2) := by decide +kernel
theorem d7_10 : decode jdk_52_method_14_code 10 = .ok (.iload_n 2, 1) := by decide +kernel
theorem d7_11 : decode jdk_52_method_14_code 11 = .ok (.if_icmp .ge 21, 3) := by decide +kernel
theorem d7_14 : decode jdk_52_method_14_code 14 = .ok (.aload_n 3, 1) := by decide +kernel
theorem d7_15 : decode jdk_52_method_14_code 15 = .ok (.iload 4, 2) := by decide +kernel
theorem d7_17 : decode jdk_52_method_14_code 17 = .ok (.aload_n 0, 1) := by decide +kernel
theorem d7_18 : decode jdk_52_method_14_code 18 = .ok (.iload_n 1, 1) := by decide +kernel
theorem d7_19 : decode jdk_52_method_14_code 19 = .ok (.caload, 1) := by decide +kernel
theorem d7_20 : decode jdk_52_method_14_code 20 = .ok (.invokestatic 111, 3) := by decide +kernel
theorem d7_23 : decode jdk_52_method_14_code 23 = .ok (.iinc 1 1, 3) := by decide +kernel
theorem d7_26 : decode jdk_52_method_14_code 26 = .ok (.iinc 4 1, 3) := by decide +kernel
theorem d7_29 : decode jdk_52_method_14_code 29 = .ok (.goto (-21), 3) := by decide +kernel
theorem d7_32 : decode jdk_52_method_14_code 32 = .ok (.aload_n 3, 1) := by decide +kernel
theorem d7_33 : decode jdk_52_method_14_code 33 = .ok (.areturn, 1) := by decide +kernel
theorem ef_7_RII (m : MethodId) (x0 : Addr) (x1 : Int32) (x2 : Int32) : entryFrame m #[(.ref x0), (.int x1), (.int x2)] 5 = mkF m 0 #[.val (.ref x0), .val (.int x1), .val (.int x2), .unset, .unset] [] := by first | (simp [entryFrame, mkF, argsToLocals, Value.category]; done) | rfl
def Q_rmToB (Z : State) (a1 : Addr) (kk : ClassId) (va vb vc vd ve : Int32) (h0 : Heap) (n0 : Nat) (v : Option Value) (h : Heap) (L : List Loc) : Prop := ∃ b, v = some (.ref b) ∧ Fr n0 L ∧ Keep h0 h [] ∧ h0.size ≤ b ∧ n0 ≤ b ∧ ∃ ff, BArr Z h b 14 ff ∧ own_U ff 7 14 (own_c7 va vb vc vd ve)
theorem pd_6 : parseMethodDescriptor "(I)[B" = some ⟨[.int], some (.array .byte)⟩ := by decide +kernel
theorem pd_8 : parseMethodDescriptor "([BII)V" = some ⟨[(.array .byte), .int, .int], none⟩ := by decide +kernel
set_option maxRecDepth 65536 in
set_option maxHeartbeats 40000000 in
theorem rmToB (l : Launch) (Z : State) (a0 : Array Value) (hw : ∀ d ∈ tables_1, d.before a0 Z = true) (ws : List Jvm.Cond) (a1 : Addr) (kk : ClassId) (va vb vc vd ve : Int32) (h0 : Heap) (n0 : Nat) (Z0 : n0 ≤ h0.size) (OA : Sta Z h0 "java/lang/StringUTF16" "$assertionsDisabled" "Z" (.int (1 : Int32))) (OH : Sta Z h0 "java/lang/StringUTF16" "HI_BYTE_SHIFT" "I" (.int (0 : Int32))) (OL : Sta Z h0 "java/lang/StringUTF16" "LO_BYTE_SHIFT" "I" (.int (8 : Int32))) (Va1 : Arv Z h0 a1 kk .char (7 : Int32) [(.int va), (.int (257 : Int32)), (.int vb), (.int vc), (.int vd), (.int ve), (.int (256 : Int32))] (.int (0 : Int32))) (hcva : ¬ va < (0 : Int32) ∧ ¬ (255 : Int32) < va) (hcvb : ¬ vb < (0 : Int32) ∧ ¬ (255 : Int32) < vb) (hcvc : ¬ vc < (0 : Int32) ∧ ¬ (255 : Int32) < vc) (hcvd : ¬ vd < (0 : Int32) ∧ ¬ (255 : Int32) < vd) (hcve : ¬ ve < (0 : Int32) ∧ ¬ (255 : Int32) < ve) :
    MetFree l (⟨"java/lang/StringUTF16", "toBytes", "([CII)[B"⟩ : MethodName) (head1 (Jvm.Cond.code (⟨"java/lang/StringUTF16", "toBytes", "([CII)[B"⟩ : MethodName) jdk_52_method_14_code 5 (some (.array .byte)) :: ws) ({ frames := 2, cells := 1, slots := 14, locals := 40 } : Room)) (fun a U => a = #[(.ref a1), (.int (0 : Int32)), (.int (7 : Int32))] ∧ Z.Warmed39 U.vm ∧ U.heap = h0) (fun _ _ _ _ _ => True) (fun _ U o U' => ∃ v L, o = .returned v ∧ Q_rmToB Z a1 kk va vb vc vd ve h0 n0 v U'.heap L ∧ FrameEnd U o U' L ({ frames := 2, cells := 1, slots := 14, locals := 40 } : Room).cells ({ frames := 2, cells := 1, slots := 14, locals := 40 } : Room).slots) := by
  refine own_met (y := (⟨"java/lang/StringUTF16", "toBytes", "([CII)[B"⟩ : MethodName)) (Q := (Q_rmToB Z a1 kk va vb vc vd ve h0 n0)) (plainFor_of_name pn_11) fun p e s m below meth c s₁ X0 hx hby hml hret hlk hown hnm hZ e0 => ?_
  refine own_entry (ef_7_RII m a1 (0 : Int32) (7 : Int32)) ?_
  have K0 := Keep.refl h0 []
  refine own_to s₁ (mkF m 1 #[.val (.ref a1), .val (.int (0 : Int32)), .val (.int (7 : Int32)), .unset, .unset] [(.int (7 : Int32))]) (fun tq kq => XS.iloadN X0.here hx rfl (hb hby d7_0) rfl kq) ?_
  obtain ⟨_, _, ⟨T1, L1, k1, n1⟩, -, X1, ⟨Lc1, hQ1, l1, y1, z1⟩, st1⟩ := Jvm.LawKit.callS X0 hx (y := (⟨"java/lang/StringUTF16", "newBytesFor", "(I)[B"⟩ : MethodName)) hown (mvT hZ (own_w hw 33 rfl)) (mvT hZ (own_w hw 34 rfl)) (mvT hZ (own_w hw 24 rfl)) (mvT hZ (own_w hw 35 rfl)) (by decide) (backOf (W := 0) (rmNBF l Z a0 hw [] () h0 n0 Z0) hZ (own_w hw 35 rfl) (own_w hw 24 rfl) (by decide) (by decide)) (g := (mkF m 1 #[.val (.ref a1), .val (.int (0 : Int32)), .val (.int (7 : Int32)), .unset, .unset] [(.int (7 : Int32))])) rfl (by rw [hml]; rfl) (argsL := [(.int (7 : Int32))]) (rest := []) (lenOf pd_6 rfl) rfl (by show 2 * 0 + _ ≤ _; exact Nat.le_of_eq rfl) (hb hby d7_1) (fun _ _ => ⟨rfl, e0, (by decide : 0 + 1 ≤ _), (by decide : 0 + 14 ≤ _)⟩)
  dsimp only [Pt.U, Pt.locs, Pt.cells, Pt.slots] at X1 l1 y1 z1 st1 hQ1
  have l1y := l1.symm
  clear l1
  subst l1y
  obtain rfl : k1 = 1 := y1
  obtain rfl : n1 = 14 := z1
  obtain ⟨b1, rfl, N1q, K1q, hsr1, gb1, V1q⟩ := hQ1
  have N1 := Fr.app (Fr.nil n0) N1q
  have hs1 : h0.size ≤ b1 := Nat.le_trans K0.1 hsr1
  have ne_a1_b1 : own_ne a1 b1 := Nat.ne_of_lt (Nat.lt_of_lt_of_le Va1.lt hsr1)
  have f2 := own_staK OA K1q
  have f3 := own_staK OH K1q
  have f4 := own_staK OL K1q
  have f5 := Va1.keep K1q nin0
  have Zs1 : n0 ≤ T1.heap.size := Nat.le_trans Z0 K1q.1
  have KK1 := K0.trans K1q all0
  have U0 := own_U0 (cc := (own_c7 va vb vc vd ve))
  refine own_to T1 (mkF m 18 #[.val (.ref a1), .val (.int (0 : Int32)), .val (.int (7 : Int32)), .val (.ref b1), .val (.int (0 : Int32))] [(.ref a1), (.int (0 : Int32)), (.ref b1)]) (fun tq kq => st1 _ (XS.astoreN X1.here hx rfl (hb hby d7_4) rfl rfl (l' := #[.val (.ref a1), .val (.int (0 : Int32)), .val (.int (7 : Int32)), .val (.ref b1), .unset]) rfl (XS.iconst X1.here hx rfl (hb hby d7_5) (XS.istore X1.here hx rfl (hb hby d7_6) rfl (l' := #[.val (.ref a1), .val (.int (0 : Int32)), .val (.int (7 : Int32)), .val (.ref b1), .val (.int (0 : Int32))]) rfl (XS.iload X1.here hx rfl (hb hby d7_8) rfl (XS.iloadN X1.here hx rfl (hb hby d7_10) rfl (XS.icmpNo X1.here hx rfl (hb hby d7_11) rfl (tlt (by decide : (0 : Int32) < (7 : Int32))).2.1 (XS.aloadN X1.here hx rfl (hb hby d7_14) rfl rfl (XS.iload X1.here hx rfl (hb hby d7_15) rfl (XS.aloadN X1.here hx rfl (hb hby d7_17) rfl rfl kq)))))))))) ?_
  refine own_to T1 (mkF m 19 #[.val (.ref a1), .val (.int (0 : Int32)), .val (.int (7 : Int32)), .val (.ref b1), .val (.int (0 : Int32))] [(.int (0 : Int32)), (.ref a1), (.int (0 : Int32)), (.ref b1)]) (fun tq kq => XS.iloadN X1.here hx rfl (hb hby d7_18) rfl kq) ?_
  obtain ⟨co6, Aro6, qo6, So6, Mo6, Ho6, Uo6⟩ := id f5
  refine own_to T1 (mkF m 20 #[.val (.ref a1), .val (.int (0 : Int32)), .val (.int (7 : Int32)), .val (.ref b1), .val (.int (0 : Int32))] [(.int va), (.int (0 : Int32)), (.ref b1)]) (fun tq kq => X1.caload hx (j := (0 : Int32)) (v := (.int va)) Aro6.1 (State.isArrayOf_alike hZ.alike Aro6.2.1) Aro6.2.2 (inb_of So6 ⟨by decide, by decide⟩) (Ho6 0 (by rw [So6]; decide)) (g := (mkF m 19 #[.val (.ref a1), .val (.int (0 : Int32)), .val (.int (7 : Int32)), .val (.ref b1), .val (.int (0 : Int32))] [(.int (0 : Int32)), (.ref a1), (.int (0 : Int32)), (.ref b1)])) rfl rfl (hb hby d7_19) _ kq) ?_
  obtain ⟨_, _, ⟨T7, L7, k7, n7⟩, -, X7, ⟨Lc7, hQ7, l7, y7, z7⟩, st7⟩ := Jvm.LawKit.callS X1 hx (y := (⟨"java/lang/StringUTF16", "putChar", "([BII)V"⟩ : MethodName)) hown (mvT hZ (own_w hw 40 rfl)) (mvT hZ (own_w hw 41 rfl)) (mvT hZ (own_w hw 24 rfl)) (mvT hZ (own_w hw 42 rfl)) (by decide) (backOf (W := 0) (rmPut l Z a0 hw [] b1 0 14 (fun _ => 0) va T1.heap n0 Zs1 f2 f3 f4 V1q (by decide) (by decide) gb1) hZ (own_w hw 42 rfl) (own_w hw 24 rfl) (by decide) (by decide)) (g := (mkF m 20 #[.val (.ref a1), .val (.int (0 : Int32)), .val (.int (7 : Int32)), .val (.ref b1), .val (.int (0 : Int32))] [(.int va), (.int (0 : Int32)), (.ref b1)])) rfl (by rw [hml]; rfl) (argsL := [(.ref b1), (.int (0 : Int32)), (.int va)]) (rest := []) (lenOf pd_8 rfl) rfl (by show 2 * 0 + _ ≤ _; exact Nat.le_of_eq rfl) (hb hby d7_20) (fun _ _ => ⟨rfl, rfl, (by decide : 1 + 0 ≤ _), (by decide : 14 + 0 ≤ _)⟩)
  dsimp only [Pt.U, Pt.locs, Pt.cells, Pt.slots] at X7 l7 y7 z7 st7 hQ7
  have l7y := l7.symm
  clear l7
  subst l7y
  obtain rfl : k7 = 1 := y7
  obtain rfl : n7 = 14 := z7
  obtain ⟨rfl, N7q, K7q, V7q⟩ := hQ7
  have N7 := Fr.app N1 N7q
  have f8 := own_staA f2 K7q (by obtain ⟨c9, A9, -⟩ := V1q; exact ⟨c9, _, A9⟩)
  have f9 := own_staA f3 K7q (by obtain ⟨c9, A9, -⟩ := V1q; exact ⟨c9, _, A9⟩)
  have f10 := own_staA f4 K7q (by obtain ⟨c9, A9, -⟩ := V1q; exact ⟨c9, _, A9⟩)
  have f11 := f5.keep K7q (ninS ne_a1_b1 nin0)
  have Zs7 : n0 ≤ T7.heap.size := Nat.le_trans Zs1 K7q.1
  have KK7 := KK1.trans K7q (allS (Or.inr hs1) all0)
  have Us7 := own_Ustep U0 (x := va) (own_257 hcva) rfl
  obtain ⟨ff7, hff7⟩ : ∃ z, z = own_put (fun _ => 0) 0 va := ⟨_, rfl⟩
  rw [← hff7] at V7q Us7
  clear hff7
  refine own_to T7 (mkF m 29 #[.val (.ref a1), .val (.int ((0 : Int32) + (1 : Int32))), .val (.int (7 : Int32)), .val (.ref b1), .val (.int ((0 : Int32) + (1 : Int32)))] []) (fun tq kq => st7 _ (XS.iinc X7.here hx rfl (hb hby d7_23) rfl (l' := #[.val (.ref a1), .val (.int ((0 : Int32) + (1 : Int32))), .val (.int (7 : Int32)), .val (.ref b1), .val (.int (0 : Int32))]) rfl (XS.iinc X7.here hx rfl (hb hby d7_26) rfl (l' := #[.val (.ref a1), .val (.int ((0 : Int32) + (1 : Int32))), .val (.int (7 : Int32)), .val (.ref b1), .val (.int ((0 : Int32) + (1 : Int32)))]) rfl kq))) ?_
  rw [show ((0 : Int32) + (1 : Int32)) = (1 : Int32) from by decide]
  refine own_to T7 (mkF m 19 #[.val (.ref a1), .val (.int (1 : Int32)), .val (.int (7 : Int32)), .val (.ref b1), .val (.int (1 : Int32))] [(.int (1 : Int32)), (.ref a1), (.int (1 : Int32)), (.ref b1)]) (fun tq kq => XS.goto X7.here hx rfl (pc0 := 29) (pc' := 8) rfl (hb hby d7_29) (by decide) (by decide) (XS.iload X7.here hx rfl (hb hby d7_8) rfl (XS.iloadN X7.here hx rfl (hb hby d7_10) rfl (XS.icmpNo X7.here hx rfl (hb hby d7_11) rfl (tlt (by decide : (1 : Int32) < (7 : Int32))).2.1 (XS.aloadN X7.here hx rfl (hb hby d7_14) rfl rfl (XS.iload X7.here hx rfl (hb hby d7_15) rfl (XS.aloadN X7.here hx rfl (hb hby d7_17) rfl rfl (XS.iloadN X7.here hx rfl (hb hby d7_18) rfl kq)))))))) ?_
  obtain ⟨co12, Aro12, qo12, So12, Mo12, Ho12, Uo12⟩ := id f11
  refine own_to T7 (mkF m 20 #[.val (.ref a1), .val (.int (1 : Int32)), .val (.int (7 : Int32)), .val (.ref b1), .val (.int (1 : Int32))] [(.int (257 : Int32)), (.int (1 : Int32)), (.ref b1)]) (fun tq kq => X7.caload hx (j := (1 : Int32)) (v := (.int (257 : Int32))) Aro12.1 (State.isArrayOf_alike hZ.alike Aro12.2.1) Aro12.2.2 (inb_of So12 ⟨by decide, by decide⟩) (Ho12 1 (by rw [So12]; decide)) (g := (mkF m 19 #[.val (.ref a1), .val (.int (1 : Int32)), .val (.int (7 : Int32)), .val (.ref b1), .val (.int (1 : Int32))] [(.int (1 : Int32)), (.ref a1), (.int (1 : Int32)), (.ref b1)])) rfl rfl (hb hby d7_19) _ kq) ?_
  obtain ⟨_, _, ⟨T13, L13, k13, n13⟩, -, X13, ⟨Lc13, hQ13, l13, y13, z13⟩, st13⟩ := Jvm.LawKit.callS X7 hx (y := (⟨"java/lang/StringUTF16", "putChar", "([BII)V"⟩ : MethodName)) hown (mvT hZ (own_w hw 40 rfl)) (mvT hZ (own_w hw 41 rfl)) (mvT hZ (own_w hw 24 rfl)) (mvT hZ (own_w hw 42 rfl)) (by decide) (backOf (W := 0) (rmPut l Z a0 hw [] b1 1 14 ff7 (257 : Int32) T7.heap n0 Zs7 f8 f9 f10 V7q (by decide) (by decide) gb1) hZ (own_w hw 42 rfl) (own_w hw 24 rfl) (by decide) (by decide)) (g := (mkF m 20 #[.val (.ref a1), .val (.int (1 : Int32)), .val (.int (7 : Int32)), .val (.ref b1), .val (.int (1 : Int32))] [(.int (257 : Int32)), (.int (1 : Int32)), (.ref b1)])) rfl (by rw [hml]; rfl) (argsL := [(.ref b1), (.int (1 : Int32)), (.int (257 : Int32))]) (rest := []) (lenOf pd_8 rfl) rfl (by show 2 * 0 + _ ≤ _; exact Nat.le_of_eq rfl) (hb hby d7_20) (fun _ _ => ⟨rfl, rfl, (by decide : 1 + 0 ≤ _), (by decide : 14 + 0 ≤ _)⟩)
  dsimp only [Pt.U, Pt.locs, Pt.cells, Pt.slots] at X13 l13 y13 z13 st13 hQ13
  have l13y := l13.symm
  clear l13
  subst l13y
  obtain rfl : k13 = 1 := y13
  obtain rfl : n13 = 14 := z13
  obtain ⟨rfl, N13q, K13q, V13q⟩ := hQ13
  have N13 := Fr.app N7 N13q
  have f14 := own_staA f8 K13q (by obtain ⟨c9, A9, -⟩ := V7q; exact ⟨c9, _, A9⟩)
  have f15 := own_staA f9 K13q (by obtain ⟨c9, A9, -⟩ := V7q; exact ⟨c9, _, A9⟩)
  have f16 := own_staA f10 K13q (by obtain ⟨c9, A9, -⟩ := V7q; exact ⟨c9, _, A9⟩)
  have f17 := f11.keep K13q (ninS ne_a1_b1 nin0)
  have Zs13 : n0 ≤ T13.heap.size := Nat.le_trans Zs7 K13q.1
  have KK13 := KK7.trans K13q (allS (Or.inr hs1) all0)
  have Us13 := own_Ustep Us7 (x := (257 : Int32)) ⟨by decide, by decide⟩ rfl
  obtain ⟨ff13, hff13⟩ : ∃ z, z = own_put ff7 1 (257 : Int32) := ⟨_, rfl⟩
  rw [← hff13] at V13q Us13
  clear hff13
  refine own_to T13 (mkF m 29 #[.val (.ref a1), .val (.int ((1 : Int32) + (1 : Int32))), .val (.int (7 : Int32)), .val (.ref b1), .val (.int ((1 : Int32) + (1 : Int32)))] []) (fun tq kq => st13 _ (XS.iinc X13.here hx rfl (hb hby d7_23) rfl (l' := #[.val (.ref a1), .val (.int ((1 : Int32) + (1 : Int32))), .val (.int (7 : Int32)), .val (.ref b1), .val (.int (1 : Int32))]) rfl (XS.iinc X13.here hx rfl (hb hby d7_26) rfl (l' := #[.val (.ref a1), .val (.int ((1 : Int32) + (1 : Int32))), .val (.int (7 : Int32)), .val (.ref b1), .val (.int ((1 : Int32) + (1 : Int32)))]) rfl kq))) ?_
  rw [show ((1 : Int32) + (1 : Int32)) = (2 : Int32) from by decide]
  refine own_to T13 (mkF m 19 #[.val (.ref a1), .val (.int (2 : Int32)), .val (.int (7 : Int32)), .val (.ref b1), .val (.int (2 : Int32))] [(.int (2 : Int32)), (.ref a1), (.int (2 : Int32)), (.ref b1)]) (fun tq kq => XS.goto X13.here hx rfl (pc0 := 29) (pc' := 8) rfl (hb hby d7_29) (by decide) (by decide) (XS.iload X13.here hx rfl (hb hby d7_8) rfl (XS.iloadN X13.here hx rfl (hb hby d7_10) rfl (XS.icmpNo X13.here hx rfl (hb hby d7_11) rfl (tlt (by decide : (2 : Int32) < (7 : Int32))).2.1 (XS.aloadN X13.here hx rfl (hb hby d7_14) rfl rfl (XS.iload X13.here hx rfl (hb hby d7_15) rfl (XS.aloadN X13.here hx rfl (hb hby d7_17) rfl rfl (XS.iloadN X13.here hx rfl (hb hby d7_18) rfl kq)))))))) ?_
  obtain ⟨co18, Aro18, qo18, So18, Mo18, Ho18, Uo18⟩ := id f17
  refine own_to T13 (mkF m 20 #[.val (.ref a1), .val (.int (2 : Int32)), .val (.int (7 : Int32)), .val (.ref b1), .val (.int (2 : Int32))] [(.int vb), (.int (2 : Int32)), (.ref b1)]) (fun tq kq => X13.caload hx (j := (2 : Int32)) (v := (.int vb)) Aro18.1 (State.isArrayOf_alike hZ.alike Aro18.2.1) Aro18.2.2 (inb_of So18 ⟨by decide, by decide⟩) (Ho18 2 (by rw [So18]; decide)) (g := (mkF m 19 #[.val (.ref a1), .val (.int (2 : Int32)), .val (.int (7 : Int32)), .val (.ref b1), .val (.int (2 : Int32))] [(.int (2 : Int32)), (.ref a1), (.int (2 : Int32)), (.ref b1)])) rfl rfl (hb hby d7_19) _ kq) ?_
  obtain ⟨_, _, ⟨T19, L19, k19, n19⟩, -, X19, ⟨Lc19, hQ19, l19, y19, z19⟩, st19⟩ := Jvm.LawKit.callS X13 hx (y := (⟨"java/lang/StringUTF16", "putChar", "([BII)V"⟩ : MethodName)) hown (mvT hZ (own_w hw 40 rfl)) (mvT hZ (own_w hw 41 rfl)) (mvT hZ (own_w hw 24 rfl)) (mvT hZ (own_w hw 42 rfl)) (by decide) (backOf (W := 0) (rmPut l Z a0 hw [] b1 2 14 ff13 vb T13.heap n0 Zs13 f14 f15 f16 V13q (by decide) (by decide) gb1) hZ (own_w hw 42 rfl) (own_w hw 24 rfl) (by decide) (by decide)) (g := (mkF m 20 #[.val (.ref a1), .val (.int (2 : Int32)), .val (.int (7 : Int32)), .val (.ref b1), .val (.int (2 : Int32))] [(.int vb), (.int (2 : Int32)), (.ref b1)])) rfl (by rw [hml]; rfl) (argsL := [(.ref b1), (.int (2 : Int32)), (.int vb)]) (rest := []) (lenOf pd_8 rfl) rfl (by show 2 * 0 + _ ≤ _; exact Nat.le_of_eq rfl) (hb hby d7_20) (fun _ _ => ⟨rfl, rfl, (by decide : 1 + 0 ≤ _), (by decide : 14 + 0 ≤ _)⟩)
  dsimp only [Pt.U, Pt.locs, Pt.cells, Pt.slots] at X19 l19 y19 z19 st19 hQ19
  have l19y := l19.symm
  clear l19
  subst l19y
  obtain rfl : k19 = 1 := y19
  obtain rfl : n19 = 14 := z19
  obtain ⟨rfl, N19q, K19q, V19q⟩ := hQ19
  have N19 := Fr.app N13 N19q
  have f20 := own_staA f14 K19q (by obtain ⟨c9, A9, -⟩ := V13q; exact ⟨c9, _, A9⟩)
  have f21 := own_staA f15 K19q (by obtain ⟨c9, A9, -⟩ := V13q; exact ⟨c9, _, A9⟩)
  have f22 := own_staA f16 K19q (by obtain ⟨c9, A9, -⟩ := V13q; exact ⟨c9, _, A9⟩)
  have f23 := f17.keep K19q (ninS ne_a1_b1 nin0)
  have Zs19 : n0 ≤ T19.heap.size := Nat.le_trans Zs13 K19q.1
  have KK19 := KK13.trans K19q (allS (Or.inr hs1) all0)
  have Us19 := own_Ustep Us13 (x := vb) (own_257 hcvb) rfl
  obtain ⟨ff19, hff19⟩ : ∃ z, z = own_put ff13 2 vb := ⟨_, rfl⟩
  rw [← hff19] at V19q Us19
  clear hff19
  refine own_to T19 (mkF m 29 #[.val (.ref a1), .val (.int ((2 : Int32) + (1 : Int32))), .val (.int (7 : Int32)), .val (.ref b1), .val (.int ((2 : Int32) + (1 : Int32)))] []) (fun tq kq => st19 _ (XS.iinc X19.here hx rfl (hb hby d7_23) rfl (l' := #[.val (.ref a1), .val (.int ((2 : Int32) + (1 : Int32))), .val (.int (7 : Int32)), .val (.ref b1), .val (.int (2 : Int32))]) rfl (XS.iinc X19.here hx rfl (hb hby d7_26) rfl (l' := #[.val (.ref a1), .val (.int ((2 : Int32) + (1 : Int32))), .val (.int (7 : Int32)), .val (.ref b1), .val (.int ((2 : Int32) + (1 : Int32)))]) rfl kq))) ?_
  rw [show ((2 : Int32) + (1 : Int32)) = (3 : Int32) from by decide]
  refine own_to T19 (mkF m 19 #[.val (.ref a1), .val (.int (3 : Int32)), .val (.int (7 : Int32)), .val (.ref b1), .val (.int (3 : Int32))] [(.int (3 : Int32)), (.ref a1), (.int (3 : Int32)), (.ref b1)]) (fun tq kq => XS.goto X19.here hx rfl (pc0 := 29) (pc' := 8) rfl (hb hby d7_29) (by decide) (by decide) (XS.iload X19.here hx rfl (hb hby d7_8) rfl (XS.iloadN X19.here hx rfl (hb hby d7_10) rfl (XS.icmpNo X19.here hx rfl (hb hby d7_11) rfl (tlt (by decide : (3 : Int32) < (7 : Int32))).2.1 (XS.aloadN X19.here hx rfl (hb hby d7_14) rfl rfl (XS.iload X19.here hx rfl (hb hby d7_15) rfl (XS.aloadN X19.here hx rfl (hb hby d7_17) rfl rfl (XS.iloadN X19.here hx rfl (hb hby d7_18) rfl kq)))))))) ?_
  obtain ⟨co24, Aro24, qo24, So24, Mo24, Ho24, Uo24⟩ := id f23
  refine own_to T19 (mkF m 20 #[.val (.ref a1), .val (.int (3 : Int32)), .val (.int (7 : Int32)), .val (.ref b1), .val (.int (3 : Int32))] [(.int vc), (.int (3 : Int32)), (.ref b1)]) (fun tq kq => X19.caload hx (j := (3 : Int32)) (v := (.int vc)) Aro24.1 (State.isArrayOf_alike hZ.alike Aro24.2.1) Aro24.2.2 (inb_of So24 ⟨by decide, by decide⟩) (Ho24 3 (by rw [So24]; decide)) (g := (mkF m 19 #[.val (.ref a1), .val (.int (3 : Int32)), .val (.int (7 : Int32)), .val (.ref b1), .val (.int (3 : Int32))] [(.int (3 : Int32)), (.ref a1), (.int (3 : Int32)), (.ref b1)])) rfl rfl (hb hby d7_19) _ kq) ?_
  obtain ⟨_, _, ⟨T25, L25, k25, n25⟩, -, X25, ⟨Lc25, hQ25, l25, y25, z25⟩, st25⟩ := Jvm.LawKit.callS X19 hx (y := (⟨"java/lang/StringUTF16", "putChar", "([BII)V"⟩ : MethodName)) hown (mvT hZ (own_w hw 40 rfl)) (mvT hZ (own_w hw 41 rfl)) (mvT hZ (own_w hw 24 rfl)) (mvT hZ (own_w hw 42 rfl)) (by decide) (backOf (W := 0) (rmPut l Z a0 hw [] b1 3 14 ff19 vc T19.heap n0 Zs19 f20 f21 f22 V19q (by decide) (by decide) gb1) hZ (own_w hw 42 rfl) (own_w hw 24 rfl) (by decide) (by decide)) (g := (mkF m 20 #[.val (.ref a1), .val (.int (3 : Int32)), .val (.int (7 : Int32)), .val (.ref b1), .val (.int (3 : Int32))] [(.int vc), (.int (3 : Int32)), (.ref b1)])) rfl (by rw [hml]; rfl) (argsL := [(.ref b1), (.int (3 : Int32)), (.int vc)]) (rest := []) (lenOf pd_8 rfl) rfl (by show 2 * 0 + _ ≤ _; exact Nat.le_of_eq rfl) (hb hby d7_20) (fun _ _ => ⟨rfl, rfl, (by decide : 1 + 0 ≤ _), (by decide : 14 + 0 ≤ _)⟩)
  dsimp only [Pt.U, Pt.locs, Pt.cells, Pt.slots] at X25 l25 y25 z25 st25 hQ25
  have l25y := l25.symm
  clear l25
  subst l25y
  obtain rfl : k25 = 1 := y25
  obtain rfl : n25 = 14 := z25
  obtain ⟨rfl, N25q, K25q, V25q⟩ := hQ25
  have N25 := Fr.app N19 N25q
  have f26 := own_staA f20 K25q (by obtain ⟨c9, A9, -⟩ := V19q; exact ⟨c9, _, A9⟩)
  have f27 := own_staA f21 K25q (by obtain ⟨c9, A9, -⟩ := V19q; exact ⟨c9, _, A9⟩)
  have f28 := own_staA f22 K25q (by obtain ⟨c9, A9, -⟩ := V19q; exact ⟨c9, _, A9⟩)
  have f29 := f23.keep K25q (ninS ne_a1_b1 nin0)
  have Zs25 : n0 ≤ T25.heap.size := Nat.le_trans Zs19 K25q.1
  have KK25 := KK19.trans K25q (allS (Or.inr hs1) all0)
  have Us25 := own_Ustep Us19 (x := vc) (own_257 hcvc) rfl
  obtain ⟨ff25, hff25⟩ : ∃ z, z = own_put ff19 3 vc := ⟨_, rfl⟩
  rw [← hff25] at V25q Us25
  clear hff25
  refine own_to T25 (mkF m 29 #[.val (.ref a1), .val (.int ((3 : Int32) + (1 : Int32))), .val (.int (7 : Int32)), .val (.ref b1), .val (.int ((3 : Int32) + (1 : Int32)))] []) (fun tq kq => st25 _ (XS.iinc X25.here hx rfl (hb hby d7_23) rfl (l' := #[.val (.ref a1), .val (.int ((3 : Int32) + (1 : Int32))), .val (.int (7 : Int32)), .val (.ref b1), .val (.int (3 : Int32))]) rfl (XS.iinc X25.here hx rfl (hb hby d7_26) rfl (l' := #[.val (.ref a1), .val (.int ((3 : Int32) + (1 : Int32))), .val (.int (7 : Int32)), .val (.ref b1), .val (.int ((3 : Int32) + (1 : Int32)))]) rfl kq))) ?_
  rw [show ((3 : Int32) + (1 : Int32)) = (4 : Int32) from by decide]
  refine own_to T25 (mkF m 19 #[.val (.ref a1), .val (.int (4 : Int32)), .val (.int (7 : Int32)), .val (.ref b1), .val (.int (4 : Int32))] [(.int (4 : Int32)), (.ref a1), (.int (4 : Int32)), (.ref b1)]) (fun tq kq => XS.goto X25.here hx rfl (pc0 := 29) (pc' := 8) rfl (hb hby d7_29) (by decide) (by decide) (XS.iload X25.here hx rfl (hb hby d7_8) rfl (XS.iloadN X25.here hx rfl (hb hby d7_10) rfl (XS.icmpNo X25.here hx rfl (hb hby d7_11) rfl (tlt (by decide : (4 : Int32) < (7 : Int32))).2.1 (XS.aloadN X25.here hx rfl (hb hby d7_14) rfl rfl (XS.iload X25.here hx rfl (hb hby d7_15) rfl (XS.aloadN X25.here hx rfl (hb hby d7_17) rfl rfl (XS.iloadN X25.here hx rfl (hb hby d7_18) rfl kq)))))))) ?_
  obtain ⟨co30, Aro30, qo30, So30, Mo30, Ho30, Uo30⟩ := id f29
  refine own_to T25 (mkF m 20 #[.val (.ref a1), .val (.int (4 : Int32)), .val (.int (7 : Int32)), .val (.ref b1), .val (.int (4 : Int32))] [(.int vd), (.int (4 : Int32)), (.ref b1)]) (fun tq kq => X25.caload hx (j := (4 : Int32)) (v := (.int vd)) Aro30.1 (State.isArrayOf_alike hZ.alike Aro30.2.1) Aro30.2.2 (inb_of So30 ⟨by decide, by decide⟩) (Ho30 4 (by rw [So30]; decide)) (g := (mkF m 19 #[.val (.ref a1), .val (.int (4 : Int32)), .val (.int (7 : Int32)), .val (.ref b1), .val (.int (4 : Int32))] [(.int (4 : Int32)), (.ref a1), (.int (4 : Int32)), (.ref b1)])) rfl rfl (hb hby d7_19) _ kq) ?_
  obtain ⟨_, _, ⟨T31, L31, k31, n31⟩, -, X31, ⟨Lc31, hQ31, l31, y31, z31⟩, st31⟩ := Jvm.LawKit.callS X25 hx (y := (⟨"java/lang/StringUTF16", "putChar", "([BII)V"⟩ : MethodName)) hown (mvT hZ (own_w hw 40 rfl)) (mvT hZ (own_w hw 41 rfl)) (mvT hZ (own_w hw 24 rfl)) (mvT hZ (own_w hw 42 rfl)) (by decide) (backOf (W := 0) (rmPut l Z a0 hw [] b1 4 14 ff25 vd T25.heap n0 Zs25 f26 f27 f28 V25q (by decide) (by decide) gb1) hZ (own_w hw 42 rfl) (own_w hw 24 rfl) (by decide) (by decide)) (g := (mkF m 20 #[.val (.ref a1), .val (.int (4 : Int32)), .val (.int (7 : Int32)), .val (.ref b1), .val (.int (4 : Int32))] [(.int vd), (.int (4 : Int32)), (.ref b1)])) rfl (by rw [hml]; rfl) (argsL := [(.ref b1), (.int (4 : Int32)), (.int vd)]) (rest := []) (lenOf pd_8 rfl) rfl (by show 2 * 0 + _ ≤ _; exact Nat.le_of_eq rfl) (hb hby d7_20) (fun _ _ => ⟨rfl, rfl, (by decide : 1 + 0 ≤ _), (by decide : 14 + 0 ≤ _)⟩)
  dsimp only [Pt.U, Pt.locs, Pt.cells, Pt.slots] at X31 l31 y31 z31 st31 hQ31
  have l31y := l31.symm
  clear l31
  subst l31y
  obtain rfl : k31 = 1 := y31
  obtain rfl : n31 = 14 := z31
  obtain ⟨rfl, N31q, K31q, V31q⟩ := hQ31
  have N31 := Fr.app N25 N31q
  have f32 := own_staA f26 K31q (by obtain ⟨c9, A9, -⟩ := V25q; exact ⟨c9, _, A9⟩)
  have f33 := own_staA f27 K31q (by obtain ⟨c9, A9, -⟩ := V25q; exact ⟨c9, _, A9⟩)
  have f34 := own_staA f28 K31q (by obtain ⟨c9, A9, -⟩ := V25q; exact ⟨c9, _, A9⟩)
  have f35 := f29.keep K31q (ninS ne_a1_b1 nin0)
  have Zs31 : n0 ≤ T31.heap.size := Nat.le_trans Zs25 K31q.1
  have KK31 := KK25.trans K31q (allS (Or.inr hs1) all0)
  have Us31 := own_Ustep Us25 (x := vd) (own_257 hcvd) rfl
  obtain ⟨ff31, hff31⟩ : ∃ z, z = own_put ff25 4 vd := ⟨_, rfl⟩
  rw [← hff31] at V31q Us31
  clear hff31
  refine own_to T31 (mkF m 29 #[.val (.ref a1), .val (.int ((4 : Int32) + (1 : Int32))), .val (.int (7 : Int32)), .val (.ref b1), .val (.int ((4 : Int32) + (1 : Int32)))] []) (fun tq kq => st31 _ (XS.iinc X31.here hx rfl (hb hby d7_23) rfl (l' := #[.val (.ref a1), .val (.int ((4 : Int32) + (1 : Int32))), .val (.int (7 : Int32)), .val (.ref b1), .val (.int (4 : Int32))]) rfl (XS.iinc X31.here hx rfl (hb hby d7_26) rfl (l' := #[.val (.ref a1), .val (.int ((4 : Int32) + (1 : Int32))), .val (.int (7 : Int32)), .val (.ref b1), .val (.int ((4 : Int32) + (1 : Int32)))]) rfl kq))) ?_
  rw [show ((4 : Int32) + (1 : Int32)) = (5 : Int32) from by decide]
  refine own_to T31 (mkF m 19 #[.val (.ref a1), .val (.int (5 : Int32)), .val (.int (7 : Int32)), .val (.ref b1), .val (.int (5 : Int32))] [(.int (5 : Int32)), (.ref a1), (.int (5 : Int32)), (.ref b1)]) (fun tq kq => XS.goto X31.here hx rfl (pc0 := 29) (pc' := 8) rfl (hb hby d7_29) (by decide) (by decide) (XS.iload X31.here hx rfl (hb hby d7_8) rfl (XS.iloadN X31.here hx rfl (hb hby d7_10) rfl (XS.icmpNo X31.here hx rfl (hb hby d7_11) rfl (tlt (by decide : (5 : Int32) < (7 : Int32))).2.1 (XS.aloadN X31.here hx rfl (hb hby d7_14) rfl rfl (XS.iload X31.here hx rfl (hb hby d7_15) rfl (XS.aloadN X31.here hx rfl (hb hby d7_17) rfl rfl (XS.iloadN X31.here hx rfl (hb hby d7_18) rfl kq)))))))) ?_
  obtain ⟨co36, Aro36, qo36, So36, Mo36, Ho36, Uo36⟩ := id f35
  refine own_to T31 (mkF m 20 #[.val (.ref a1), .val (.int (5 : Int32)), .val (.int (7 : Int32)), .val (.ref b1), .val (.int (5 : Int32))] [(.int ve), (.int (5 : Int32)), (.ref b1)]) (fun tq kq => X31.caload hx (j := (5 : Int32)) (v := (.int ve)) Aro36.1 (State.isArrayOf_alike hZ.alike Aro36.2.1) Aro36.2.2 (inb_of So36 ⟨by decide, by decide⟩) (Ho36 5 (by rw [So36]; decide)) (g := (mkF m 19 #[.val (.ref a1), .val (.int (5 : Int32)), .val (.int (7 : Int32)), .val (.ref b1), .val (.int (5 : Int32))] [(.int (5 : Int32)), (.ref a1), (.int (5 : Int32)), (.ref b1)])) rfl rfl (hb hby d7_19) _ kq) ?_
  obtain ⟨_, _, ⟨T37, L37, k37, n37⟩, -, X37, ⟨Lc37, hQ37, l37, y37, z37⟩, st37⟩ := Jvm.LawKit.callS X31 hx (y := (⟨"java/lang/StringUTF16", "putChar", "([BII)V"⟩ : MethodName)) hown (mvT hZ (own_w hw 40 rfl)) (mvT hZ (own_w hw 41 rfl)) (mvT hZ (own_w hw 24 rfl)) (mvT hZ (own_w hw 42 rfl)) (by decide) (backOf (W := 0) (rmPut l Z a0 hw [] b1 5 14 ff31 ve T31.heap n0 Zs31 f32 f33 f34 V31q (by decide) (by decide) gb1) hZ (own_w hw 42 rfl) (own_w hw 24 rfl) (by decide) (by decide)) (g := (mkF m 20 #[.val (.ref a1), .val (.int (5 : Int32)), .val (.int (7 : Int32)), .val (.ref b1), .val (.int (5 : Int32))] [(.int ve), (.int (5 : Int32)), (.ref b1)])) rfl (by rw [hml]; rfl) (argsL := [(.ref b1), (.int (5 : Int32)), (.int ve)]) (rest := []) (lenOf pd_8 rfl) rfl (by show 2 * 0 + _ ≤ _; exact Nat.le_of_eq rfl) (hb hby d7_20) (fun _ _ => ⟨rfl, rfl, (by decide : 1 + 0 ≤ _), (by decide : 14 + 0 ≤ _)⟩)
  dsimp only [Pt.U, Pt.locs, Pt.cells, Pt.slots] at X37 l37 y37 z37 st37 hQ37
  have l37y := l37.symm
  clear l37
  subst l37y
  obtain rfl : k37 = 1 := y37
  obtain rfl : n37 = 14 := z37
  obtain ⟨rfl, N37q, K37q, V37q⟩ := hQ37
  have N37 := Fr.app N31 N37q
  have f38 := own_staA f32 K37q (by obtain ⟨c9, A9, -⟩ := V31q; exact ⟨c9, _, A9⟩)
  have f39 := own_staA f33 K37q (by obtain ⟨c9, A9, -⟩ := V31q; exact ⟨c9, _, A9⟩)
  have f40 := own_staA f34 K37q (by obtain ⟨c9, A9, -⟩ := V31q; exact ⟨c9, _, A9⟩)
  have f41 := f35.keep K37q (ninS ne_a1_b1 nin0)
  have Zs37 : n0 ≤ T37.heap.size := Nat.le_trans Zs31 K37q.1
  have KK37 := KK31.trans K37q (allS (Or.inr hs1) all0)
  have Us37 := own_Ustep Us31 (x := ve) (own_257 hcve) rfl
  obtain ⟨ff37, hff37⟩ : ∃ z, z = own_put ff31 5 ve := ⟨_, rfl⟩
  rw [← hff37] at V37q Us37
  clear hff37
  refine own_to T37 (mkF m 29 #[.val (.ref a1), .val (.int ((5 : Int32) + (1 : Int32))), .val (.int (7 : Int32)), .val (.ref b1), .val (.int ((5 : Int32) + (1 : Int32)))] []) (fun tq kq => st37 _ (XS.iinc X37.here hx rfl (hb hby d7_23) rfl (l' := #[.val (.ref a1), .val (.int ((5 : Int32) + (1 : Int32))), .val (.int (7 : Int32)), .val (.ref b1), .val (.int (5 : Int32))]) rfl (XS.iinc X37.here hx rfl (hb hby d7_26) rfl (l' := #[.val (.ref a1), .val (.int ((5 : Int32) + (1 : Int32))), .val (.int (7 : Int32)), .val (.ref b1), .val (.int ((5 : Int32) + (1 : Int32)))]) rfl kq))) ?_
  rw [show ((5 : Int32) + (1 : Int32)) = (6 : Int32) from by decide]
  refine own_to T37 (mkF m 19 #[.val (.ref a1), .val (.int (6 : Int32)), .val (.int (7 : Int32)), .val (.ref b1), .val (.int (6 : Int32))] [(.int (6 : Int32)), (.ref a1), (.int (6 : Int32)), (.ref b1)]) (fun tq kq => XS.goto X37.here hx rfl (pc0 := 29) (pc' := 8) rfl (hb hby d7_29) (by decide) (by decide) (XS.iload X37.here hx rfl (hb hby d7_8) rfl (XS.iloadN X37.here hx rfl (hb hby d7_10) rfl (XS.icmpNo X37.here hx rfl (hb hby d7_11) rfl (tlt (by decide : (6 : Int32) < (7 : Int32))).2.1 (XS.aloadN X37.here hx rfl (hb hby d7_14) rfl rfl (XS.iload X37.here hx rfl (hb hby d7_15) rfl (XS.aloadN X37.here hx rfl (hb hby d7_17) rfl rfl (XS.iloadN X37.here hx rfl (hb hby d7_18) rfl kq)))))))) ?_
  obtain ⟨co42, Aro42, qo42, So42, Mo42, Ho42, Uo42⟩ := id f41
  refine own_to T37 (mkF m 20 #[.val (.ref a1), .val (.int (6 : Int32)), .val (.int (7 : Int32)), .val (.ref b1), .val (.int (6 : Int32))] [(.int (256 : Int32)), (.int (6 : Int32)), (.ref b1)]) (fun tq kq => X37.caload hx (j := (6 : Int32)) (v := (.int (256 : Int32))) Aro42.1 (State.isArrayOf_alike hZ.alike Aro42.2.1) Aro42.2.2 (inb_of So42 ⟨by decide, by decide⟩) (Ho42 6 (by rw [So42]; decide)) (g := (mkF m 19 #[.val (.ref a1), .val (.int (6 : Int32)), .val (.int (7 : Int32)), .val (.ref b1), .val (.int (6 : Int32))] [(.int (6 : Int32)), (.ref a1), (.int (6 : Int32)), (.ref b1)])) rfl rfl (hb hby d7_19) _ kq) ?_
  obtain ⟨_, _, ⟨T43, L43, k43, n43⟩, -, X43, ⟨Lc43, hQ43, l43, y43, z43⟩, st43⟩ := Jvm.LawKit.callS X37 hx (y := (⟨"java/lang/StringUTF16", "putChar", "([BII)V"⟩ : MethodName)) hown (mvT hZ (own_w hw 40 rfl)) (mvT hZ (own_w hw 41 rfl)) (mvT hZ (own_w hw 24 rfl)) (mvT hZ (own_w hw 42 rfl)) (by decide) (backOf (W := 0) (rmPut l Z a0 hw [] b1 6 14 ff37 (256 : Int32) T37.heap n0 Zs37 f38 f39 f40 V37q (by decide) (by decide) gb1) hZ (own_w hw 42 rfl) (own_w hw 24 rfl) (by decide) (by decide)) (g := (mkF m 20 #[.val (.ref a1), .val (.int (6 : Int32)), .val (.int (7 : Int32)), .val (.ref b1), .val (.int (6 : Int32))] [(.int (256 : Int32)), (.int (6 : Int32)), (.ref b1)])) rfl (by rw [hml]; rfl) (argsL := [(.ref b1), (.int (6 : Int32)), (.int (256 : Int32))]) (rest := []) (lenOf pd_8 rfl) rfl (by show 2 * 0 + _ ≤ _; exact Nat.le_of_eq rfl) (hb hby d7_20) (fun _ _ => ⟨rfl, rfl, (by decide : 1 + 0 ≤ _), (by decide : 14 + 0 ≤ _)⟩)
  dsimp only [Pt.U, Pt.locs, Pt.cells, Pt.slots] at X43 l43 y43 z43 st43 hQ43
  have l43y := l43.symm
  clear l43
  subst l43y
  obtain rfl : k43 = 1 := y43
  obtain rfl : n43 = 14 := z43
  obtain ⟨rfl, N43q, K43q, V43q⟩ := hQ43
  have N43 := Fr.app N37 N43q
  have f44 := own_staA f38 K43q (by obtain ⟨c9, A9, -⟩ := V37q; exact ⟨c9, _, A9⟩)
  have f45 := own_staA f39 K43q (by obtain ⟨c9, A9, -⟩ := V37q; exact ⟨c9, _, A9⟩)
  have f46 := own_staA f40 K43q (by obtain ⟨c9, A9, -⟩ := V37q; exact ⟨c9, _, A9⟩)
  have f47 := f41.keep K43q (ninS ne_a1_b1 nin0)
  have Zs43 : n0 ≤ T43.heap.size := Nat.le_trans Zs37 K43q.1
  have KK43 := KK37.trans K43q (allS (Or.inr hs1) all0)
  have Us43 := own_Ustep Us37 (x := (256 : Int32)) ⟨by decide, by decide⟩ rfl
  obtain ⟨ff43, hff43⟩ : ∃ z, z = own_put ff37 6 (256 : Int32) := ⟨_, rfl⟩
  rw [← hff43] at V43q Us43
  clear hff43
  refine own_to T43 (mkF m 29 #[.val (.ref a1), .val (.int ((6 : Int32) + (1 : Int32))), .val (.int (7 : Int32)), .val (.ref b1), .val (.int ((6 : Int32) + (1 : Int32)))] []) (fun tq kq => st43 _ (XS.iinc X43.here hx rfl (hb hby d7_23) rfl (l' := #[.val (.ref a1), .val (.int ((6 : Int32) + (1 : Int32))), .val (.int (7 : Int32)), .val (.ref b1), .val (.int (6 : Int32))]) rfl (XS.iinc X43.here hx rfl (hb hby d7_26) rfl (l' := #[.val (.ref a1), .val (.int ((6 : Int32) + (1 : Int32))), .val (.int (7 : Int32)), .val (.ref b1), .val (.int ((6 : Int32) + (1 : Int32)))]) rfl kq))) ?_
  rw [show ((6 : Int32) + (1 : Int32)) = (7 : Int32) from by decide]
  refine own_to T43 (mkF m 33 #[.val (.ref a1), .val (.int (7 : Int32)), .val (.int (7 : Int32)), .val (.ref b1), .val (.int (7 : Int32))] [(.ref b1)]) (fun tq kq => XS.goto X43.here hx rfl (pc0 := 29) (pc' := 8) rfl (hb hby d7_29) (by decide) (by decide) (XS.iload X43.here hx rfl (hb hby d7_8) rfl (XS.iloadN X43.here hx rfl (hb hby d7_10) rfl (XS.icmpYes X43.here hx rfl (pc0 := 11) (pc' := 32) rfl (hb hby d7_11) rfl (flt (by decide : ¬ ((7 : Int32) < (7 : Int32)))).2.1 (by decide) (by decide) (XS.aloadN X43.here hx rfl (hb hby d7_32) rfl rfl kq))))) ?_
  exact own_retA X43 hx hret hlk rfl rfl (hb hby d7_33) (by decide) (by decide) ⟨b1, rfl, N43, KK43, hs1, gb1, ff43, V43q, Us43⟩
theorem d6_0 : decode jdk_52_method_21_code 0 = .ok (.iconst 0, 1) := by decide +kernel
theorem d6_1 : decode jdk_52_method_21_code 1 = .ok (.istore 5, 2) := by decide +kernel
theorem d6_3 : decode jdk_52_method_21_code 3 = .ok (.iload 5, 2) := by decide +kernel
theorem d6_5 : decode jdk_52_method_21_code 5 = .ok (.iload 4, 2) := by decide +kernel
theorem d6_7 : decode jdk_52_method_21_code 7 = .ok (.if_icmp .ge 37, 3) := by decide +kernel
theorem d6_10 : decode jdk_52_method_21_code 10 = .ok (.aload_n 0, 1) := by decide +kernel
theorem d6_11 : decode jdk_52_method_21_code 11 = .ok (.iload_n 1, 1) := by decide +kernel
theorem d6_12 : decode jdk_52_method_21_code 12 = .ok (.caload, 1) := by decide +kernel
theorem d6_13 : decode jdk_52_method_21_code 13 = .ok (.istore 6, 2) := by decide +kernel
theorem d6_15 : decode jdk_52_method_21_code 15 = .ok (.iload 6, 2) := by decide +kernel
theorem d6_17 : decode jdk_52_method_21_code 17 = .ok (.sipush 255, 3) := by decide +kernel
theorem d6_20 : decode jdk_52_method_21_code 20 = .ok (.if_icmp .le 6, 3) := by decide +kernel
theorem d6_23 : decode jdk_52_method_21_code 23 = .ok (.iload 5, 2) := by decide +kernel
theorem d6_25 : decode jdk_52_method_21_code 25 = .ok (.ireturn, 1) := by decide +kernel
theorem d6_26 : decode jdk_52_method_21_code 26 = .ok (.aload_n 2, 1) := by decide +kernel
theorem d6_27 : decode jdk_52_method_21_code 27 = .ok (.iload_n 3, 1) := by decide +kernel
theorem d6_28 : decode jdk_52_method_21_code 28 = .ok (.iload 6, 2) := by decide +kernel
theorem d6_30 : decode jdk_52_method_21_code 30 = .ok (.i2b, 1) := by decide +kernel
theorem d6_31 : decode jdk_52_method_21_code 31 = .ok (.bastore, 1) := by decide +kernel
theorem d6_32 : decode jdk_52_method_21_code 32 = .ok (.iinc 1 1, 3) := by decide +kernel
theorem d6_35 : decode jdk_52_method_21_code 35 = .ok (.iinc 3 1, 3) := by decide +kernel
theorem d6_38 : decode jdk_52_method_21_code 38 = .ok (.iinc 5 1, 3) := by decide +kernel
theorem d6_41 : decode jdk_52_method_21_code 41 = .ok (.goto (-38), 3) := by decide +kernel
theorem d6_44 : decode jdk_52_method_21_code 44 = .ok (.iload 4, 2) := by decide +kernel
theorem d6_46 : decode jdk_52_method_21_code 46 = .ok (.ireturn, 1) := by decide +kernel
theorem ef_6_RIRII (m : MethodId) (x0 : Addr) (x1 : Int32) (x2 : Addr) (x3 : Int32) (x4 : Int32) : entryFrame m #[(.ref x0), (.int x1), (.ref x2), (.int x3), (.int x4)] 7 = mkF m 0 #[.val (.ref x0), .val (.int x1), .val (.ref x2), .val (.int x3), .val (.int x4), .unset, .unset] [] := by first | (simp [entryFrame, mkF, argsToLocals, Value.category]; done) | rfl
def Q_rmK5 (Z : State) (a1 b2 : Addr) (kk : ClassId) (va vb vc vd ve : Int32) (h0 : Heap) (n0 : Nat) (v : Option Value) (h : Heap) (L : List Loc) : Prop := v = some (.int (1 : Int32)) ∧ Fr n0 L ∧ Keep h0 h [b2]
set_option maxRecDepth 65536 in
set_option maxHeartbeats 40000000 in
theorem rmK5 (l : Launch) (Z : State) (a0 : Array Value) (hw : ∀ d ∈ tables_1, d.before a0 Z = true) (ws : List Jvm.Cond) (a1 b2 : Addr) (kk : ClassId) (va vb vc vd ve : Int32) (h0 : Heap) (n0 : Nat) (Z0 : n0 ≤ h0.size) (Va1 : Arv Z h0 a1 kk .char (7 : Int32) [(.int va), (.int (257 : Int32)), (.int vb), (.int vc), (.int vd), (.int ve), (.int (256 : Int32))] (.int (0 : Int32))) (Vb2 : BArr Z h0 b2 7 (fun _ => 0)) (nab : own_ne a1 b2) (g_b2 : n0 ≤ b2) (hcva : ¬ va < (0 : Int32) ∧ ¬ (255 : Int32) < va) :
    MetFree l (⟨"java/lang/StringUTF16", "compress", "([CI[BII)I"⟩ : MethodName) (head1 (Jvm.Cond.code (⟨"java/lang/StringUTF16", "compress", "([CI[BII)I"⟩ : MethodName) jdk_52_method_21_code 7 (some .int) :: ws) ({ frames := 0, cells := 0, slots := 0, locals := 0 } : Room)) (fun a U => a = #[(.ref a1), (.int (0 : Int32)), (.ref b2), (.int (0 : Int32)), (.int (7 : Int32))] ∧ Z.Warmed39 U.vm ∧ U.heap = h0) (fun _ _ _ _ _ => True) (fun _ U o U' => ∃ v L, o = .returned v ∧ Q_rmK5 Z a1 b2 kk va vb vc vd ve h0 n0 v U'.heap L ∧ FrameEnd U o U' L ({ frames := 0, cells := 0, slots := 0, locals := 0 } : Room).cells ({ frames := 0, cells := 0, slots := 0, locals := 0 } : Room).slots) := by
  refine own_met (y := (⟨"java/lang/StringUTF16", "compress", "([CI[BII)I"⟩ : MethodName)) (Q := (Q_rmK5 Z a1 b2 kk va vb vc vd ve h0 n0)) (plainFor_of_name pn_11) fun p e s m below meth c s₁ X0 hx hby hml hret hlk hown hnm hZ e0 => ?_
  refine own_entry (ef_6_RIRII m a1 (0 : Int32) b2 (0 : Int32) (7 : Int32)) ?_
  have K0 := Keep.refl h0 [b2]
  refine own_to s₁ (mkF m 12 #[.val (.ref a1), .val (.int (0 : Int32)), .val (.ref b2), .val (.int (0 : Int32)), .val (.int (7 : Int32)), .val (.int (0 : Int32)), .unset] [(.int (0 : Int32)), (.ref a1)]) (fun tq kq => XS.iconst X0.here hx rfl (hb hby d6_0) (XS.istore X0.here hx rfl (hb hby d6_1) rfl (l' := #[.val (.ref a1), .val (.int (0 : Int32)), .val (.ref b2), .val (.int (0 : Int32)), .val (.int (7 : Int32)), .val (.int (0 : Int32)), .unset]) rfl (XS.iload X0.here hx rfl (hb hby d6_3) rfl (XS.iload X0.here hx rfl (hb hby d6_5) rfl (XS.icmpNo X0.here hx rfl (hb hby d6_7) rfl (tlt (by decide : (0 : Int32) < (7 : Int32))).2.1 (XS.aloadN X0.here hx rfl (hb hby d6_10) rfl rfl (XS.iloadN X0.here hx rfl (hb hby d6_11) rfl kq))))))) ?_
  obtain ⟨co1, Aro1, qo1, So1, Mo1, Ho1, Uo1⟩ := id Va1
  refine own_to s₁ (mkF m 31 #[.val (.ref a1), .val (.int (0 : Int32)), .val (.ref b2), .val (.int (0 : Int32)), .val (.int (7 : Int32)), .val (.int (0 : Int32)), .val (.int va)] [(.int (va.toInt8.toInt32)), (.int (0 : Int32)), (.ref b2)]) (fun tq kq => X0.caload hx (j := (0 : Int32)) (v := (.int va)) (by rw [e0]; exact Aro1.1) (State.isArrayOf_alike hZ.alike Aro1.2.1) Aro1.2.2 (inb_of So1 ⟨by decide, by decide⟩) (Ho1 0 (by rw [So1]; decide)) (g := (mkF m 12 #[.val (.ref a1), .val (.int (0 : Int32)), .val (.ref b2), .val (.int (0 : Int32)), .val (.int (7 : Int32)), .val (.int (0 : Int32)), .unset] [(.int (0 : Int32)), (.ref a1)])) rfl rfl (hb hby d6_12) _ (XS.istore X0.here hx rfl (hb hby d6_13) rfl (l' := #[.val (.ref a1), .val (.int (0 : Int32)), .val (.ref b2), .val (.int (0 : Int32)), .val (.int (7 : Int32)), .val (.int (0 : Int32)), .val (.int va)]) rfl (XS.iload X0.here hx rfl (hb hby d6_15) rfl (XS.sipush X0.here hx rfl (hb hby d6_17) (XS.icmpYes X0.here hx rfl (pc0 := 20) (pc' := 26) rfl (hb hby d6_20) rfl (flt hcva.2).2.2.2 (by decide) (by decide) (XS.aloadN X0.here hx rfl (hb hby d6_26) rfl rfl (XS.iloadN X0.here hx rfl (hb hby d6_27) rfl (XS.iload X0.here hx rfl (hb hby d6_28) rfl (XS.i2b X0.here hx rfl (hb hby d6_30) rfl kq))))))))) ?_
  obtain ⟨co3, Aro3, hszo3, hato3⟩ := id Vb2
  obtain ⟨T2, h2, X2, e2, W2, st2⟩ := stB X0 hx hZ e0 Aro3 (j := (0 : Int32)) (by rw [hszo3]; exact within (c := 0) rfl (by decide) (by decide)) (g := (mkF m 31 #[.val (.ref a1), .val (.int (0 : Int32)), .val (.ref b2), .val (.int (0 : Int32)), .val (.int (7 : Int32)), .val (.int (0 : Int32)), .val (.int va)] [(.int (va.toInt8.toInt32)), (.int (0 : Int32)), (.ref b2)])) rfl rfl (hb hby d6_31)
  have f4 := Va1.other W2 nab
  have N2 := Fr.snoc X2 (Fr.nil n0) g_b2
  have Zs2 : n0 ≤ h2.size := by rw [W2.size]; exact Z0
  have K2 := K0.wr W2 (Or.inl (List.mem_of_getElem? (i := 0) rfl))
  refine own_to T2 (mkF m 41 #[.val (.ref a1), .val (.int ((0 : Int32) + (1 : Int32))), .val (.ref b2), .val (.int ((0 : Int32) + (1 : Int32))), .val (.int (7 : Int32)), .val (.int ((0 : Int32) + (1 : Int32))), .val (.int va)] []) (fun tq kq => st2 _ (XS.iinc X2.here hx rfl (hb hby d6_32) rfl (l' := #[.val (.ref a1), .val (.int ((0 : Int32) + (1 : Int32))), .val (.ref b2), .val (.int (0 : Int32)), .val (.int (7 : Int32)), .val (.int (0 : Int32)), .val (.int va)]) rfl (XS.iinc X2.here hx rfl (hb hby d6_35) rfl (l' := #[.val (.ref a1), .val (.int ((0 : Int32) + (1 : Int32))), .val (.ref b2), .val (.int ((0 : Int32) + (1 : Int32))), .val (.int (7 : Int32)), .val (.int (0 : Int32)), .val (.int va)]) rfl (XS.iinc X2.here hx rfl (hb hby d6_38) rfl (l' := #[.val (.ref a1), .val (.int ((0 : Int32) + (1 : Int32))), .val (.ref b2), .val (.int ((0 : Int32) + (1 : Int32))), .val (.int (7 : Int32)), .val (.int ((0 : Int32) + (1 : Int32))), .val (.int va)]) rfl kq)))) ?_
  rw [show (0 : Int32) + (1 : Int32) = (1 : Int32) from by decide]
  refine own_to T2 (mkF m 12 #[.val (.ref a1), .val (.int (1 : Int32)), .val (.ref b2), .val (.int (1 : Int32)), .val (.int (7 : Int32)), .val (.int (1 : Int32)), .val (.int va)] [(.int (1 : Int32)), (.ref a1)]) (fun tq kq => XS.goto X2.here hx rfl (pc0 := 41) (pc' := 3) rfl (hb hby d6_41) (by decide) (by decide) (XS.iload X2.here hx rfl (hb hby d6_3) rfl (XS.iload X2.here hx rfl (hb hby d6_5) rfl (XS.icmpNo X2.here hx rfl (hb hby d6_7) rfl (tlt (by decide : (1 : Int32) < (7 : Int32))).2.1 (XS.aloadN X2.here hx rfl (hb hby d6_10) rfl rfl (XS.iloadN X2.here hx rfl (hb hby d6_11) rfl kq)))))) ?_
  obtain ⟨co5, Aro5, qo5, So5, Mo5, Ho5, Uo5⟩ := id f4
  refine own_to T2 (mkF m 25 #[.val (.ref a1), .val (.int (1 : Int32)), .val (.ref b2), .val (.int (1 : Int32)), .val (.int (7 : Int32)), .val (.int (1 : Int32)), .val (.int (257 : Int32))] [(.int (1 : Int32))]) (fun tq kq => X2.caload hx (j := (1 : Int32)) (v := (.int (257 : Int32))) (by rw [e2]; exact Aro5.1) (State.isArrayOf_alike hZ.alike Aro5.2.1) Aro5.2.2 (inb_of So5 ⟨by decide, by decide⟩) (Ho5 1 (by rw [So5]; decide)) (g := (mkF m 12 #[.val (.ref a1), .val (.int (1 : Int32)), .val (.ref b2), .val (.int (1 : Int32)), .val (.int (7 : Int32)), .val (.int (1 : Int32)), .val (.int va)] [(.int (1 : Int32)), (.ref a1)])) rfl rfl (hb hby d6_12) _ (XS.istore X2.here hx rfl (hb hby d6_13) rfl (l' := #[.val (.ref a1), .val (.int (1 : Int32)), .val (.ref b2), .val (.int (1 : Int32)), .val (.int (7 : Int32)), .val (.int (1 : Int32)), .val (.int (257 : Int32))]) rfl (XS.iload X2.here hx rfl (hb hby d6_15) rfl (XS.sipush X2.here hx rfl (hb hby d6_17) (XS.icmpNo X2.here hx rfl (hb hby d6_20) rfl (tlt (by decide : (255 : Int32) < (257 : Int32))).2.2.2 (XS.iload X2.here hx rfl (hb hby d6_23) rfl kq)))))) ?_
  exact own_retI X2 hx hret hlk (hb hby d6_25) (by decide) (by decide) (by rw [e2]; exact ⟨rfl, N2, K2⟩)
theorem d5_0 : decode jdk_52_method_16_code 0 = .ok (.iload_n 2, 1) := by decide +kernel
theorem d5_1 : decode jdk_52_method_16_code 1 = .ok (.newarray .byte, 2) := by decide +kernel
theorem d5_3 : decode jdk_52_method_16_code 3 = .ok (.astore_n 3, 1) := by decide +kernel
theorem d5_4 : decode jdk_52_method_16_code 4 = .ok (.aload_n 0, 1) := by decide +kernel
theorem d5_5 : decode jdk_52_method_16_code 5 = .ok (.iload_n 1, 1) := by decide +kernel
theorem d5_6 : decode jdk_52_method_16_code 6 = .ok (.aload_n 3, 1) := by decide +kernel
theorem d5_7 : decode jdk_52_method_16_code 7 = .ok (.iconst 0, 1) := by decide +kernel
theorem d5_8 : decode jdk_52_method_16_code 8 = .ok (.iload_n 2, 1) := by decide +kernel
theorem d5_9 : decode jdk_52_method_16_code 9 = .ok (.invokestatic 115, 3) := by decide +kernel
theorem d5_12 : decode jdk_52_method_16_code 12 = .ok (.istore 4, 2) := by decide +kernel
theorem d5_14 : decode jdk_52_method_16_code 14 = .ok (.iload 4, 2) := by decide +kernel
theorem d5_16 : decode jdk_52_method_16_code 16 = .ok (.iload_n 2, 1) := by decide +kernel
theorem d5_17 : decode jdk_52_method_16_code 17 = .ok (.if_icmp .eq 40, 3) := by decide +kernel
theorem d5_20 : decode jdk_52_method_16_code 20 = .ok (.aload_n 0, 1) := by decide +kernel
theorem d5_21 : decode jdk_52_method_16_code 21 = .ok (.iload_n 1, 1) := by decide +kernel
theorem d5_22 : decode jdk_52_method_16_code 22 = .ok (.iload_n 2, 1) := by decide +kernel
theorem d5_23 : decode jdk_52_method_16_code 23 = .ok (.invokestatic 119, 3) := by decide +kernel
theorem d5_26 : decode jdk_52_method_16_code 26 = .ok (.astore 5, 2) := by decide +kernel
theorem d5_28 : decode jdk_52_method_16_code 28 = .ok (.aload 5, 2) := by decide +kernel
theorem d5_30 : decode jdk_52_method_16_code 30 = .ok (.iload 4, 2) := by decide +kernel
theorem d5_32 : decode jdk_52_method_16_code 32 = .ok (.invokestatic 71, 3) := by decide +kernel
theorem d5_35 : decode jdk_52_method_16_code 35 = .ok (.sipush 255, 3) := by decide +kernel
theorem d5_38 : decode jdk_52_method_16_code 38 = .ok (.if_icmp .gt 16, 3) := by decide +kernel
theorem d5_41 : decode jdk_52_method_16_code 41 = .ok (.aload 5, 2) := by decide +kernel
theorem d5_43 : decode jdk_52_method_16_code 43 = .ok (.iconst 0, 1) := by decide +kernel
theorem d5_44 : decode jdk_52_method_16_code 44 = .ok (.aload_n 3, 1) := by decide +kernel
theorem d5_45 : decode jdk_52_method_16_code 45 = .ok (.iconst 0, 1) := by decide +kernel
theorem d5_46 : decode jdk_52_method_16_code 46 = .ok (.iload_n 2, 1) := by decide +kernel
theorem d5_47 : decode jdk_52_method_16_code 47 = .ok (.invokestatic 123, 3) := by decide +kernel
theorem d5_50 : decode jdk_52_method_16_code 50 = .ok (.iload_n 2, 1) := by decide +kernel
theorem d5_51 : decode jdk_52_method_16_code 51 = .ok (.if_icmp .eq 6, 3) := by decide +kernel
theorem d5_54 : decode jdk_52_method_16_code 54 = .ok (.aload 5, 2) := by decide +kernel
theorem d5_56 : decode jdk_52_method_16_code 56 = .ok (.areturn, 1) := by decide +kernel
theorem d5_57 : decode jdk_52_method_16_code 57 = .ok (.aload_n 3, 1) := by decide +kernel
theorem d5_58 : decode jdk_52_method_16_code 58 = .ok (.areturn, 1) := by decide +kernel
theorem ef_5_RII (m : MethodId) (x0 : Addr) (x1 : Int32) (x2 : Int32) : entryFrame m #[(.ref x0), (.int x1), (.int x2)] 6 = mkF m 0 #[.val (.ref x0), .val (.int x1), .val (.int x2), .unset, .unset, .unset] [] := by first | (simp [entryFrame, mkF, argsToLocals, Value.category]; done) | rfl
def Q_rmK3 (Z : State) (a1 : Addr) (kk : ClassId) (va vb vc vd ve : Int32) (h0 : Heap) (n0 : Nat) (v : Option Value) (h : Heap) (L : List Loc) : Prop := ∃ b, v = some (.ref b) ∧ Fr n0 L ∧ Keep h0 h [] ∧ h0.size ≤ b ∧ n0 ≤ b ∧ ∃ ff, BArr Z h b 14 ff ∧ own_U ff 7 14 (own_c7 va vb vc vd ve)
theorem pd_5 : parseMethodDescriptor "([CI[BII)I" = some ⟨[(.array .char), .int, (.array .byte), .int, .int], some .int⟩ := by decide +kernel
theorem pd_4 : parseMethodDescriptor "([CII)[B" = some ⟨[(.array .char), .int, .int], some (.array .byte)⟩ := by decide +kernel
theorem pd_9 : parseMethodDescriptor "([BI)C" = some ⟨[(.array .byte), .int], some .char⟩ := by decide +kernel
set_option maxRecDepth 65536 in
set_option maxHeartbeats 40000000 in
theorem rmK3 (l : Launch) (Z : State) (a0 : Array Value) (hw : ∀ d ∈ tables_1, d.before a0 Z = true) (ws : List Jvm.Cond) (a1 : Addr) (kk : ClassId) (va vb vc vd ve : Int32) (h0 : Heap) (n0 : Nat) (Z0 : n0 ≤ h0.size) (OA : Sta Z h0 "java/lang/StringUTF16" "$assertionsDisabled" "Z" (.int (1 : Int32))) (OH : Sta Z h0 "java/lang/StringUTF16" "HI_BYTE_SHIFT" "I" (.int (0 : Int32))) (OL : Sta Z h0 "java/lang/StringUTF16" "LO_BYTE_SHIFT" "I" (.int (8 : Int32))) (Va1 : Arv Z h0 a1 kk .char (7 : Int32) [(.int va), (.int (257 : Int32)), (.int vb), (.int vc), (.int vd), (.int ve), (.int (256 : Int32))] (.int (0 : Int32))) (hcva : ¬ va < (0 : Int32) ∧ ¬ (255 : Int32) < va) (hcvb : ¬ vb < (0 : Int32) ∧ ¬ (255 : Int32) < vb) (hcvc : ¬ vc < (0 : Int32) ∧ ¬ (255 : Int32) < vc) (hcvd : ¬ vd < (0 : Int32) ∧ ¬ (255 : Int32) < vd) (hcve : ¬ ve < (0 : Int32) ∧ ¬ (255 : Int32) < ve) :
    MetFree l (⟨"java/lang/StringUTF16", "compress", "([CII)[B"⟩ : MethodName) (head1 (Jvm.Cond.code (⟨"java/lang/StringUTF16", "compress", "([CII)[B"⟩ : MethodName) jdk_52_method_16_code 6 (some (.array .byte)) :: ws) ({ frames := 3, cells := 2, slots := 21, locals := 70 } : Room)) (fun a U => a = #[(.ref a1), (.int (0 : Int32)), (.int (7 : Int32))] ∧ Z.Warmed39 U.vm ∧ U.heap = h0) (fun _ _ _ _ _ => True) (fun _ U o U' => ∃ v L, o = .returned v ∧ Q_rmK3 Z a1 kk va vb vc vd ve h0 n0 v U'.heap L ∧ FrameEnd U o U' L ({ frames := 3, cells := 2, slots := 21, locals := 70 } : Room).cells ({ frames := 3, cells := 2, slots := 21, locals := 70 } : Room).slots) := by
  refine own_met (y := (⟨"java/lang/StringUTF16", "compress", "([CII)[B"⟩ : MethodName)) (Q := (Q_rmK3 Z a1 kk va vb vc vd ve h0 n0)) (plainFor_of_name pn_11) fun p e s m below meth c s₁ X0 hx hby hml hret hlk hown hnm hZ e0 => ?_
  refine own_entry (ef_5_RII m a1 (0 : Int32) (7 : Int32)) ?_
  have K0 := Keep.refl h0 []
  refine own_to s₁ (mkF m 1 #[.val (.ref a1), .val (.int (0 : Int32)), .val (.int (7 : Int32)), .unset, .unset, .unset] [(.int (7 : Int32))]) (fun tq kq => XS.iloadN X0.here hx rfl (hb hby d5_0) rfl kq) ?_
  obtain ⟨T1, h1, k1, X1, e1, E1, A1, st1⟩ := newP X0 hx hZ (own_w hw 26 rfl) e0 (g := (mkF m 1 #[.val (.ref a1), .val (.int (0 : Int32)), .val (.int (7 : Int32)), .unset, .unset, .unset] [(.int (7 : Int32))])) rfl (hb hby d5_1) rfl (by decide) (cap := 7) (by decide) (by decide) (by decide) (by decide)
  obtain ⟨b1, g1⟩ : ∃ z, z = h0.size := ⟨_, rfl⟩
  rw [← g1] at A1 st1
  have ne_a1_b1 : own_ne a1 b1 := Nat.ne_of_lt (Nat.lt_of_lt_of_le Va1.lt (Nat.le_of_eq g1.symm))
  have f2 := OA.ext E1
  have f3 := OH.ext E1
  have f4 := OL.ext E1
  have f5 := Va1.ext E1
  have sz1 : n0 ≤ b1 := Nat.le_trans Z0 (Nat.le_of_eq g1.symm)
  have hs1 : h0.size ≤ b1 := Nat.le_trans K0.1 (Nat.le_of_eq g1.symm)
  have Zs1 : n0 ≤ h1.size := Nat.le_trans Z0 E1.1
  have K1 := K0.ext E1
  have V1 : BArr Z h1 b1 7 (fun _ => 0) := BArr.new A1 (by decide)
  refine own_to T1 (mkF m 9 #[.val (.ref a1), .val (.int (0 : Int32)), .val (.int (7 : Int32)), .val (.ref b1), .unset, .unset] [(.int (7 : Int32)), (.int (0 : Int32)), (.ref b1), (.int (0 : Int32)), (.ref a1)]) (fun tq kq => st1 _ (XS.astoreN X1.here hx rfl (hb hby d5_3) rfl rfl (l' := #[.val (.ref a1), .val (.int (0 : Int32)), .val (.int (7 : Int32)), .val (.ref b1), .unset, .unset]) rfl (XS.aloadN X1.here hx rfl (hb hby d5_4) rfl rfl (XS.iloadN X1.here hx rfl (hb hby d5_5) rfl (XS.aloadN X1.here hx rfl (hb hby d5_6) rfl rfl (XS.iconst X1.here hx rfl (hb hby d5_7) (XS.iloadN X1.here hx rfl (hb hby d5_8) rfl kq))))))) ?_
  obtain ⟨_, _, ⟨T6, L6, k6, n6⟩, -, X6, ⟨Lc6, hQ6, l6, y6, z6⟩, st6⟩ := Jvm.LawKit.callS X1 hx (y := (⟨"java/lang/StringUTF16", "compress", "([CI[BII)I"⟩ : MethodName)) hown (mvT hZ (own_w hw 27 rfl)) (mvT hZ (own_w hw 28 rfl)) (mvT hZ (own_w hw 24 rfl)) (mvT hZ (own_w hw 29 rfl)) (by decide) (backOf (W := 0) (rmK5 l Z a0 hw [] a1 b1 kk va vb vc vd ve h1 n0 Zs1 f5 V1 ne_a1_b1 sz1 hcva) hZ (own_w hw 29 rfl) (own_w hw 24 rfl) (by decide) (by decide)) (g := (mkF m 9 #[.val (.ref a1), .val (.int (0 : Int32)), .val (.int (7 : Int32)), .val (.ref b1), .unset, .unset] [(.int (7 : Int32)), (.int (0 : Int32)), (.ref b1), (.int (0 : Int32)), (.ref a1)])) rfl (by rw [hml]; rfl) (argsL := [(.ref a1), (.int (0 : Int32)), (.ref b1), (.int (0 : Int32)), (.int (7 : Int32))]) (rest := []) (lenOf pd_5 rfl) rfl (by show 2 * 0 + _ ≤ _; exact Nat.le_of_eq rfl) (hb hby d5_9) (fun _ _ => ⟨rfl, e1, (by decide : 1 + 0 ≤ _), (by decide : 7 + 0 ≤ _)⟩)
  dsimp only [Pt.U, Pt.locs, Pt.cells, Pt.slots] at X6 l6 y6 z6 st6 hQ6
  have l6y := l6.symm
  clear l6
  subst l6y
  obtain rfl : k6 = 1 := y6
  obtain rfl : n6 = 7 := z6
  obtain ⟨rfl, N6q, K6q⟩ := hQ6
  have N6 := Fr.app (Fr.nil n0) N6q
  have f7 := own_staA f2 K6q (by obtain ⟨c9, A9, -⟩ := V1; exact ⟨c9, _, A9⟩)
  have f8 := own_staA f3 K6q (by obtain ⟨c9, A9, -⟩ := V1; exact ⟨c9, _, A9⟩)
  have f9 := own_staA f4 K6q (by obtain ⟨c9, A9, -⟩ := V1; exact ⟨c9, _, A9⟩)
  have f10 := f5.keep K6q (ninS ne_a1_b1 nin0)
  have Zs6 : n0 ≤ T6.heap.size := Nat.le_trans Zs1 K6q.1
  have KK6 := K1.trans K6q (allS (Or.inr hs1) all0)
  refine own_to T6 (mkF m 23 #[.val (.ref a1), .val (.int (0 : Int32)), .val (.int (7 : Int32)), .val (.ref b1), .val (.int (1 : Int32)), .unset] [(.int (7 : Int32)), (.int (0 : Int32)), (.ref a1)]) (fun tq kq => st6 _ (XS.istore X6.here hx rfl (hb hby d5_12) rfl (l' := #[.val (.ref a1), .val (.int (0 : Int32)), .val (.int (7 : Int32)), .val (.ref b1), .val (.int (1 : Int32)), .unset]) rfl (XS.iload X6.here hx rfl (hb hby d5_14) rfl (XS.iloadN X6.here hx rfl (hb hby d5_16) rfl (XS.icmpNo X6.here hx rfl (hb hby d5_17) rfl (feq (by decide : ¬ ((1 : Int32) = (7 : Int32)))).1 (XS.aloadN X6.here hx rfl (hb hby d5_20) rfl rfl (XS.iloadN X6.here hx rfl (hb hby d5_21) rfl (XS.iloadN X6.here hx rfl (hb hby d5_22) rfl kq)))))))) ?_
  obtain ⟨_, _, ⟨T11, L11, k11, n11⟩, -, X11, ⟨Lc11, hQ11, l11, y11, z11⟩, st11⟩ := Jvm.LawKit.callS X6 hx (y := (⟨"java/lang/StringUTF16", "toBytes", "([CII)[B"⟩ : MethodName)) hown (mvT hZ (own_w hw 30 rfl)) (mvT hZ (own_w hw 31 rfl)) (mvT hZ (own_w hw 24 rfl)) (mvT hZ (own_w hw 32 rfl)) (by decide) (backOf (W := 0) (rmToB l Z a0 hw [] a1 kk va vb vc vd ve T6.heap n0 Zs6 f7 f8 f9 f10 hcva hcvb hcvc hcvd hcve) hZ (own_w hw 32 rfl) (own_w hw 24 rfl) (by decide) (by decide)) (g := (mkF m 23 #[.val (.ref a1), .val (.int (0 : Int32)), .val (.int (7 : Int32)), .val (.ref b1), .val (.int (1 : Int32)), .unset] [(.int (7 : Int32)), (.int (0 : Int32)), (.ref a1)])) rfl (by rw [hml]; rfl) (argsL := [(.ref a1), (.int (0 : Int32)), (.int (7 : Int32))]) (rest := []) (lenOf pd_4 rfl) rfl (by show 2 * 0 + _ ≤ _; exact Nat.le_of_eq rfl) (hb hby d5_23) (fun _ _ => ⟨rfl, rfl, (by decide : 1 + 1 ≤ _), (by decide : 7 + 14 ≤ _)⟩)
  dsimp only [Pt.U, Pt.locs, Pt.cells, Pt.slots] at X11 l11 y11 z11 st11 hQ11
  have l11y := l11.symm
  clear l11
  subst l11y
  obtain rfl : k11 = 2 := y11
  obtain rfl : n11 = 21 := z11
  obtain ⟨b11, rfl, N11q, K11q, hsr11, gb11, ff11, V11q, U11q⟩ := hQ11
  have N11 := Fr.app N6 N11q
  have hs11 : h0.size ≤ b11 := Nat.le_trans KK6.1 hsr11
  have ne_a1_b11 : own_ne a1 b11 := Nat.ne_of_lt (Nat.lt_of_lt_of_le f10.lt hsr11)
  have f12 := own_staK f7 K11q
  have f13 := own_staK f8 K11q
  have f14 := own_staK f9 K11q
  have f15 := f10.keep K11q nin0
  have Zs11 : n0 ≤ T11.heap.size := Nat.le_trans Zs6 K11q.1
  have KK11 := KK6.trans K11q all0
  refine own_to T11 (mkF m 32 #[.val (.ref a1), .val (.int (0 : Int32)), .val (.int (7 : Int32)), .val (.ref b1), .val (.int (1 : Int32)), .val (.ref b11)] [(.int (1 : Int32)), (.ref b11)]) (fun tq kq => st11 _ (XS.astore X11.here hx rfl (hb hby d5_26) rfl rfl (l' := #[.val (.ref a1), .val (.int (0 : Int32)), .val (.int (7 : Int32)), .val (.ref b1), .val (.int (1 : Int32)), .val (.ref b11)]) rfl (XS.aload X11.here hx rfl (hb hby d5_28) rfl rfl (XS.iload X11.here hx rfl (hb hby d5_30) rfl kq)))) ?_
  obtain ⟨_, _, ⟨T16, L16, k16, n16⟩, -, X16, ⟨Lc16, hQ16, l16, y16, z16⟩, st16⟩ := Jvm.LawKit.callS X11 hx (y := (⟨"java/lang/StringUTF16", "getChar", "([BI)C"⟩ : MethodName)) hown (mvT hZ (own_w hw 46 rfl)) (mvT hZ (own_w hw 47 rfl)) (mvT hZ (own_w hw 24 rfl)) (mvT hZ (own_w hw 48 rfl)) (by decide) (backOf (W := 0) (rmGC l Z a0 hw [] b11 1 14 ff11 (257 : Int32) T11.heap n0 Zs11 f12 f13 f14 V11q (by decide) (by decide) (U11q.1 1 (by decide))) hZ (own_w hw 48 rfl) (own_w hw 24 rfl) (by decide) (by decide)) (g := (mkF m 32 #[.val (.ref a1), .val (.int (0 : Int32)), .val (.int (7 : Int32)), .val (.ref b1), .val (.int (1 : Int32)), .val (.ref b11)] [(.int (1 : Int32)), (.ref b11)])) rfl (by rw [hml]; rfl) (argsL := [(.ref b11), (.int (1 : Int32))]) (rest := []) (lenOf pd_9 rfl) rfl (by show 2 * 0 + _ ≤ _; exact Nat.le_of_eq rfl) (hb hby d5_32) (fun _ _ => ⟨rfl, rfl, (by decide : 2 + 0 ≤ _), (by decide : 21 + 0 ≤ _)⟩)
  dsimp only [Pt.U, Pt.locs, Pt.cells, Pt.slots] at X16 l16 y16 z16 st16 hQ16
  have l16y := l16.symm
  clear l16
  subst l16y
  obtain rfl : k16 = 2 := y16
  obtain rfl : n16 = 21 := z16
  obtain ⟨rfl, N16q, e16⟩ := hQ16
  have N16 := Fr.app N11 N16q
  refine own_to T16 (mkF m 56 #[.val (.ref a1), .val (.int (0 : Int32)), .val (.int (7 : Int32)), .val (.ref b1), .val (.int (1 : Int32)), .val (.ref b11)] [(.ref b11)]) (fun tq kq => st16 _ (XS.sipush X16.here hx rfl (hb hby d5_35) (XS.icmpYes X16.here hx rfl (pc0 := 38) (pc' := 54) rfl (hb hby d5_38) rfl (tlt (by decide : (255 : Int32) < (257 : Int32))).2.2.1 (by decide) (by decide) (XS.aload X16.here hx rfl (hb hby d5_54) rfl rfl kq)))) ?_
  exact own_retA X16 hx hret hlk rfl rfl (hb hby d5_56) (by decide) (by decide) ⟨b11, rfl, N16, (by rw [e16]; exact KK11), hs11, gb11, ff11, (by rw [e16]; exact V11q), U11q⟩
theorem d12_0 : decode jdk_52_method_15_code 0 = .ok (.iload_n 1, 1) := by decide +kernel
theorem d12_1 : decode jdk_52_method_15_code 1 = .ok (.aload_n 0, 1) := by decide +kernel
theorem d12_2 : decode jdk_52_method_15_code 2 = .ok (.arraylength, 1) := by decide +kernel
theorem d12_3 : decode jdk_52_method_15_code 3 = .ok (.isub, 1) := by decide +kernel
theorem d12_4 : decode jdk_52_method_15_code 4 = .ok (.bipush 31, 2) := by decide +kernel
theorem d12_6 : decode jdk_52_method_15_code 6 = .ok (.iushr, 1) := by decide +kernel
theorem d12_7 : decode jdk_52_method_15_code 7 = .ok (.i2b, 1) := by decide +kernel
theorem d12_8 : decode jdk_52_method_15_code 8 = .ok (.ireturn, 1) := by decide +kernel
theorem ef_12_RI (m : MethodId) (x0 : Addr) (x1 : Int32) : entryFrame m #[(.ref x0), (.int x1)] 2 = mkF m 0 #[.val (.ref x0), .val (.int x1)] [] := by first | (simp [entryFrame, mkF, argsToLocals, Value.category]; done) | rfl
def Q_rmCodA (Z : State) (t1 : Addr) (len n : Nat) (f : Nat → Int32) (y : Int32) (h0 : Heap) (n0 : Nat) (v : Option Value) (h : Heap) (L : List Loc) : Prop := v = some (.int y) ∧ Fr n0 L ∧ h = h0
set_option maxRecDepth 65536 in
set_option maxHeartbeats 40000000 in
theorem rmCodA (l : Launch) (Z : State) (a0 : Array Value) (hw : ∀ d ∈ tables_1, d.before a0 Z = true) (ws : List Jvm.Cond) (t1 : Addr) (len n : Nat) (f : Nat → Int32) (y : Int32) (h0 : Heap) (n0 : Nat) (Z0 : n0 ≤ h0.size) (A1 : BArr Z h0 t1 n f) (hy : (((Int32.ofNat len - Int32.ofNat n).toUInt32 >>> ((31 : Int32) &&& 31).toUInt32).toInt32).toInt8.toInt32 = y) (hyb : y.toInt8.toInt32 = y) :
    MetFree l (⟨"java/lang/StringUTF16", "coderFromArrayLen", "([BI)B"⟩ : MethodName) (head1 (Jvm.Cond.code (⟨"java/lang/StringUTF16", "coderFromArrayLen", "([BI)B"⟩ : MethodName) jdk_52_method_15_code 2 (some .byte) :: ws) ({ frames := 0, cells := 0, slots := 0, locals := 0 } : Room)) (fun a U => a = #[(.ref t1), (.int (Int32.ofNat len))] ∧ Z.Warmed39 U.vm ∧ U.heap = h0) (fun _ _ _ _ _ => True) (fun _ U o U' => ∃ v L, o = .returned v ∧ Q_rmCodA Z t1 len n f y h0 n0 v U'.heap L ∧ FrameEnd U o U' L ({ frames := 0, cells := 0, slots := 0, locals := 0 } : Room).cells ({ frames := 0, cells := 0, slots := 0, locals := 0 } : Room).slots) := by
  refine own_met (y := (⟨"java/lang/StringUTF16", "coderFromArrayLen", "([BI)B"⟩ : MethodName)) (Q := (Q_rmCodA Z t1 len n f y h0 n0)) (plainFor_of_name pn_11) fun p e s m below meth c s₁ X0 hx hby hml hret hlk hown hnm hZ e0 => ?_
  refine own_entry (ef_12_RI m t1 (Int32.ofNat len)) ?_
  obtain ⟨c1, Ar1, hsz1, hat1⟩ := A1
  refine own_to s₁ (mkF m 3 #[.val (.ref t1), .val (.int (Int32.ofNat len))] [(.int (c1.slots.size.toInt32)), (.int (Int32.ofNat len))]) (fun tq kq => XS.iloadN X0.here hx rfl (hb hby d12_0) rfl (XS.aloadN X0.here hx rfl (hb hby d12_1) rfl rfl (X0.arraylength hx (by rw [e0]; exact Ar1.1) (State.isArrayOf_alike hZ.alike Ar1.2.1) (g := (mkF m 2 #[.val (.ref t1), .val (.int (Int32.ofNat len))] [(.ref t1), (.int (Int32.ofNat len))])) rfl rfl (hb hby d12_2) _ kq))) ?_
  rw [show c1.slots.size.toInt32 = Int32.ofNat n from by rw [hsz1] <;> rfl]
  refine own_to s₁ (mkF m 8 #[.val (.ref t1), .val (.int (Int32.ofNat len))] [(.int (((((Int32.ofNat len) - (Int32.ofNat n)).toUInt32 >>> ((31 : Int32) &&& 31).toUInt32).toInt32).toInt8.toInt32))]) (fun tq kq => XS.isub X0.here hx rfl (hb hby d12_3) rfl (XS.bipush X0.here hx rfl (hb hby d12_4) (XS.iushr X0.here hx rfl (hb hby d12_6) rfl (XS.i2b X0.here hx rfl (hb hby d12_7) rfl kq)))) ?_
  rw [show (((((Int32.ofNat len) - (Int32.ofNat n)).toUInt32 >>> ((31 : Int32) &&& 31).toUInt32).toInt32).toInt8.toInt32) = y from hy]
  exact own_retB X0 hx hret hlk (hb hby d12_8) (by decide) (by decide) hyb ⟨rfl, (Fr.nil n0), e0⟩
theorem d3_0 : decode jdk_42_method_149_code 0 = .ok (.aload_n 0, 1) := by decide +kernel
theorem d3_1 : decode jdk_42_method_149_code 1 = .ok (.invokespecial 1, 3) := by decide +kernel
theorem d3_4 : decode jdk_42_method_149_code 4 = .ok (.iload_n 3, 1) := by decide +kernel
theorem d3_5 : decode jdk_42_method_149_code 5 = .ok (.ifCond .ne 22, 3) := by decide +kernel
theorem d3_8 : decode jdk_42_method_149_code 8 = .ok (.aload_n 0, 1) := by decide +kernel
theorem d3_9 : decode jdk_42_method_149_code 9 = .ok (.ldc 7, 2) := by decide +kernel
theorem d3_11 : decode jdk_42_method_149_code 11 = .ok (.getfield 9, 3) := by decide +kernel
theorem d3_14 : decode jdk_42_method_149_code 14 = .ok (.putfield 9, 3) := by decide +kernel
theorem d3_17 : decode jdk_42_method_149_code 17 = .ok (.aload_n 0, 1) := by decide +kernel
theorem d3_18 : decode jdk_42_method_149_code 18 = .ok (.ldc 7, 2) := by decide +kernel
theorem d3_20 : decode jdk_42_method_149_code 20 = .ok (.getfield 15, 3) := by decide +kernel
theorem d3_23 : decode jdk_42_method_149_code 23 = .ok (.putfield 15, 3) := by decide +kernel
theorem d3_26 : decode jdk_42_method_149_code 26 = .ok (.return_, 1) := by decide +kernel
theorem d3_27 : decode jdk_42_method_149_code 27 = .ok (.getstatic 38, 3) := by decide +kernel
theorem d3_30 : decode jdk_42_method_149_code 30 = .ok (.ifCond .eq 28, 3) := by decide +kernel
theorem d3_33 : decode jdk_42_method_149_code 33 = .ok (.aload_n 1, 1) := by decide +kernel
theorem d3_34 : decode jdk_42_method_149_code 34 = .ok (.iload_n 2, 1) := by decide +kernel
theorem d3_35 : decode jdk_42_method_149_code 35 = .ok (.iload_n 3, 1) := by decide +kernel
theorem d3_36 : decode jdk_42_method_149_code 36 = .ok (.invokestatic 177, 3) := by decide +kernel
theorem d3_39 : decode jdk_42_method_149_code 39 = .ok (.astore 5, 2) := by decide +kernel
theorem d3_41 : decode jdk_42_method_149_code 41 = .ok (.aload_n 0, 1) := by decide +kernel
theorem d3_42 : decode jdk_42_method_149_code 42 = .ok (.aload 5, 2) := by decide +kernel
theorem d3_44 : decode jdk_42_method_149_code 44 = .ok (.iload_n 3, 1) := by decide +kernel
theorem d3_45 : decode jdk_42_method_149_code 45 = .ok (.invokestatic 47, 3) := by decide +kernel
theorem d3_48 : decode jdk_42_method_149_code 48 = .ok (.putfield 15, 3) := by decide +kernel
theorem d3_51 : decode jdk_42_method_149_code 51 = .ok (.aload_n 0, 1) := by decide +kernel
theorem d3_52 : decode jdk_42_method_149_code 52 = .ok (.aload 5, 2) := by decide +kernel
theorem d3_54 : decode jdk_42_method_149_code 54 = .ok (.putfield 9, 3) := by decide +kernel
theorem d3_57 : decode jdk_42_method_149_code 57 = .ok (.return_, 1) := by decide +kernel
theorem d3_58 : decode jdk_42_method_149_code 58 = .ok (.aload_n 0, 1) := by decide +kernel
theorem d3_59 : decode jdk_42_method_149_code 59 = .ok (.iconst 1, 1) := by decide +kernel
theorem d3_60 : decode jdk_42_method_149_code 60 = .ok (.putfield 15, 3) := by decide +kernel
theorem d3_63 : decode jdk_42_method_149_code 63 = .ok (.aload_n 0, 1) := by decide +kernel
theorem d3_64 : decode jdk_42_method_149_code 64 = .ok (.aload_n 1, 1) := by decide +kernel
theorem d3_65 : decode jdk_42_method_149_code 65 = .ok (.iload_n 2, 1) := by decide +kernel
theorem d3_66 : decode jdk_42_method_149_code 66 = .ok (.iload_n 3, 1) := by decide +kernel
theorem d3_67 : decode jdk_42_method_149_code 67 = .ok (.invokestatic 180, 3) := by decide +kernel
theorem d3_70 : decode jdk_42_method_149_code 70 = .ok (.putfield 9, 3) := by decide +kernel
theorem d3_73 : decode jdk_42_method_149_code 73 = .ok (.return_, 1) := by decide +kernel
theorem ef_3_RRIIRn (m : MethodId) (x0 : Addr) (x1 : Addr) (x2 : Int32) (x3 : Int32) : entryFrame m #[(.ref x0), (.ref x1), (.int x2), (.int x3), .null] 6 = mkF m 0 #[.val (.ref x0), .val (.ref x1), .val (.int x2), .val (.int x3), .val .null, .unset] [] := by first | (simp [entryFrame, mkF, argsToLocals, Value.category]; done) | rfl
def Q_rmN4 (Z : State) (x0 : Addr) (G1 : Int32) (a1 : Addr) (kk : ClassId) (va vb vc vd ve : Int32) (h0 : Heap) (n0 : Nat) (v : Option Value) (h : Heap) (L : List Loc) : Prop := v = none ∧ Fr n0 L ∧ Keep h0 h [x0] ∧ Exa Z h x0 "java/lang/String" ∧ Fld Z h x0 "java/lang/String" "coder" "B" (.int (1 : Int32)) ∧ ∃ t ff, Fld Z h x0 "java/lang/String" "value" "[B" (.ref t) ∧ h0.size ≤ t ∧ BArr Z h t 14 ff ∧ own_U ff 7 14 (own_c7 va vb vc vd ve)
theorem pd_10 : parseMethodDescriptor "([BI)B" = some ⟨[(.array .byte), .int], some .byte⟩ := by decide +kernel
theorem sn_value_coder {Z : State} {a0 : Array Value} (hw : ∀ d ∈ tables_1, d.before a0 Z = true) : Jvm.RoadKit.slotOf Z "java/lang/String" "value" "[B" ≠ Jvm.RoadKit.slotOf Z "java/lang/String" "coder" "B" := Jvm.RoadKit.slot_ne (a0 := a0) (Or.inr (own_w hw 55 rfl)) (Or.inr (own_w hw 53 rfl)) (by decide) (t := (.array .byte)) (t' := .byte) (by decide) (by decide)
theorem sn_coder_value {Z : State} {a0 : Array Value} (hw : ∀ d ∈ tables_1, d.before a0 Z = true) : Jvm.RoadKit.slotOf Z "java/lang/String" "coder" "B" ≠ Jvm.RoadKit.slotOf Z "java/lang/String" "value" "[B" := Jvm.RoadKit.slot_ne (a0 := a0) (Or.inr (own_w hw 53 rfl)) (Or.inr (own_w hw 55 rfl)) (by decide) (t := .byte) (t' := (.array .byte)) (by decide) (by decide)
set_option maxRecDepth 65536 in
set_option maxHeartbeats 40000000 in
theorem rmN4 (l : Launch) (Z : State) (a0 : Array Value) (hw : ∀ d ∈ tables_1, d.before a0 Z = true) (ws : List Jvm.Cond) (x0 : Addr) (G1 : Int32) (a1 : Addr) (kk : ClassId) (va vb vc vd ve : Int32) (h0 : Heap) (n0 : Nat) (Z0 : n0 ≤ h0.size) (O2 : Sta Z h0 "java/lang/String" "COMPACT_STRINGS" "Z" (.int G1)) (hG : ¬ G1 = (0 : Int32)) (OA : Sta Z h0 "java/lang/StringUTF16" "$assertionsDisabled" "Z" (.int (1 : Int32))) (OH : Sta Z h0 "java/lang/StringUTF16" "HI_BYTE_SHIFT" "I" (.int (0 : Int32))) (OL : Sta Z h0 "java/lang/StringUTF16" "LO_BYTE_SHIFT" "I" (.int (8 : Int32))) (Ea0 : Exa Z h0 x0 "java/lang/String") (F1 : Fld Z h0 x0 "java/lang/String" "value" "[B" .null) (F2 : Fld Z h0 x0 "java/lang/String" "coder" "B" (.int (0 : Int32))) (g_x0 : n0 ≤ x0) (Va1 : Arv Z h0 a1 kk .char (7 : Int32) [(.int va), (.int (257 : Int32)), (.int vb), (.int vc), (.int vd), (.int ve), (.int (256 : Int32))] (.int (0 : Int32))) (nxa : own_ne a1 x0) (hcva : ¬ va < (0 : Int32) ∧ ¬ (255 : Int32) < va) (hcvb : ¬ vb < (0 : Int32) ∧ ¬ (255 : Int32) < vb) (hcvc : ¬ vc < (0 : Int32) ∧ ¬ (255 : Int32) < vc) (hcvd : ¬ vd < (0 : Int32) ∧ ¬ (255 : Int32) < vd) (hcve : ¬ ve < (0 : Int32) ∧ ¬ (255 : Int32) < ve) :
    MetFree l (⟨"java/lang/String", "<init>", "([CIILjava/lang/Void;)V"⟩ : MethodName) (head1 (Jvm.Cond.code (⟨"java/lang/String", "<init>", "([CIILjava/lang/Void;)V"⟩ : MethodName) jdk_42_method_149_code 6 none :: ws) ({ frames := 4, cells := 2, slots := 21, locals := 100 } : Room)) (fun a U => a = #[(.ref x0), (.ref a1), (.int (0 : Int32)), (.int (7 : Int32)), .null] ∧ Z.Warmed39 U.vm ∧ U.heap = h0) (fun _ _ _ _ _ => True) (fun _ U o U' => ∃ v L, o = .returned v ∧ Q_rmN4 Z x0 G1 a1 kk va vb vc vd ve h0 n0 v U'.heap L ∧ FrameEnd U o U' L ({ frames := 4, cells := 2, slots := 21, locals := 100 } : Room).cells ({ frames := 4, cells := 2, slots := 21, locals := 100 } : Room).slots) := by
  refine own_met (y := (⟨"java/lang/String", "<init>", "([CIILjava/lang/Void;)V"⟩ : MethodName)) (Q := (Q_rmN4 Z x0 G1 a1 kk va vb vc vd ve h0 n0)) (plainFor_of_name pn_18) fun p e s m below meth c s₁ X0 hx hby hml hret hlk hown hnm hZ e0 => ?_
  refine own_entry (ef_3_RRIIRn m x0 a1 (0 : Int32) (7 : Int32)) ?_
  have K0 := Keep.refl h0 [x0]
  refine own_to s₁ (mkF m 1 #[.val (.ref x0), .val (.ref a1), .val (.int (0 : Int32)), .val (.int (7 : Int32)), .val .null, .unset] [(.ref x0)]) (fun tq kq => XS.aloadN X0.here hx rfl (hb hby d3_0) rfl rfl kq) ?_
  obtain ⟨T1, X1, e1, st1⟩ := initO X0 hx hZ hown (own_w hw 18 rfl) (own_w hw 19 rfl) (own_w hw 20 rfl) e0 (g := (mkF m 1 #[.val (.ref x0), .val (.ref a1), .val (.int (0 : Int32)), .val (.int (7 : Int32)), .val .null, .unset] [(.ref x0)])) rfl (by rw [hml]; rfl) rfl (hb hby d3_1) (by decide) (W := 0) (by show 2 * 0 + _ ≤ _; exact Nat.le_of_eq rfl) (by decide)
  refine own_to T1 (mkF m 27 #[.val (.ref x0), .val (.ref a1), .val (.int (0 : Int32)), .val (.int (7 : Int32)), .val .null, .unset] []) (fun tq kq => st1 _ (XS.iloadN X1.here hx rfl (hb hby d3_4) rfl (XS.ifYes X1.here hx rfl (pc0 := 5) (pc' := 27) rfl (hb hby d3_5) rfl ((if0 _ _).trans (feq (by decide : ¬ ((7 : Int32) = (0 : Int32)))).2) (by decide) (by decide) kq))) ?_
  obtain ⟨T2, X2, e2, st2⟩ := getS2 X1 hx hZ hown (host := "") (Or.inl (own_w hw 21 rfl)) Via.refl e1 O2 (g := (mkF m 27 #[.val (.ref x0), .val (.ref a1), .val (.int (0 : Int32)), .val (.int (7 : Int32)), .val .null, .unset] [])) rfl (hb hby d3_27)
  refine own_to T2 (mkF m 36 #[.val (.ref x0), .val (.ref a1), .val (.int (0 : Int32)), .val (.int (7 : Int32)), .val .null, .unset] [(.int (7 : Int32)), (.int (0 : Int32)), (.ref a1)]) (fun tq kq => st2 _ (XS.ifNo X2.here hx rfl (hb hby d3_30) rfl ((if0 _ _).trans (feq hG).1) (XS.aloadN X2.here hx rfl (hb hby d3_33) rfl rfl (XS.iloadN X2.here hx rfl (hb hby d3_34) rfl (XS.iloadN X2.here hx rfl (hb hby d3_35) rfl kq))))) ?_
  obtain ⟨_, _, ⟨T3, L3, k3, n3⟩, -, X3, ⟨Lc3, hQ3, l3, y3, z3⟩, st3⟩ := Jvm.LawKit.callS X2 hx (y := (⟨"java/lang/StringUTF16", "compress", "([CII)[B"⟩ : MethodName)) hown (mvT hZ (own_w hw 22 rfl)) (mvT hZ (own_w hw 23 rfl)) (mvT hZ (own_w hw 24 rfl)) (mvT hZ (own_w hw 25 rfl)) (by decide) (backOf (W := 0) (rmK3 l Z a0 hw [] a1 kk va vb vc vd ve h0 n0 Z0 OA OH OL Va1 hcva hcvb hcvc hcvd hcve) hZ (own_w hw 25 rfl) (own_w hw 24 rfl) (by decide) (by decide)) (g := (mkF m 36 #[.val (.ref x0), .val (.ref a1), .val (.int (0 : Int32)), .val (.int (7 : Int32)), .val .null, .unset] [(.int (7 : Int32)), (.int (0 : Int32)), (.ref a1)])) rfl (by rw [hml]; rfl) (argsL := [(.ref a1), (.int (0 : Int32)), (.int (7 : Int32))]) (rest := []) (lenOf pd_4 rfl) rfl (by show 2 * 0 + _ ≤ _; exact Nat.le_of_eq rfl) (hb hby d3_36) (fun _ _ => ⟨rfl, e2, (by decide : 0 + 2 ≤ _), (by decide : 0 + 21 ≤ _)⟩)
  dsimp only [Pt.U, Pt.locs, Pt.cells, Pt.slots] at X3 l3 y3 z3 st3 hQ3
  have l3y := l3.symm
  clear l3
  subst l3y
  obtain rfl : k3 = 2 := y3
  obtain rfl : n3 = 21 := z3
  obtain ⟨b3, rfl, N3q, K3q, hsr3, gb3, ff3, V3q, U3q⟩ := hQ3
  have N3 := Fr.app (Fr.nil n0) N3q
  have hs3 : h0.size ≤ b3 := Nat.le_trans K0.1 hsr3
  have ne_a1_b3 : own_ne a1 b3 := Nat.ne_of_lt (Nat.lt_of_lt_of_le Va1.lt hsr3)
  have ne_x0_b3 : own_ne x0 b3 := Nat.ne_of_lt (Nat.lt_of_lt_of_le Ea0.lt hsr3)
  have f4 := own_staK OA K3q
  have f5 := own_staK OH K3q
  have f6 := own_staK OL K3q
  have f7 := own_staK O2 K3q
  have f8 := Va1.keep K3q nin0
  have f9 := Ea0.keep K3q
  have f10 := F1.keep K3q nin0
  have f11 := F2.keep K3q nin0
  have Zs3 : n0 ≤ T3.heap.size := Nat.le_trans Z0 K3q.1
  have KK3 := K0.trans K3q all0
  refine own_to T3 (mkF m 45 #[.val (.ref x0), .val (.ref a1), .val (.int (0 : Int32)), .val (.int (7 : Int32)), .val .null, .val (.ref b3)] [(.int (7 : Int32)), (.ref b3), (.ref x0)]) (fun tq kq => st3 _ (XS.astore X3.here hx rfl (hb hby d3_39) rfl rfl (l' := #[.val (.ref x0), .val (.ref a1), .val (.int (0 : Int32)), .val (.int (7 : Int32)), .val .null, .val (.ref b3)]) rfl (XS.aloadN X3.here hx rfl (hb hby d3_41) rfl rfl (XS.aload X3.here hx rfl (hb hby d3_42) rfl rfl (XS.iloadN X3.here hx rfl (hb hby d3_44) rfl kq))))) ?_
  obtain ⟨_, _, ⟨T12, L12, k12, n12⟩, -, X12, ⟨Lc12, hQ12, l12, y12, z12⟩, st12⟩ := Jvm.LawKit.callS X3 hx (y := (⟨"java/lang/StringUTF16", "coderFromArrayLen", "([BI)B"⟩ : MethodName)) hown (mvT hZ (own_w hw 49 rfl)) (mvT hZ (own_w hw 50 rfl)) (mvT hZ (own_w hw 24 rfl)) (mvT hZ (own_w hw 51 rfl)) (by decide) (backOf (W := 1) (rmCodA l Z a0 hw [] b3 7 14 ff3 (1 : Int32) T3.heap n0 Zs3 V3q (by decide) (by decide)) hZ (own_w hw 51 rfl) (own_w hw 24 rfl) (by decide) (by decide)) (g := (mkF m 45 #[.val (.ref x0), .val (.ref a1), .val (.int (0 : Int32)), .val (.int (7 : Int32)), .val .null, .val (.ref b3)] [(.int (7 : Int32)), (.ref b3), (.ref x0)])) rfl (by rw [hml]; rfl) (argsL := [(.ref b3), (.int (7 : Int32))]) (rest := [(.ref x0)]) (lenOf pd_10 rfl) rfl (by show 2 * 0 + _ ≤ _; exact Nat.le_of_eq rfl) (hb hby d3_45) (fun _ _ => ⟨rfl, rfl, (by decide : 2 + 0 ≤ _), (by decide : 21 + 0 ≤ _)⟩)
  dsimp only [Pt.U, Pt.locs, Pt.cells, Pt.slots] at X12 l12 y12 z12 st12 hQ12
  have l12y := l12.symm
  clear l12
  subst l12y
  obtain rfl : k12 = 2 := y12
  obtain rfl : n12 = 21 := z12
  obtain ⟨rfl, N12q, e12⟩ := hQ12
  have N12 := Fr.app N3 N12q
  refine own_to T12 (mkF m 48 #[.val (.ref x0), .val (.ref a1), .val (.int (0 : Int32)), .val (.int (7 : Int32)), .val .null, .val (.ref b3)] [(.int (1 : Int32)), (.ref x0)]) (fun tq kq => st12 _ kq) ?_
  obtain ⟨T13, h13, X13, e13, W13, st13⟩ := putFN X12 hx hZ hown (own_w hw 52 rfl) Via.refl e12 f11 f9 (Or.inr ⟨(own_w hw 53 rfl), rfl, hnm⟩) (own_w hw 9 rfl) (ty := .byte) (v' := (.int (1 : Int32))) (by decide) rfl rfl (g := (mkF m 48 #[.val (.ref x0), .val (.ref a1), .val (.int (0 : Int32)), .val (.int (7 : Int32)), .val .null, .val (.ref b3)] [(.int (1 : Int32)), (.ref x0)])) rfl rfl (hb hby d3_48)
  have f14 := f4.wr W13
  have f15 := f5.wr W13
  have f16 := f6.wr W13
  have f17 := f7.wr W13
  have f18 := f8.other W13 nxa
  have f19 := f9.wr W13
  have f20 := f10.other W13 (Or.inr (sn_value_coder hw))
  have f21 := V3q.other W13 (Ne.symm ne_x0_b3)
  have f22 := f11.same W13
  have N13 := Fr.snoc X13 N12 g_x0
  have Zs13 : n0 ≤ h13.size := by rw [W13.size]; exact Zs3
  have K13 := KK3.wr W13 (Or.inl (List.mem_of_getElem? (i := 0) rfl))
  refine own_to T13 (mkF m 54 #[.val (.ref x0), .val (.ref a1), .val (.int (0 : Int32)), .val (.int (7 : Int32)), .val .null, .val (.ref b3)] [(.ref b3), (.ref x0)]) (fun tq kq => st13 _ (XS.aloadN X13.here hx rfl (hb hby d3_51) rfl rfl (XS.aload X13.here hx rfl (hb hby d3_52) rfl rfl kq))) ?_
  obtain ⟨T23, h23, X23, e23, W23, st23⟩ := putF X13 hx hZ hown (host := "") (Or.inl (own_w hw 54 rfl)) Via.refl e13 f20 f19 (Or.inr ⟨(own_w hw 55 rfl), rfl, hnm⟩) (own_w hw 9 rfl) (ty := (.array .byte)) (by decide) rfl rfl (g := (mkF m 54 #[.val (.ref x0), .val (.ref a1), .val (.int (0 : Int32)), .val (.int (7 : Int32)), .val .null, .val (.ref b3)] [(.ref b3), (.ref x0)])) rfl rfl (hb hby d3_54)
  have f24 := f14.wr W23
  have f25 := f15.wr W23
  have f26 := f16.wr W23
  have f27 := f17.wr W23
  have f28 := f18.other W23 nxa
  have f29 := f19.wr W23
  have f30 := f22.other W23 (Or.inr (sn_coder_value hw))
  have f31 := f21.other W23 (Ne.symm ne_x0_b3)
  have f32 := f20.same W23
  have N23 := Fr.snoc X23 N13 g_x0
  have Zs23 : n0 ≤ h23.size := by rw [W23.size]; exact Zs13
  have K23 := K13.wr W23 (Or.inl (List.mem_of_getElem? (i := 0) rfl))
  refine own_to T23 (mkF m 57 #[.val (.ref x0), .val (.ref a1), .val (.int (0 : Int32)), .val (.int (7 : Int32)), .val .null, .val (.ref b3)] []) (fun tq kq => st23 _ kq) ?_
  exact own_retV X23 hx hret hlk (hb hby d3_57) (by decide) (by decide) (by rw [e23]; exact ⟨rfl, N23, K23, f29, f30, b3, ff3, f32, hsr3, f31, U3q⟩)
theorem d2_0 : decode jdk_42_method_3_code 0 = .ok (.aload_n 0, 1) := by decide +kernel
theorem d2_1 : decode jdk_42_method_3_code 1 = .ok (.aload_n 1, 1) := by decide +kernel
theorem d2_2 : decode jdk_42_method_3_code 2 = .ok (.iconst 0, 1) := by decide +kernel
theorem d2_3 : decode jdk_42_method_3_code 3 = .ok (.aload_n 1, 1) := by decide +kernel
theorem d2_4 : decode jdk_42_method_3_code 4 = .ok (.arraylength, 1) := by decide +kernel
theorem d2_5 : decode jdk_42_method_3_code 5 = .ok (.aconst_null, 1) := by decide +kernel
theorem d2_6 : decode jdk_42_method_3_code 6 = .ok (.invokespecial 27, 3) := by decide +kernel
theorem d2_9 : decode jdk_42_method_3_code 9 = .ok (.return_, 1) := by decide +kernel
theorem ef_2_RR (m : MethodId) (x0 : Addr) (x1 : Addr) : entryFrame m #[(.ref x0), (.ref x1)] 2 = mkF m 0 #[.val (.ref x0), .val (.ref x1)] [] := by first | (simp [entryFrame, mkF, argsToLocals, Value.category]; done) | rfl
def Q_rmN1 (Z : State) (x0 : Addr) (G1 : Int32) (a1 : Addr) (kk : ClassId) (va vb vc vd ve : Int32) (h0 : Heap) (n0 : Nat) (v : Option Value) (h : Heap) (L : List Loc) : Prop := v = none ∧ Fr n0 L ∧ Keep h0 h [x0] ∧ Exa Z h x0 "java/lang/String" ∧ Fld Z h x0 "java/lang/String" "coder" "B" (.int (1 : Int32)) ∧ ∃ t ff, Fld Z h x0 "java/lang/String" "value" "[B" (.ref t) ∧ h0.size ≤ t ∧ BArr Z h t 14 ff ∧ own_U ff 7 14 (own_c7 va vb vc vd ve)
theorem pd_2 : parseMethodDescriptor "([CIILjava/lang/Void;)V" = some ⟨[(.array .char), .int, .int, (.object "java/lang/Void")], none⟩ := by decide +kernel
set_option maxRecDepth 65536 in
set_option maxHeartbeats 40000000 in
theorem rmN1 (l : Launch) (Z : State) (a0 : Array Value) (hw : ∀ d ∈ tables_1, d.before a0 Z = true) (ws : List Jvm.Cond) (x0 : Addr) (G1 : Int32) (a1 : Addr) (kk : ClassId) (va vb vc vd ve : Int32) (h0 : Heap) (n0 : Nat) (Z0 : n0 ≤ h0.size) (O2 : Sta Z h0 "java/lang/String" "COMPACT_STRINGS" "Z" (.int G1)) (hG : ¬ G1 = (0 : Int32)) (OA : Sta Z h0 "java/lang/StringUTF16" "$assertionsDisabled" "Z" (.int (1 : Int32))) (OH : Sta Z h0 "java/lang/StringUTF16" "HI_BYTE_SHIFT" "I" (.int (0 : Int32))) (OL : Sta Z h0 "java/lang/StringUTF16" "LO_BYTE_SHIFT" "I" (.int (8 : Int32))) (Ea0 : Exa Z h0 x0 "java/lang/String") (F1 : Fld Z h0 x0 "java/lang/String" "value" "[B" .null) (F2 : Fld Z h0 x0 "java/lang/String" "coder" "B" (.int (0 : Int32))) (g_x0 : n0 ≤ x0) (Va1 : Arv Z h0 a1 kk .char (7 : Int32) [(.int va), (.int (257 : Int32)), (.int vb), (.int vc), (.int vd), (.int ve), (.int (256 : Int32))] (.int (0 : Int32))) (nxa : own_ne a1 x0) (hcva : ¬ va < (0 : Int32) ∧ ¬ (255 : Int32) < va) (hcvb : ¬ vb < (0 : Int32) ∧ ¬ (255 : Int32) < vb) (hcvc : ¬ vc < (0 : Int32) ∧ ¬ (255 : Int32) < vc) (hcvd : ¬ vd < (0 : Int32) ∧ ¬ (255 : Int32) < vd) (hcve : ¬ ve < (0 : Int32) ∧ ¬ (255 : Int32) < ve) :
    MetFree l (⟨"java/lang/String", "<init>", "([C)V"⟩ : MethodName) (head1 (Jvm.Cond.code (⟨"java/lang/String", "<init>", "([C)V"⟩ : MethodName) jdk_42_method_3_code 2 none :: ws) ({ frames := 5, cells := 2, slots := 21, locals := 130 } : Room)) (fun a U => a = #[(.ref x0), (.ref a1)] ∧ Z.Warmed39 U.vm ∧ U.heap = h0) (fun _ _ _ _ _ => True) (fun _ U o U' => ∃ v L, o = .returned v ∧ Q_rmN1 Z x0 G1 a1 kk va vb vc vd ve h0 n0 v U'.heap L ∧ FrameEnd U o U' L ({ frames := 5, cells := 2, slots := 21, locals := 130 } : Room).cells ({ frames := 5, cells := 2, slots := 21, locals := 130 } : Room).slots) := by
  refine own_met (y := (⟨"java/lang/String", "<init>", "([C)V"⟩ : MethodName)) (Q := (Q_rmN1 Z x0 G1 a1 kk va vb vc vd ve h0 n0)) (plainFor_of_name pn_18) fun p e s m below meth c s₁ X0 hx hby hml hret hlk hown hnm hZ e0 => ?_
  refine own_entry (ef_2_RR m x0 a1) ?_
  obtain ⟨cv, Av, qv, Sv, Mv, Hv, Uv⟩ := id Va1
  have K0 := Keep.refl h0 [x0]
  refine own_to s₁ (mkF m 5 #[.val (.ref x0), .val (.ref a1)] [(.int (cv.slots.size.toInt32)), (.int (0 : Int32)), (.ref a1), (.ref x0)]) (fun tq kq => XS.aloadN X0.here hx rfl (hb hby d2_0) rfl rfl (XS.aloadN X0.here hx rfl (hb hby d2_1) rfl rfl (XS.iconst X0.here hx rfl (hb hby d2_2) (XS.aloadN X0.here hx rfl (hb hby d2_3) rfl rfl (X0.arraylength hx (by rw [e0]; exact Av.1) (State.isArrayOf_alike hZ.alike Av.2.1) (g := (mkF m 4 #[.val (.ref x0), .val (.ref a1)] [(.ref a1), (.int (0 : Int32)), (.ref a1), (.ref x0)])) rfl rfl (hb hby d2_4) _ kq))))) ?_
  rw [show cv.slots.size.toInt32 = (7 : Int32) from len_of Sv Mv]
  refine own_to s₁ (mkF m 6 #[.val (.ref x0), .val (.ref a1)] [.null, (.int (7 : Int32)), (.int (0 : Int32)), (.ref a1), (.ref x0)]) (fun tq kq => XS.aconstNull X0.here hx rfl (hb hby d2_5) kq) ?_
  obtain ⟨_, _, ⟨T1, L1, k1, n1⟩, -, X1, ⟨Lc1, hQ1, l1, y1, z1⟩, st1⟩ := X0.specialBack hx (y := (⟨"java/lang/String", "<init>", "([CIILjava/lang/Void;)V"⟩ : MethodName)) rfl hown (mvT hZ (own_w hw 14 rfl)) (mvT hZ (own_w hw 15 rfl)) (mvT hZ (own_w hw 17 rfl)) (by decide) (backOf (W := 0) (rmN4 l Z a0 hw [] x0 G1 a1 kk va vb vc vd ve h0 n0 Z0 O2 hG OA OH OL Ea0 F1 F2 g_x0 Va1 nxa hcva hcvb hcvc hcvd hcve) hZ (own_w hw 17 rfl) (own_w hw 10 rfl) (by decide) (by decide)) (g := (mkF m 6 #[.val (.ref x0), .val (.ref a1)] [.null, (.int (7 : Int32)), (.int (0 : Int32)), (.ref a1), (.ref x0)])) rfl (by rw [hml]; rfl) (Steps.refl _) (a := x0) (argsL := [(.ref a1), (.int (0 : Int32)), (.int (7 : Int32)), .null]) (rest := []) (lenOf pd_2 rfl) rfl (by show 2 * 0 + _ ≤ _; exact Nat.le_of_eq rfl) (hb hby d2_6) (fun _ _ => ⟨rfl, e0, (by decide : 0 + 2 ≤ _), (by decide : 0 + 21 ≤ _)⟩)
  dsimp only [Pt.U, Pt.locs, Pt.cells, Pt.slots] at X1 l1 y1 z1 st1 hQ1
  have l1y := l1.symm
  clear l1
  subst l1y
  obtain rfl : k1 = 2 := y1
  obtain rfl : n1 = 21 := z1
  obtain ⟨rfl, N1q, K1q, R1q⟩ := hQ1
  have N1 := Fr.app (Fr.nil n0) N1q
  have Zs1 : n0 ≤ T1.heap.size := Nat.le_trans Z0 K1q.1
  have KK1 := K0.trans K1q (allS (Or.inl (List.mem_of_getElem? (i := 0) rfl)) all0)
  refine own_to T1 (mkF m 9 #[.val (.ref x0), .val (.ref a1)] []) (fun tq kq => st1.trans kq) ?_
  exact own_retV X1 hx hret hlk (hb hby d2_9) (by decide) (by decide) ⟨rfl, N1, KK1, R1q⟩
def Q_rmCod1 (Z : State) (a1 : Addr) (G1 : Int32) (h0 : Heap) (n0 : Nat) (v : Option Value) (h : Heap) (L : List Loc) : Prop := v = some (.int (1 : Int32)) ∧ Fr n0 L ∧ h = h0
set_option maxRecDepth 65536 in
set_option maxHeartbeats 40000000 in
theorem rmCod1 (l : Launch) (Z : State) (a0 : Array Value) (hw : ∀ d ∈ tables_1, d.before a0 Z = true) (ws : List Jvm.Cond) (a1 : Addr) (G1 : Int32) (h0 : Heap) (n0 : Nat) (Z0 : n0 ≤ h0.size) (O2 : Sta Z h0 "java/lang/String" "COMPACT_STRINGS" "Z" (.int G1)) (hG : ¬ G1 = (0 : Int32)) (F2 : Fld Z h0 a1 "java/lang/String" "coder" "B" (.int (1 : Int32))) :
    MetFree l (⟨"java/lang/String", "coder", "()B"⟩ : MethodName) (head1 (Jvm.Cond.code (⟨"java/lang/String", "coder", "()B"⟩ : MethodName) jdk_42_method_152_code 1 (some .byte) :: ws) ({ frames := 0, cells := 0, slots := 0, locals := 0 } : Room)) (fun a U => a = #[(.ref a1)] ∧ Z.Warmed39 U.vm ∧ U.heap = h0) (fun _ _ _ _ _ => True) (fun _ U o U' => ∃ v L, o = .returned v ∧ Q_rmCod1 Z a1 G1 h0 n0 v U'.heap L ∧ FrameEnd U o U' L ({ frames := 0, cells := 0, slots := 0, locals := 0 } : Room).cells ({ frames := 0, cells := 0, slots := 0, locals := 0 } : Room).slots) := by
  refine own_met (y := (⟨"java/lang/String", "coder", "()B"⟩ : MethodName)) (Q := (Q_rmCod1 Z a1 G1 h0 n0)) (plainFor_of_name pn_18) fun p e s m below meth c s₁ X0 hx hby hml hret hlk hown hnm hZ e0 => ?_
  refine own_entry (ef_18_R m a1) ?_
  obtain ⟨T1, X1, e1, st1⟩ := getS2 X0 hx hZ hown (host := "") (Or.inl (own_w hw 21 rfl)) Via.refl e0 O2 (g := (mkF m 0 #[.val (.ref a1)] [])) rfl (hb hby d18_0)
  refine own_to T1 (mkF m 7 #[.val (.ref a1)] [(.ref a1)]) (fun tq kq => st1 _ (XS.ifNo X1.here hx rfl (hb hby d18_3) rfl ((if0 _ _).trans (feq hG).1) (XS.aloadN X1.here hx rfl (hb hby d18_6) rfl rfl kq))) ?_
  obtain ⟨T2, X2, e2, st2⟩ := getF X1 hx hZ hown (host := "") (Or.inl (own_w hw 52 rfl)) Via.refl e1 F2 (g := (mkF m 7 #[.val (.ref a1)] [(.ref a1)])) rfl rfl (hb hby d18_7)
  refine own_to T2 (mkF m 14 #[.val (.ref a1)] [(.int (1 : Int32))]) (fun tq kq => st2 _ (XS.goto X2.here hx rfl (pc0 := 10) (pc' := 14) rfl (hb hby d18_10) (by decide) (by decide) kq)) ?_
  exact own_retB X2 hx hret hlk (hb hby d18_14) (by decide) (by decide) rfl ⟨rfl, (Fr.nil n0), e2⟩
def Q_rmLen1 (Z : State) (a1 t1 : Addr) (n : Nat) (f : Nat → Int32) (G1 : Int32) (h0 : Heap) (n0 : Nat) (v : Option Value) (h : Heap) (L : List Loc) : Prop := v = some (.int (Int32.ofNat n)) ∧ Fr n0 L ∧ h = h0
set_option maxRecDepth 65536 in
set_option maxHeartbeats 40000000 in
theorem rmLen1 (l : Launch) (Z : State) (a0 : Array Value) (hw : ∀ d ∈ tables_1, d.before a0 Z = true) (ws : List Jvm.Cond) (a1 t1 : Addr) (n : Nat) (f : Nat → Int32) (G1 : Int32) (h0 : Heap) (n0 : Nat) (Z0 : n0 ≤ h0.size) (O2 : Sta Z h0 "java/lang/String" "COMPACT_STRINGS" "Z" (.int G1)) (hG : ¬ G1 = (0 : Int32)) (E1 : Exa Z h0 a1 "java/lang/String") (F1 : Fld Z h0 a1 "java/lang/String" "value" "[B" (.ref t1)) (F2 : Fld Z h0 a1 "java/lang/String" "coder" "B" (.int (1 : Int32))) (A1 : BArr Z h0 t1 (2 * n) f) (hn : n < 100) :
    MetFree l (⟨"java/lang/String", "length", "()I"⟩ : MethodName) (head1 (Jvm.Cond.code (⟨"java/lang/String", "length", "()I"⟩ : MethodName) jdk_42_method_54_code 1 (some .int) :: ws) ({ frames := 1, cells := 0, slots := 0, locals := 13 } : Room)) (fun a U => a = #[(.ref a1)] ∧ Z.Warmed39 U.vm ∧ U.heap = h0) (fun _ _ _ _ _ => True) (fun _ U o U' => ∃ v L, o = .returned v ∧ Q_rmLen1 Z a1 t1 n f G1 h0 n0 v U'.heap L ∧ FrameEnd U o U' L ({ frames := 1, cells := 0, slots := 0, locals := 13 } : Room).cells ({ frames := 1, cells := 0, slots := 0, locals := 13 } : Room).slots) := by
  refine own_met (y := (⟨"java/lang/String", "length", "()I"⟩ : MethodName)) (Q := (Q_rmLen1 Z a1 t1 n f G1 h0 n0)) (plainFor_of_name pn_18) fun p e s m below meth c s₁ X0 hx hby hml hret hlk hown hnm hZ e0 => ?_
  refine own_entry (ef_17_R m a1) ?_
  obtain ⟨c1, Ar1, hsz1, hat1⟩ := A1
  refine own_to s₁ (mkF m 1 #[.val (.ref a1)] [(.ref a1)]) (fun tq kq => XS.aloadN X0.here hx rfl (hb hby d17_0) rfl rfl kq) ?_
  obtain ⟨T1, X1, e1, st1⟩ := getF X0 hx hZ hown (host := "") (Or.inl (own_w hw 54 rfl)) Via.refl e0 F1 (g := (mkF m 1 #[.val (.ref a1)] [(.ref a1)])) rfl rfl (hb hby d17_1)
  refine own_to T1 (mkF m 5 #[.val (.ref a1)] [(.int (c1.slots.size.toInt32))]) (fun tq kq => st1 _ (X1.arraylength hx (by rw [e1]; exact Ar1.1) (State.isArrayOf_alike hZ.alike Ar1.2.1) (g := (mkF m 4 #[.val (.ref a1)] [(.ref t1)])) rfl rfl (hb hby d17_4) _ kq)) ?_
  rw [show c1.slots.size.toInt32 = Int32.ofNat (2 * n) from by rw [hsz1] <;> rfl]
  refine own_to T1 (mkF m 6 #[.val (.ref a1)] [(.ref a1), (.int (Int32.ofNat (2 * n)))]) (fun tq kq => XS.aloadN X1.here hx rfl (hb hby d17_5) rfl rfl kq) ?_
  obtain ⟨cq2, kq2, q2a, q2b, q2c⟩ := isOf hZ e1 E1
  obtain ⟨_, _, ⟨T2, L2, k2, n2⟩, -, X2, ⟨Lc2, hQ2, l2, y2, z2⟩, st2⟩ := X1.virtualBack hx (y := (⟨"java/lang/String", "coder", "()B"⟩ : MethodName)) (z := (⟨"java/lang/String", "coder", "()B"⟩ : MethodName)) hown (mvT hZ (own_w hw 84 rfl)) (mvT hZ (own_w hw 85 rfl)) (notFace_of_selects (args := #[]) (mvT hZ (own_w hw 87 rfl))) (mvT hZ (own_w hw 87 rfl)) (mvT hZ (own_w hw 86 rfl)) (by decide) (backOf (W := 1) (rmCod1 l Z a0 hw [] a1 G1 h0 n0 Z0 O2 hG F2) hZ (own_w hw 88 rfl) (own_w hw 10 rfl) (by decide) (by decide)) q2a q2c (g := (mkF m 6 #[.val (.ref a1)] [(.ref a1), (.int (Int32.ofNat (2 * n)))])) rfl (by rw [hml]; rfl) (Steps.refl _) (argsL := []) (rest := [(.int (Int32.ofNat (2 * n)))]) (lenOf pd_16 rfl) rfl (by show 2 * 0 + _ ≤ _; exact Nat.le_of_eq rfl) (hb hby d17_6) (fun _ _ => ⟨rfl, e1, (by decide : 0 + 0 ≤ _), (by decide : 0 + 0 ≤ _)⟩)
  dsimp only [Pt.U, Pt.locs, Pt.cells, Pt.slots] at X2 l2 y2 z2 st2 hQ2
  have l2y := l2.symm
  clear l2
  subst l2y
  obtain rfl : k2 = 0 := y2
  obtain rfl : n2 = 0 := z2
  obtain ⟨rfl, N2q, e2⟩ := hQ2
  have N2 := Fr.app (Fr.nil n0) N2q
  refine own_to T2 (mkF m 10 #[.val (.ref a1)] [(.int ((Int32.ofNat (2 * n)) >>> ((1 : Int32) &&& 31)))]) (fun tq kq => st2.trans (XS.ishr X2.here hx rfl (hb hby d17_9) rfl kq)) ?_
  rw [show ((Int32.ofNat (2 * n)) >>> ((1 : Int32) &&& 31)) = (Int32.ofNat n) from own_shr1 (by omega)]
  exact own_retI X2 hx hret hlk (hb hby d17_10) (by decide) (by decide) ⟨rfl, N2, e2⟩
def Q_rmLat1 (Z : State) (a1 : Addr) (G1 : Int32) (h0 : Heap) (n0 : Nat) (v : Option Value) (h : Heap) (L : List Loc) : Prop := v = some (.int (0 : Int32)) ∧ Fr n0 L ∧ h = h0
set_option maxRecDepth 65536 in
set_option maxHeartbeats 40000000 in
theorem rmLat1 (l : Launch) (Z : State) (a0 : Array Value) (hw : ∀ d ∈ tables_1, d.before a0 Z = true) (ws : List Jvm.Cond) (a1 : Addr) (G1 : Int32) (h0 : Heap) (n0 : Nat) (Z0 : n0 ≤ h0.size) (O2 : Sta Z h0 "java/lang/String" "COMPACT_STRINGS" "Z" (.int G1)) (hG : ¬ G1 = (0 : Int32)) (F2 : Fld Z h0 a1 "java/lang/String" "coder" "B" (.int (1 : Int32))) :
    MetFree l (⟨"java/lang/String", "isLatin1", "()Z"⟩ : MethodName) (head1 (Jvm.Cond.code (⟨"java/lang/String", "isLatin1", "()Z"⟩ : MethodName) jdk_42_method_154_code 1 (some .boolean) :: ws) ({ frames := 0, cells := 0, slots := 0, locals := 0 } : Room)) (fun a U => a = #[(.ref a1)] ∧ Z.Warmed39 U.vm ∧ U.heap = h0) (fun _ _ _ _ _ => True) (fun _ U o U' => ∃ v L, o = .returned v ∧ Q_rmLat1 Z a1 G1 h0 n0 v U'.heap L ∧ FrameEnd U o U' L ({ frames := 0, cells := 0, slots := 0, locals := 0 } : Room).cells ({ frames := 0, cells := 0, slots := 0, locals := 0 } : Room).slots) := by
  refine own_met (y := (⟨"java/lang/String", "isLatin1", "()Z"⟩ : MethodName)) (Q := (Q_rmLat1 Z a1 G1 h0 n0)) (plainFor_of_name pn_18) fun p e s m below meth c s₁ X0 hx hby hml hret hlk hown hnm hZ e0 => ?_
  refine own_entry (ef_16_R m a1) ?_
  obtain ⟨T1, X1, e1, st1⟩ := getS2 X0 hx hZ hown (host := "") (Or.inl (own_w hw 21 rfl)) Via.refl e0 O2 (g := (mkF m 0 #[.val (.ref a1)] [])) rfl (hb hby d16_0)
  refine own_to T1 (mkF m 7 #[.val (.ref a1)] [(.ref a1)]) (fun tq kq => st1 _ (XS.ifNo X1.here hx rfl (hb hby d16_3) rfl ((if0 _ _).trans (feq hG).1) (XS.aloadN X1.here hx rfl (hb hby d16_6) rfl rfl kq))) ?_
  obtain ⟨T2, X2, e2, st2⟩ := getF X1 hx hZ hown (host := "") (Or.inl (own_w hw 52 rfl)) Via.refl e1 F2 (g := (mkF m 7 #[.val (.ref a1)] [(.ref a1)])) rfl rfl (hb hby d16_7)
  refine own_to T2 (mkF m 18 #[.val (.ref a1)] [(.int (0 : Int32))]) (fun tq kq => st2 _ (XS.ifYes X2.here hx rfl (pc0 := 10) (pc' := 17) rfl (hb hby d16_10) rfl ((if0 _ _).trans (feq (by decide : ¬ ((1 : Int32) = (0 : Int32)))).2) (by decide) (by decide) (XS.iconst X2.here hx rfl (hb hby d16_17) kq))) ?_
  exact own_retZ X2 hx hret hlk (hb hby d16_18) (by decide) (by decide) (Or.inl rfl) ⟨rfl, (Fr.nil n0), e2⟩
theorem d24_0 : decode jdk_52_method_6_code 0 = .ok (.aload_n 0, 1) := by decide +kernel
theorem d24_1 : decode jdk_52_method_6_code 1 = .ok (.arraylength, 1) := by decide +kernel
theorem d24_2 : decode jdk_52_method_6_code 2 = .ok (.iconst 1, 1) := by decide +kernel
theorem d24_3 : decode jdk_52_method_6_code 3 = .ok (.ishr, 1) := by decide +kernel
theorem d24_4 : decode jdk_52_method_6_code 4 = .ok (.ireturn, 1) := by decide +kernel
theorem ef_24_R (m : MethodId) (x0 : Addr) : entryFrame m #[(.ref x0)] 1 = mkF m 0 #[.val (.ref x0)] [] := by first | (simp [entryFrame, mkF, argsToLocals, Value.category]; done) | rfl
def Q_rmUL (Z : State) (t1 : Addr) (n : Nat) (f : Nat → Int32) (h0 : Heap) (n0 : Nat) (v : Option Value) (h : Heap) (L : List Loc) : Prop := v = some (.int (Int32.ofNat n)) ∧ Fr n0 L ∧ h = h0
set_option maxRecDepth 65536 in
set_option maxHeartbeats 40000000 in
theorem rmUL (l : Launch) (Z : State) (a0 : Array Value) (hw : ∀ d ∈ tables_1, d.before a0 Z = true) (ws : List Jvm.Cond) (t1 : Addr) (n : Nat) (f : Nat → Int32) (h0 : Heap) (n0 : Nat) (Z0 : n0 ≤ h0.size) (A1 : BArr Z h0 t1 (2 * n) f) (hn : n < 100) :
    MetFree l (⟨"java/lang/StringUTF16", "length", "([B)I"⟩ : MethodName) (head1 (Jvm.Cond.code (⟨"java/lang/StringUTF16", "length", "([B)I"⟩ : MethodName) jdk_52_method_6_code 1 (some .int) :: ws) ({ frames := 0, cells := 0, slots := 0, locals := 0 } : Room)) (fun a U => a = #[(.ref t1)] ∧ Z.Warmed39 U.vm ∧ U.heap = h0) (fun _ _ _ _ _ => True) (fun _ U o U' => ∃ v L, o = .returned v ∧ Q_rmUL Z t1 n f h0 n0 v U'.heap L ∧ FrameEnd U o U' L ({ frames := 0, cells := 0, slots := 0, locals := 0 } : Room).cells ({ frames := 0, cells := 0, slots := 0, locals := 0 } : Room).slots) := by
  refine own_met (y := (⟨"java/lang/StringUTF16", "length", "([B)I"⟩ : MethodName)) (Q := (Q_rmUL Z t1 n f h0 n0)) (plainFor_of_name pn_11) fun p e s m below meth c s₁ X0 hx hby hml hret hlk hown hnm hZ e0 => ?_
  refine own_entry (ef_24_R m t1) ?_
  obtain ⟨c1, Ar1, hsz1, hat1⟩ := A1
  refine own_to s₁ (mkF m 2 #[.val (.ref t1)] [(.int (c1.slots.size.toInt32))]) (fun tq kq => XS.aloadN X0.here hx rfl (hb hby d24_0) rfl rfl (X0.arraylength hx (by rw [e0]; exact Ar1.1) (State.isArrayOf_alike hZ.alike Ar1.2.1) (g := (mkF m 1 #[.val (.ref t1)] [(.ref t1)])) rfl rfl (hb hby d24_1) _ kq)) ?_
  rw [show c1.slots.size.toInt32 = Int32.ofNat (2 * n) from by rw [hsz1] <;> rfl]
  refine own_to s₁ (mkF m 4 #[.val (.ref t1)] [(.int ((Int32.ofNat (2 * n)) >>> ((1 : Int32) &&& 31)))]) (fun tq kq => XS.iconst X0.here hx rfl (hb hby d24_2) (XS.ishr X0.here hx rfl (hb hby d24_3) rfl kq)) ?_
  rw [show ((Int32.ofNat (2 * n)) >>> ((1 : Int32) &&& 31)) = (Int32.ofNat n) from own_shr1 (by omega)]
  exact own_retI X0 hx hret hlk (hb hby d24_4) (by decide) (by decide) ⟨rfl, (Fr.nil n0), e0⟩
theorem d43_0 : decode jdk_41_method_11_code 0 = .ok (.iload_n 0, 1) := by decide +kernel
theorem d43_1 : decode jdk_41_method_11_code 1 = .ok (.ifCond .lt 8, 3) := by decide +kernel
theorem d43_4 : decode jdk_41_method_11_code 4 = .ok (.iload_n 0, 1) := by decide +kernel
theorem d43_5 : decode jdk_41_method_11_code 5 = .ok (.iload_n 1, 1) := by decide +kernel
theorem d43_6 : decode jdk_41_method_11_code 6 = .ok (.if_icmp .lt 10, 3) := by decide +kernel
theorem d43_9 : decode jdk_41_method_11_code 9 = .ok (.aload_n 2, 1) := by decide +kernel
theorem d43_10 : decode jdk_41_method_11_code 10 = .ok (.iload_n 0, 1) := by decide +kernel
theorem d43_11 : decode jdk_41_method_11_code 11 = .ok (.iload_n 1, 1) := by decide +kernel
theorem d43_12 : decode jdk_41_method_11_code 12 = .ok (.invokestatic 95, 3) := by decide +kernel
theorem d43_16 : decode jdk_41_method_11_code 16 = .ok (.iload_n 0, 1) := by decide +kernel
theorem d43_17 : decode jdk_41_method_11_code 17 = .ok (.ireturn, 1) := by decide +kernel
theorem pn_43 : plainName "jdk/internal/util/Preconditions" = true := by first | (simp [plainName, overriddenIn]; done) | decide +kernel
theorem ef_43_IIV (m : MethodId) (x0 : Int32) (x1 : Int32) (x2 : Value) (hx2 : x2.category = 1) : entryFrame m #[(.int x0), (.int x1), x2] 3 = mkF m 0 #[.val (.int x0), .val (.int x1), .val x2] [] := by first | (simp [entryFrame, mkF, argsToLocals, Value.category]; done) | rfl | (cases x2 <;> first | (cases hx2; done) | skip <;> rfl)
def Q_rmPC (Z : State) (i n : Nat) (vF : Value) (h0 : Heap) (n0 : Nat) (v : Option Value) (h : Heap) (L : List Loc) : Prop := v = some (.int (Int32.ofNat i)) ∧ Fr n0 L ∧ h = h0
set_option maxRecDepth 65536 in
set_option maxHeartbeats 40000000 in
theorem rmPC (l : Launch) (Z : State) (a0 : Array Value) (hw : ∀ d ∈ tables_1, d.before a0 Z = true) (ws : List Jvm.Cond) (i n : Nat) (vF : Value) (h0 : Heap) (n0 : Nat) (Z0 : n0 ≤ h0.size) (hvF : vF.isRef = true) (hi : i < n) (hn : n < 1000) :
    MetFree l (⟨"jdk/internal/util/Preconditions", "checkIndex", "(IILjava/util/function/BiFunction;)I"⟩ : MethodName) (head1 (Jvm.Cond.code (⟨"jdk/internal/util/Preconditions", "checkIndex", "(IILjava/util/function/BiFunction;)I"⟩ : MethodName) jdk_41_method_11_code 3 (some .int) :: ws) ({ frames := 0, cells := 0, slots := 0, locals := 0 } : Room)) (fun a U => a = #[(.int (Int32.ofNat i)), (.int (Int32.ofNat n)), vF] ∧ Z.Warmed39 U.vm ∧ U.heap = h0) (fun _ _ _ _ _ => True) (fun _ U o U' => ∃ v L, o = .returned v ∧ Q_rmPC Z i n vF h0 n0 v U'.heap L ∧ FrameEnd U o U' L ({ frames := 0, cells := 0, slots := 0, locals := 0 } : Room).cells ({ frames := 0, cells := 0, slots := 0, locals := 0 } : Room).slots) := by
  refine own_met (y := (⟨"jdk/internal/util/Preconditions", "checkIndex", "(IILjava/util/function/BiFunction;)I"⟩ : MethodName)) (Q := (Q_rmPC Z i n vF h0 n0)) (plainFor_of_name pn_43) fun p e s m below meth c s₁ X0 hx hby hml hret hlk hown hnm hZ e0 => ?_
  refine own_entry (ef_43_IIV m (Int32.ofNat i) (Int32.ofNat n) vF (own_cat1 hvF)) ?_
  refine own_to s₁ (mkF m 17 #[.val (.int (Int32.ofNat i)), .val (.int (Int32.ofNat n)), .val vF] [(.int (Int32.ofNat i))]) (fun tq kq => XS.iloadN X0.here hx rfl (hb hby d43_0) rfl (XS.ifNo X0.here hx rfl (hb hby d43_1) rfl ((if0 _ _).trans (flt (own_nonneg (by omega))).1) (XS.iloadN X0.here hx rfl (hb hby d43_4) rfl (XS.iloadN X0.here hx rfl (hb hby d43_5) rfl (XS.icmpYes X0.here hx rfl (pc0 := 6) (pc' := 16) rfl (hb hby d43_6) rfl (tlt ((own_ltn (by omega) (by omega)).mpr hi)).1 (by decide) (by decide) (XS.iloadN X0.here hx rfl (hb hby d43_16) rfl kq)))))) ?_
  exact own_retI X0 hx hret hlk (hb hby d43_17) (by decide) (by decide) ⟨rfl, (Fr.nil n0), e0⟩
theorem d42_0 : decode jdk_42_method_155_code 0 = .ok (.iload_n 0, 1) := by decide +kernel
theorem d42_1 : decode jdk_42_method_155_code 1 = .ok (.iload_n 1, 1) := by decide +kernel
theorem d42_2 : decode jdk_42_method_155_code 2 = .ok (.getstatic 1053, 3) := by decide +kernel
theorem d42_5 : decode jdk_42_method_155_code 5 = .ok (.invokestatic 1059, 3) := by decide +kernel
theorem d42_8 : decode jdk_42_method_155_code 8 = .ok (.pop, 1) := by decide +kernel
theorem d42_9 : decode jdk_42_method_155_code 9 = .ok (.return_, 1) := by decide +kernel
theorem ef_42_II (m : MethodId) (x0 : Int32) (x1 : Int32) : entryFrame m #[(.int x0), (.int x1)] 2 = mkF m 0 #[.val (.int x0), .val (.int x1)] [] := by first | (simp [entryFrame, mkF, argsToLocals, Value.category]; done) | rfl
def Q_rmCI (Z : State) (i n : Nat) (vF : Value) (h0 : Heap) (n0 : Nat) (v : Option Value) (h : Heap) (L : List Loc) : Prop := v = none ∧ Fr n0 L ∧ h = h0
theorem pd_31 : parseMethodDescriptor "(IILjava/util/function/BiFunction;)I" = some ⟨[.int, .int, (.object "java/util/function/BiFunction")], some .int⟩ := by decide +kernel
set_option maxRecDepth 65536 in
set_option maxHeartbeats 40000000 in
theorem rmCI (l : Launch) (Z : State) (a0 : Array Value) (hw : ∀ d ∈ tables_1, d.before a0 Z = true) (ws : List Jvm.Cond) (i n : Nat) (vF : Value) (h0 : Heap) (n0 : Nat) (Z0 : n0 ≤ h0.size) (O4 : Sta Z h0 "jdk/internal/util/Preconditions" "SIOOBE_FORMATTER" "Ljava/util/function/BiFunction;" vF) (hvF : vF.isRef = true) (hi : i < n) (hn : n < 1000) :
    MetFree l (⟨"java/lang/String", "checkIndex", "(II)V"⟩ : MethodName) (head1 (Jvm.Cond.code (⟨"java/lang/String", "checkIndex", "(II)V"⟩ : MethodName) jdk_42_method_155_code 2 none :: ws) ({ frames := 1, cells := 0, slots := 0, locals := 14 } : Room)) (fun a U => a = #[(.int (Int32.ofNat i)), (.int (Int32.ofNat n))] ∧ Z.Warmed39 U.vm ∧ U.heap = h0) (fun _ _ _ _ _ => True) (fun _ U o U' => ∃ v L, o = .returned v ∧ Q_rmCI Z i n vF h0 n0 v U'.heap L ∧ FrameEnd U o U' L ({ frames := 1, cells := 0, slots := 0, locals := 14 } : Room).cells ({ frames := 1, cells := 0, slots := 0, locals := 14 } : Room).slots) := by
  refine own_met (y := (⟨"java/lang/String", "checkIndex", "(II)V"⟩ : MethodName)) (Q := (Q_rmCI Z i n vF h0 n0)) (plainFor_of_name pn_18) fun p e s m below meth c s₁ X0 hx hby hml hret hlk hown hnm hZ e0 => ?_
  refine own_entry (ef_42_II m (Int32.ofNat i) (Int32.ofNat n)) ?_
  refine own_to s₁ (mkF m 2 #[.val (.int (Int32.ofNat i)), .val (.int (Int32.ofNat n))] [(.int (Int32.ofNat n)), (.int (Int32.ofNat i))]) (fun tq kq => XS.iloadN X0.here hx rfl (hb hby d42_0) rfl (XS.iloadN X0.here hx rfl (hb hby d42_1) rfl kq)) ?_
  obtain ⟨T1, X1, e1, st1⟩ := getS2 X0 hx hZ hown (host := "") (Or.inl (own_w hw 112 rfl)) Via.refl e0 O4 (g := (mkF m 2 #[.val (.int (Int32.ofNat i)), .val (.int (Int32.ofNat n))] [(.int (Int32.ofNat n)), (.int (Int32.ofNat i))])) rfl (hb hby d42_2)
  refine own_to T1 (mkF m 5 #[.val (.int (Int32.ofNat i)), .val (.int (Int32.ofNat n))] [vF, (.int (Int32.ofNat n)), (.int (Int32.ofNat i))]) (fun tq kq => st1 _ kq) ?_
  obtain ⟨_, _, ⟨T2, L2, k2, n2⟩, -, X2, ⟨Lc2, hQ2, l2, y2, z2⟩, st2⟩ := Jvm.LawKit.callS X1 hx (y := (⟨"jdk/internal/util/Preconditions", "checkIndex", "(IILjava/util/function/BiFunction;)I"⟩ : MethodName)) hown (mvT hZ (own_w hw 179 rfl)) (mvT hZ (own_w hw 180 rfl)) (mvT hZ (own_w hw 113 rfl)) (mvT hZ (own_w hw 181 rfl)) (by decide) (backOf (W := 0) (rmPC l Z a0 hw [] i n vF h0 n0 Z0 hvF hi hn) hZ (own_w hw 181 rfl) (own_w hw 113 rfl) (by decide) (by decide)) (g := (mkF m 5 #[.val (.int (Int32.ofNat i)), .val (.int (Int32.ofNat n))] [vF, (.int (Int32.ofNat n)), (.int (Int32.ofNat i))])) rfl (by rw [hml]; rfl) (argsL := [(.int (Int32.ofNat i)), (.int (Int32.ofNat n)), vF]) (rest := []) (lenOf pd_31 rfl) rfl (by show 2 * 0 + _ ≤ _; exact Nat.le_of_eq rfl) (hb hby d42_5) (fun _ _ => ⟨rfl, e1, (by decide : 0 + 0 ≤ _), (by decide : 0 + 0 ≤ _)⟩)
  dsimp only [Pt.U, Pt.locs, Pt.cells, Pt.slots] at X2 l2 y2 z2 st2 hQ2
  have l2y := l2.symm
  clear l2
  subst l2y
  obtain rfl : k2 = 0 := y2
  obtain rfl : n2 = 0 := z2
  obtain ⟨rfl, N2q, e2⟩ := hQ2
  have N2 := Fr.app (Fr.nil n0) N2q
  refine own_to T2 (mkF m 9 #[.val (.int (Int32.ofNat i)), .val (.int (Int32.ofNat n))] []) (fun tq kq => st2 _ (XS.pop X2.here hx rfl (hb hby d42_8) rfl rfl kq)) ?_
  exact own_retV X2 hx hret hlk (hb hby d42_9) (by decide) (by decide) ⟨rfl, N2, e2⟩
theorem d41_0 : decode jdk_52_method_91_code 0 = .ok (.iload_n 0, 1) := by decide +kernel
theorem d41_1 : decode jdk_52_method_91_code 1 = .ok (.aload_n 1, 1) := by decide +kernel
theorem d41_2 : decode jdk_52_method_91_code 2 = .ok (.invokestatic 48, 3) := by decide +kernel
theorem d41_5 : decode jdk_52_method_91_code 5 = .ok (.invokestatic 414, 3) := by decide +kernel
theorem d41_8 : decode jdk_52_method_91_code 8 = .ok (.return_, 1) := by decide +kernel
theorem ef_41_IR (m : MethodId) (x0 : Int32) (x1 : Addr) : entryFrame m #[(.int x0), (.ref x1)] 2 = mkF m 0 #[.val (.int x0), .val (.ref x1)] [] := by first | (simp [entryFrame, mkF, argsToLocals, Value.category]; done) | rfl
def Q_rmUCI (Z : State) (t1 : Addr) (i : Nat) (f : Nat → Int32) (vF : Value) (h0 : Heap) (n0 : Nat) (v : Option Value) (h : Heap) (L : List Loc) : Prop := v = none ∧ Fr n0 L ∧ h = h0
theorem pd_19 : parseMethodDescriptor "([B)I" = some ⟨[(.array .byte)], some .int⟩ := by decide +kernel
theorem pd_30 : parseMethodDescriptor "(II)V" = some ⟨[.int, .int], none⟩ := by decide +kernel
set_option maxRecDepth 65536 in
set_option maxHeartbeats 40000000 in
theorem rmUCI (l : Launch) (Z : State) (a0 : Array Value) (hw : ∀ d ∈ tables_1, d.before a0 Z = true) (ws : List Jvm.Cond) (t1 : Addr) (i : Nat) (f : Nat → Int32) (vF : Value) (h0 : Heap) (n0 : Nat) (Z0 : n0 ≤ h0.size) (O4 : Sta Z h0 "jdk/internal/util/Preconditions" "SIOOBE_FORMATTER" "Ljava/util/function/BiFunction;" vF) (hvF : vF.isRef = true) (A1 : BArr Z h0 t1 14 f) (hi : i < 7) :
    MetFree l (⟨"java/lang/StringUTF16", "checkIndex", "(I[B)V"⟩ : MethodName) (head1 (Jvm.Cond.code (⟨"java/lang/StringUTF16", "checkIndex", "(I[B)V"⟩ : MethodName) jdk_52_method_91_code 2 none :: ws) ({ frames := 2, cells := 0, slots := 0, locals := 30 } : Room)) (fun a U => a = #[(.int (Int32.ofNat i)), (.ref t1)] ∧ Z.Warmed39 U.vm ∧ U.heap = h0) (fun _ _ _ _ _ => True) (fun _ U o U' => ∃ v L, o = .returned v ∧ Q_rmUCI Z t1 i f vF h0 n0 v U'.heap L ∧ FrameEnd U o U' L ({ frames := 2, cells := 0, slots := 0, locals := 30 } : Room).cells ({ frames := 2, cells := 0, slots := 0, locals := 30 } : Room).slots) := by
  refine own_met (y := (⟨"java/lang/StringUTF16", "checkIndex", "(I[B)V"⟩ : MethodName)) (Q := (Q_rmUCI Z t1 i f vF h0 n0)) (plainFor_of_name pn_11) fun p e s m below meth c s₁ X0 hx hby hml hret hlk hown hnm hZ e0 => ?_
  refine own_entry (ef_41_IR m (Int32.ofNat i) t1) ?_
  refine own_to s₁ (mkF m 2 #[.val (.int (Int32.ofNat i)), .val (.ref t1)] [(.ref t1), (.int (Int32.ofNat i))]) (fun tq kq => XS.iloadN X0.here hx rfl (hb hby d41_0) rfl (XS.aloadN X0.here hx rfl (hb hby d41_1) rfl rfl kq)) ?_
  obtain ⟨_, _, ⟨T1, L1, k1, n1⟩, -, X1, ⟨Lc1, hQ1, l1, y1, z1⟩, st1⟩ := Jvm.LawKit.callS X0 hx (y := (⟨"java/lang/StringUTF16", "length", "([B)I"⟩ : MethodName)) hown (mvT hZ (own_w hw 106 rfl)) (mvT hZ (own_w hw 107 rfl)) (mvT hZ (own_w hw 24 rfl)) (mvT hZ (own_w hw 108 rfl)) (by decide) (backOf (W := 1) (rmUL l Z a0 hw [] t1 7 f h0 n0 Z0 A1 (by decide)) hZ (own_w hw 108 rfl) (own_w hw 24 rfl) (by decide) (by decide)) (g := (mkF m 2 #[.val (.int (Int32.ofNat i)), .val (.ref t1)] [(.ref t1), (.int (Int32.ofNat i))])) rfl (by rw [hml]; rfl) (argsL := [(.ref t1)]) (rest := [(.int (Int32.ofNat i))]) (lenOf pd_19 rfl) rfl (by show 2 * 0 + _ ≤ _; exact Nat.le_of_eq rfl) (hb hby d41_2) (fun _ _ => ⟨rfl, e0, (by decide : 0 + 0 ≤ _), (by decide : 0 + 0 ≤ _)⟩)
  dsimp only [Pt.U, Pt.locs, Pt.cells, Pt.slots] at X1 l1 y1 z1 st1 hQ1
  have l1y := l1.symm
  clear l1
  subst l1y
  obtain rfl : k1 = 0 := y1
  obtain rfl : n1 = 0 := z1
  obtain ⟨rfl, N1q, e1⟩ := hQ1
  have N1 := Fr.app (Fr.nil n0) N1q
  refine own_to T1 (mkF m 5 #[.val (.int (Int32.ofNat i)), .val (.ref t1)] [(.int (Int32.ofNat 7)), (.int (Int32.ofNat i))]) (fun tq kq => st1 _ kq) ?_
  obtain ⟨_, _, ⟨T2, L2, k2, n2⟩, -, X2, ⟨Lc2, hQ2, l2, y2, z2⟩, st2⟩ := Jvm.LawKit.callS X1 hx (y := (⟨"java/lang/String", "checkIndex", "(II)V"⟩ : MethodName)) hown (mvT hZ (own_w hw 176 rfl)) (mvT hZ (own_w hw 177 rfl)) (mvT hZ (own_w hw 10 rfl)) (mvT hZ (own_w hw 178 rfl)) (by decide) (backOf (W := 0) (rmCI l Z a0 hw [] i 7 vF h0 n0 Z0 O4 hvF hi (by decide)) hZ (own_w hw 178 rfl) (own_w hw 10 rfl) (by decide) (by decide)) (g := (mkF m 5 #[.val (.int (Int32.ofNat i)), .val (.ref t1)] [(.int (Int32.ofNat 7)), (.int (Int32.ofNat i))])) rfl (by rw [hml]; rfl) (argsL := [(.int (Int32.ofNat i)), (.int (Int32.ofNat 7))]) (rest := []) (lenOf pd_30 rfl) rfl (by show 2 * 0 + _ ≤ _; exact Nat.le_of_eq rfl) (hb hby d41_5) (fun _ _ => ⟨rfl, e1, (by decide : 0 + 0 ≤ _), (by decide : 0 + 0 ≤ _)⟩)
  dsimp only [Pt.U, Pt.locs, Pt.cells, Pt.slots] at X2 l2 y2 z2 st2 hQ2
  have l2y := l2.symm
  clear l2
  subst l2y
  obtain rfl : k2 = 0 := y2
  obtain rfl : n2 = 0 := z2
  obtain ⟨rfl, N2q, e2⟩ := hQ2
  have N2 := Fr.app N1 N2q
  refine own_to T2 (mkF m 8 #[.val (.int (Int32.ofNat i)), .val (.ref t1)] []) (fun tq kq => st2 _ kq) ?_
  exact own_retV X2 hx hret hlk (hb hby d41_8) (by decide) (by decide) ⟨rfl, N2, e2⟩
theorem d40_0 : decode jdk_52_method_83_code 0 = .ok (.iload_n 1, 1) := by decide +kernel
theorem d40_1 : decode jdk_52_method_83_code 1 = .ok (.aload_n 0, 1) := by decide +kernel
theorem d40_2 : decode jdk_52_method_83_code 2 = .ok (.invokestatic 67, 3) := by decide +kernel
theorem d40_5 : decode jdk_52_method_83_code 5 = .ok (.aload_n 0, 1) := by decide +kernel
theorem d40_6 : decode jdk_52_method_83_code 6 = .ok (.iload_n 1, 1) := by decide +kernel
theorem d40_7 : decode jdk_52_method_83_code 7 = .ok (.invokestatic 71, 3) := by decide +kernel
theorem d40_10 : decode jdk_52_method_83_code 10 = .ok (.ireturn, 1) := by decide +kernel
theorem ef_40_RI (m : MethodId) (x0 : Addr) (x1 : Int32) : entryFrame m #[(.ref x0), (.int x1)] 2 = mkF m 0 #[.val (.ref x0), .val (.int x1)] [] := by first | (simp [entryFrame, mkF, argsToLocals, Value.category]; done) | rfl
def Q_rmUCh (Z : State) (t1 : Addr) (i : Nat) (f cc : Nat → Int32) (vF : Value) (h0 : Heap) (n0 : Nat) (v : Option Value) (h : Heap) (L : List Loc) : Prop := v = some (.int (cc i)) ∧ Fr n0 L ∧ h = h0
theorem pd_29 : parseMethodDescriptor "(I[B)V" = some ⟨[.int, (.array .byte)], none⟩ := by decide +kernel
set_option maxRecDepth 65536 in
set_option maxHeartbeats 40000000 in
theorem rmUCh (l : Launch) (Z : State) (a0 : Array Value) (hw : ∀ d ∈ tables_1, d.before a0 Z = true) (ws : List Jvm.Cond) (t1 : Addr) (i : Nat) (f cc : Nat → Int32) (vF : Value) (h0 : Heap) (n0 : Nat) (Z0 : n0 ≤ h0.size) (O4 : Sta Z h0 "jdk/internal/util/Preconditions" "SIOOBE_FORMATTER" "Ljava/util/function/BiFunction;" vF) (hvF : vF.isRef = true) (OA : Sta Z h0 "java/lang/StringUTF16" "$assertionsDisabled" "Z" (.int (1 : Int32))) (OH : Sta Z h0 "java/lang/StringUTF16" "HI_BYTE_SHIFT" "I" (.int (0 : Int32))) (OL : Sta Z h0 "java/lang/StringUTF16" "LO_BYTE_SHIFT" "I" (.int (8 : Int32))) (A1 : BArr Z h0 t1 14 f) (hu : own_U f 7 14 cc) (hi : i < 7) :
    MetFree l (⟨"java/lang/StringUTF16", "charAt", "([BI)C"⟩ : MethodName) (head1 (Jvm.Cond.code (⟨"java/lang/StringUTF16", "charAt", "([BI)C"⟩ : MethodName) jdk_52_method_83_code 2 (some .char) :: ws) ({ frames := 3, cells := 0, slots := 0, locals := 50 } : Room)) (fun a U => a = #[(.ref t1), (.int (Int32.ofNat i))] ∧ Z.Warmed39 U.vm ∧ U.heap = h0) (fun _ _ _ _ _ => True) (fun _ U o U' => ∃ v L, o = .returned v ∧ Q_rmUCh Z t1 i f cc vF h0 n0 v U'.heap L ∧ FrameEnd U o U' L ({ frames := 3, cells := 0, slots := 0, locals := 50 } : Room).cells ({ frames := 3, cells := 0, slots := 0, locals := 50 } : Room).slots) := by
  refine own_met (y := (⟨"java/lang/StringUTF16", "charAt", "([BI)C"⟩ : MethodName)) (Q := (Q_rmUCh Z t1 i f cc vF h0 n0)) (plainFor_of_name pn_11) fun p e s m below meth c s₁ X0 hx hby hml hret hlk hown hnm hZ e0 => ?_
  refine own_entry (ef_40_RI m t1 (Int32.ofNat i)) ?_
  refine own_to s₁ (mkF m 2 #[.val (.ref t1), .val (.int (Int32.ofNat i))] [(.ref t1), (.int (Int32.ofNat i))]) (fun tq kq => XS.iloadN X0.here hx rfl (hb hby d40_0) rfl (XS.aloadN X0.here hx rfl (hb hby d40_1) rfl rfl kq)) ?_
  obtain ⟨_, _, ⟨T1, L1, k1, n1⟩, -, X1, ⟨Lc1, hQ1, l1, y1, z1⟩, st1⟩ := Jvm.LawKit.callS X0 hx (y := (⟨"java/lang/StringUTF16", "checkIndex", "(I[B)V"⟩ : MethodName)) hown (mvT hZ (own_w hw 173 rfl)) (mvT hZ (own_w hw 174 rfl)) (mvT hZ (own_w hw 24 rfl)) (mvT hZ (own_w hw 175 rfl)) (by decide) (backOf (W := 0) (rmUCI l Z a0 hw [] t1 i f vF h0 n0 Z0 O4 hvF A1 hi) hZ (own_w hw 175 rfl) (own_w hw 24 rfl) (by decide) (by decide)) (g := (mkF m 2 #[.val (.ref t1), .val (.int (Int32.ofNat i))] [(.ref t1), (.int (Int32.ofNat i))])) rfl (by rw [hml]; rfl) (argsL := [(.int (Int32.ofNat i)), (.ref t1)]) (rest := []) (lenOf pd_29 rfl) rfl (by show 2 * 0 + _ ≤ _; exact Nat.le_of_eq rfl) (hb hby d40_2) (fun _ _ => ⟨rfl, e0, (by decide : 0 + 0 ≤ _), (by decide : 0 + 0 ≤ _)⟩)
  dsimp only [Pt.U, Pt.locs, Pt.cells, Pt.slots] at X1 l1 y1 z1 st1 hQ1
  have l1y := l1.symm
  clear l1
  subst l1y
  obtain rfl : k1 = 0 := y1
  obtain rfl : n1 = 0 := z1
  obtain ⟨rfl, N1q, e1⟩ := hQ1
  have N1 := Fr.app (Fr.nil n0) N1q
  refine own_to T1 (mkF m 7 #[.val (.ref t1), .val (.int (Int32.ofNat i))] [(.int (Int32.ofNat i)), (.ref t1)]) (fun tq kq => st1 _ (XS.aloadN X1.here hx rfl (hb hby d40_5) rfl rfl (XS.iloadN X1.here hx rfl (hb hby d40_6) rfl kq))) ?_
  obtain ⟨_, _, ⟨T2, L2, k2, n2⟩, -, X2, ⟨Lc2, hQ2, l2, y2, z2⟩, st2⟩ := Jvm.LawKit.callS X1 hx (y := (⟨"java/lang/StringUTF16", "getChar", "([BI)C"⟩ : MethodName)) hown (mvT hZ (own_w hw 46 rfl)) (mvT hZ (own_w hw 47 rfl)) (mvT hZ (own_w hw 24 rfl)) (mvT hZ (own_w hw 48 rfl)) (by decide) (backOf (W := 0) (rmGC l Z a0 hw [] t1 i 14 f (cc i) h0 n0 Z0 OA OH OL A1 (by omega) (by decide) (hu.1 i hi)) hZ (own_w hw 48 rfl) (own_w hw 24 rfl) (by decide) (by decide)) (g := (mkF m 7 #[.val (.ref t1), .val (.int (Int32.ofNat i))] [(.int (Int32.ofNat i)), (.ref t1)])) rfl (by rw [hml]; rfl) (argsL := [(.ref t1), (.int (Int32.ofNat i))]) (rest := []) (lenOf pd_9 rfl) rfl (by show 2 * 0 + _ ≤ _; exact Nat.le_of_eq rfl) (hb hby d40_7) (fun _ _ => ⟨rfl, e1, (by decide : 0 + 0 ≤ _), (by decide : 0 + 0 ≤ _)⟩)
  dsimp only [Pt.U, Pt.locs, Pt.cells, Pt.slots] at X2 l2 y2 z2 st2 hQ2
  have l2y := l2.symm
  clear l2
  subst l2y
  obtain rfl : k2 = 0 := y2
  obtain rfl : n2 = 0 := z2
  obtain ⟨rfl, N2q, e2⟩ := hQ2
  have N2 := Fr.app N1 N2q
  refine own_to T2 (mkF m 10 #[.val (.ref t1), .val (.int (Int32.ofNat i))] [(.int (cc i))]) (fun tq kq => st2 _ kq) ?_
  exact own_retC X2 hx hret hlk (hb hby d40_10) (by decide) (by decide) (own_i2cc (hu.1 i hi)) ⟨rfl, N2, e2⟩
theorem d39_0 : decode jdk_42_method_56_code 0 = .ok (.aload_n 0, 1) := by decide +kernel
theorem d39_1 : decode jdk_42_method_56_code 1 = .ok (.invokevirtual 492, 3) := by decide +kernel
theorem d39_4 : decode jdk_42_method_56_code 4 = .ok (.ifCond .eq 12, 3) := by decide +kernel
theorem d39_7 : decode jdk_42_method_56_code 7 = .ok (.aload_n 0, 1) := by decide +kernel
theorem d39_8 : decode jdk_42_method_56_code 8 = .ok (.getfield 9, 3) := by decide +kernel
theorem d39_11 : decode jdk_42_method_56_code 11 = .ok (.iload_n 1, 1) := by decide +kernel
theorem d39_12 : decode jdk_42_method_56_code 12 = .ok (.invokestatic 495, 3) := by decide +kernel
theorem d39_15 : decode jdk_42_method_56_code 15 = .ok (.ireturn, 1) := by decide +kernel
theorem d39_16 : decode jdk_42_method_56_code 16 = .ok (.aload_n 0, 1) := by decide +kernel
theorem d39_17 : decode jdk_42_method_56_code 17 = .ok (.getfield 9, 3) := by decide +kernel
theorem d39_20 : decode jdk_42_method_56_code 20 = .ok (.iload_n 1, 1) := by decide +kernel
theorem d39_21 : decode jdk_42_method_56_code 21 = .ok (.invokestatic 498, 3) := by decide +kernel
theorem d39_24 : decode jdk_42_method_56_code 24 = .ok (.ireturn, 1) := by decide +kernel
theorem ef_39_RI (m : MethodId) (x0 : Addr) (x1 : Int32) : entryFrame m #[(.ref x0), (.int x1)] 2 = mkF m 0 #[.val (.ref x0), .val (.int x1)] [] := by first | (simp [entryFrame, mkF, argsToLocals, Value.category]; done) | rfl
def Q_rmCh1 (Z : State) (a2 t2 : Addr) (i : Nat) (f cc : Nat → Int32) (G1 : Int32) (vF : Value) (h0 : Heap) (n0 : Nat) (v : Option Value) (h : Heap) (L : List Loc) : Prop := v = some (.int (cc i)) ∧ Fr n0 L ∧ h = h0
theorem pd_14 : parseMethodDescriptor "()Z" = some ⟨[], some .boolean⟩ := by decide +kernel
set_option maxRecDepth 65536 in
set_option maxHeartbeats 40000000 in
theorem rmCh1 (l : Launch) (Z : State) (a0 : Array Value) (hw : ∀ d ∈ tables_1, d.before a0 Z = true) (ws : List Jvm.Cond) (a2 t2 : Addr) (i : Nat) (f cc : Nat → Int32) (G1 : Int32) (vF : Value) (h0 : Heap) (n0 : Nat) (Z0 : n0 ≤ h0.size) (O2 : Sta Z h0 "java/lang/String" "COMPACT_STRINGS" "Z" (.int G1)) (hG : ¬ G1 = (0 : Int32)) (O4 : Sta Z h0 "jdk/internal/util/Preconditions" "SIOOBE_FORMATTER" "Ljava/util/function/BiFunction;" vF) (hvF : vF.isRef = true) (OA : Sta Z h0 "java/lang/StringUTF16" "$assertionsDisabled" "Z" (.int (1 : Int32))) (OH : Sta Z h0 "java/lang/StringUTF16" "HI_BYTE_SHIFT" "I" (.int (0 : Int32))) (OL : Sta Z h0 "java/lang/StringUTF16" "LO_BYTE_SHIFT" "I" (.int (8 : Int32))) (Ea2 : Exa Z h0 a2 "java/lang/String") (Fa2 : Fld Z h0 a2 "java/lang/String" "value" "[B" (.ref t2)) (Ca2 : Fld Z h0 a2 "java/lang/String" "coder" "B" (.int (1 : Int32))) (Aa2 : BArr Z h0 t2 14 f) (hu : own_U f 7 14 cc) (hi : i < 7) :
    MetFree l (⟨"java/lang/String", "charAt", "(I)C"⟩ : MethodName) (head1 (Jvm.Cond.code (⟨"java/lang/String", "charAt", "(I)C"⟩ : MethodName) jdk_42_method_56_code 2 (some .char) :: ws) ({ frames := 4, cells := 0, slots := 0, locals := 70 } : Room)) (fun a U => a = #[(.ref a2), (.int (Int32.ofNat i))] ∧ Z.Warmed39 U.vm ∧ U.heap = h0) (fun _ _ _ _ _ => True) (fun _ U o U' => ∃ v L, o = .returned v ∧ Q_rmCh1 Z a2 t2 i f cc G1 vF h0 n0 v U'.heap L ∧ FrameEnd U o U' L ({ frames := 4, cells := 0, slots := 0, locals := 70 } : Room).cells ({ frames := 4, cells := 0, slots := 0, locals := 70 } : Room).slots) := by
  refine own_met (y := (⟨"java/lang/String", "charAt", "(I)C"⟩ : MethodName)) (Q := (Q_rmCh1 Z a2 t2 i f cc G1 vF h0 n0)) (plainFor_of_name pn_18) fun p e s m below meth c s₁ X0 hx hby hml hret hlk hown hnm hZ e0 => ?_
  refine own_entry (ef_39_RI m a2 (Int32.ofNat i)) ?_
  refine own_to s₁ (mkF m 1 #[.val (.ref a2), .val (.int (Int32.ofNat i))] [(.ref a2)]) (fun tq kq => XS.aloadN X0.here hx rfl (hb hby d39_0) rfl rfl kq) ?_
  obtain ⟨cq1, kq1, q1a, q1b, q1c⟩ := isOf hZ e0 Ea2
  obtain ⟨_, _, ⟨T1, L1, k1, n1⟩, -, X1, ⟨Lc1, hQ1, l1, y1, z1⟩, st1⟩ := X0.virtualBack hx (y := (⟨"java/lang/String", "isLatin1", "()Z"⟩ : MethodName)) (z := (⟨"java/lang/String", "isLatin1", "()Z"⟩ : MethodName)) hown (mvT hZ (own_w hw 74 rfl)) (mvT hZ (own_w hw 75 rfl)) (notFace_of_selects (args := #[]) (mvT hZ (own_w hw 77 rfl))) (mvT hZ (own_w hw 77 rfl)) (mvT hZ (own_w hw 76 rfl)) (by decide) (backOf (W := 0) (rmLat1 l Z a0 hw [] a2 G1 h0 n0 Z0 O2 hG Ca2) hZ (own_w hw 78 rfl) (own_w hw 10 rfl) (by decide) (by decide)) q1a q1c (g := (mkF m 1 #[.val (.ref a2), .val (.int (Int32.ofNat i))] [(.ref a2)])) rfl (by rw [hml]; rfl) (Steps.refl _) (argsL := []) (rest := []) (lenOf pd_14 rfl) rfl (by show 2 * 0 + _ ≤ _; exact Nat.le_of_eq rfl) (hb hby d39_1) (fun _ _ => ⟨rfl, e0, (by decide : 0 + 0 ≤ _), (by decide : 0 + 0 ≤ _)⟩)
  dsimp only [Pt.U, Pt.locs, Pt.cells, Pt.slots] at X1 l1 y1 z1 st1 hQ1
  have l1y := l1.symm
  clear l1
  subst l1y
  obtain rfl : k1 = 0 := y1
  obtain rfl : n1 = 0 := z1
  obtain ⟨rfl, N1q, e1⟩ := hQ1
  have N1 := Fr.app (Fr.nil n0) N1q
  refine own_to T1 (mkF m 17 #[.val (.ref a2), .val (.int (Int32.ofNat i))] [(.ref a2)]) (fun tq kq => st1.trans (XS.ifYes X1.here hx rfl (pc0 := 4) (pc' := 16) rfl (hb hby d39_4) rfl ((if0 _ _).trans (teq (by decide : (0 : Int32) = (0 : Int32))).1) (by decide) (by decide) (XS.aloadN X1.here hx rfl (hb hby d39_16) rfl rfl kq))) ?_
  obtain ⟨T2, X2, e2, st2⟩ := getF X1 hx hZ hown (host := "") (Or.inl (own_w hw 54 rfl)) Via.refl e1 Fa2 (g := (mkF m 17 #[.val (.ref a2), .val (.int (Int32.ofNat i))] [(.ref a2)])) rfl rfl (hb hby d39_17)
  refine own_to T2 (mkF m 21 #[.val (.ref a2), .val (.int (Int32.ofNat i))] [(.int (Int32.ofNat i)), (.ref t2)]) (fun tq kq => st2 _ (XS.iloadN X2.here hx rfl (hb hby d39_20) rfl kq)) ?_
  obtain ⟨_, _, ⟨T3, L3, k3, n3⟩, -, X3, ⟨Lc3, hQ3, l3, y3, z3⟩, st3⟩ := Jvm.LawKit.callS X2 hx (y := (⟨"java/lang/StringUTF16", "charAt", "([BI)C"⟩ : MethodName)) hown (mvT hZ (own_w hw 170 rfl)) (mvT hZ (own_w hw 171 rfl)) (mvT hZ (own_w hw 24 rfl)) (mvT hZ (own_w hw 172 rfl)) (by decide) (backOf (W := 0) (rmUCh l Z a0 hw [] t2 i f cc vF h0 n0 Z0 O4 hvF OA OH OL Aa2 hu hi) hZ (own_w hw 172 rfl) (own_w hw 24 rfl) (by decide) (by decide)) (g := (mkF m 21 #[.val (.ref a2), .val (.int (Int32.ofNat i))] [(.int (Int32.ofNat i)), (.ref t2)])) rfl (by rw [hml]; rfl) (argsL := [(.ref t2), (.int (Int32.ofNat i))]) (rest := []) (lenOf pd_9 rfl) rfl (by show 2 * 0 + _ ≤ _; exact Nat.le_of_eq rfl) (hb hby d39_21) (fun _ _ => ⟨rfl, e2, (by decide : 0 + 0 ≤ _), (by decide : 0 + 0 ≤ _)⟩)
  dsimp only [Pt.U, Pt.locs, Pt.cells, Pt.slots] at X3 l3 y3 z3 st3 hQ3
  have l3y := l3.symm
  clear l3
  subst l3y
  obtain rfl : k3 = 0 := y3
  obtain rfl : n3 = 0 := z3
  obtain ⟨rfl, N3q, e3⟩ := hQ3
  have N3 := Fr.app N1 N3q
  refine own_to T3 (mkF m 24 #[.val (.ref a2), .val (.int (Int32.ofNat i))] [(.int (cc i))]) (fun tq kq => st3 _ kq) ?_
  exact own_retC X3 hx hret hlk (hb hby d39_24) (by decide) (by decide) (own_i2cc (hu.1 i hi)) ⟨rfl, N3, e3⟩
theorem d20_0 : decode jdk_29_method_65_code 0 = .ok (.iload_n 0, 1) := by decide +kernel
theorem d20_1 : decode jdk_29_method_65_code 1 = .ok (.iload_n 1, 1) := by decide +kernel
theorem d20_2 : decode jdk_29_method_65_code 2 = .ok (.if_icmp .lt 7, 3) := by decide +kernel
theorem d20_5 : decode jdk_29_method_65_code 5 = .ok (.iload_n 0, 1) := by decide +kernel
theorem d20_6 : decode jdk_29_method_65_code 6 = .ok (.goto 4, 3) := by decide +kernel
theorem d20_9 : decode jdk_29_method_65_code 9 = .ok (.iload_n 1, 1) := by decide +kernel
theorem d20_10 : decode jdk_29_method_65_code 10 = .ok (.ireturn, 1) := by decide +kernel
theorem ef_20_II (m : MethodId) (x0 : Int32) (x1 : Int32) : entryFrame m #[(.int x0), (.int x1)] 2 = mkF m 0 #[.val (.int x0), .val (.int x1)] [] := by first | (simp [entryFrame, mkF, argsToLocals, Value.category]; done) | rfl
def Q_rmMax (Z : State) (x0 x1 : Int32) (h0 : Heap) (n0 : Nat) (v : Option Value) (h : Heap) (L : List Loc) : Prop := v = some (.int x0) ∧ Fr n0 L ∧ h = h0
set_option maxRecDepth 65536 in
set_option maxHeartbeats 40000000 in
theorem rmMax (l : Launch) (Z : State) (a0 : Array Value) (hw : ∀ d ∈ tables_1, d.before a0 Z = true) (ws : List Jvm.Cond) (x0 x1 : Int32) (h0 : Heap) (n0 : Nat) (Z0 : n0 ≤ h0.size) (hp0 : ¬ x0 < x1) :
    MetFree l (⟨"java/lang/Math", "max", "(II)I"⟩ : MethodName) (head1 (Jvm.Cond.code (⟨"java/lang/Math", "max", "(II)I"⟩ : MethodName) jdk_29_method_65_code 2 (some .int) :: ws) ({ frames := 0, cells := 0, slots := 0, locals := 0 } : Room)) (fun a U => a = #[(.int x0), (.int x1)] ∧ Z.Warmed39 U.vm ∧ U.heap = h0) (fun _ _ _ _ _ => True) (fun _ U o U' => ∃ v L, o = .returned v ∧ Q_rmMax Z x0 x1 h0 n0 v U'.heap L ∧ FrameEnd U o U' L ({ frames := 0, cells := 0, slots := 0, locals := 0 } : Room).cells ({ frames := 0, cells := 0, slots := 0, locals := 0 } : Room).slots) := by
  refine own_met (y := (⟨"java/lang/Math", "max", "(II)I"⟩ : MethodName)) (Q := (Q_rmMax Z x0 x1 h0 n0)) (Jvm.Free.JP.mathPlain rfl (by decide +kernel)) fun p e s m below meth c s₁ X0 hx hby hml hret hlk hown hnm hZ e0 => ?_
  refine own_entry (ef_20_II m x0 x1) ?_
  refine own_to s₁ (mkF m 10 #[.val (.int x0), .val (.int x1)] [(.int x0)]) (fun tq kq => XS.iloadN X0.here hx rfl (hb hby d20_0) rfl (XS.iloadN X0.here hx rfl (hb hby d20_1) rfl (XS.icmpNo X0.here hx rfl (hb hby d20_2) rfl (flt hp0).1 (XS.iloadN X0.here hx rfl (hb hby d20_5) rfl (XS.goto X0.here hx rfl (pc0 := 6) (pc' := 10) rfl (hb hby d20_6) (by decide) (by decide) kq))))) ?_
  exact own_retI X0 hx hret hlk (hb hby d20_10) (by decide) (by decide) ⟨rfl, (Fr.nil n0), e0⟩
theorem d21_0 : decode jdk_29_method_69_code 0 = .ok (.iload_n 0, 1) := by decide +kernel
theorem d21_1 : decode jdk_29_method_69_code 1 = .ok (.iload_n 1, 1) := by decide +kernel
theorem d21_2 : decode jdk_29_method_69_code 2 = .ok (.if_icmp .gt 7, 3) := by decide +kernel
theorem d21_5 : decode jdk_29_method_69_code 5 = .ok (.iload_n 0, 1) := by decide +kernel
theorem d21_6 : decode jdk_29_method_69_code 6 = .ok (.goto 4, 3) := by decide +kernel
theorem d21_9 : decode jdk_29_method_69_code 9 = .ok (.iload_n 1, 1) := by decide +kernel
theorem d21_10 : decode jdk_29_method_69_code 10 = .ok (.ireturn, 1) := by decide +kernel
theorem ef_21_II (m : MethodId) (x0 : Int32) (x1 : Int32) : entryFrame m #[(.int x0), (.int x1)] 2 = mkF m 0 #[.val (.int x0), .val (.int x1)] [] := by first | (simp [entryFrame, mkF, argsToLocals, Value.category]; done) | rfl
def Q_rmMin (Z : State) (x0 x1 : Int32) (h0 : Heap) (n0 : Nat) (v : Option Value) (h : Heap) (L : List Loc) : Prop := v = some (.int x0) ∧ Fr n0 L ∧ h = h0
set_option maxRecDepth 65536 in
set_option maxHeartbeats 40000000 in
theorem rmMin (l : Launch) (Z : State) (a0 : Array Value) (hw : ∀ d ∈ tables_1, d.before a0 Z = true) (ws : List Jvm.Cond) (x0 x1 : Int32) (h0 : Heap) (n0 : Nat) (Z0 : n0 ≤ h0.size) (hp0 : ¬ x1 < x0) :
    MetFree l (⟨"java/lang/Math", "min", "(II)I"⟩ : MethodName) (head1 (Jvm.Cond.code (⟨"java/lang/Math", "min", "(II)I"⟩ : MethodName) jdk_29_method_69_code 2 (some .int) :: ws) ({ frames := 0, cells := 0, slots := 0, locals := 0 } : Room)) (fun a U => a = #[(.int x0), (.int x1)] ∧ Z.Warmed39 U.vm ∧ U.heap = h0) (fun _ _ _ _ _ => True) (fun _ U o U' => ∃ v L, o = .returned v ∧ Q_rmMin Z x0 x1 h0 n0 v U'.heap L ∧ FrameEnd U o U' L ({ frames := 0, cells := 0, slots := 0, locals := 0 } : Room).cells ({ frames := 0, cells := 0, slots := 0, locals := 0 } : Room).slots) := by
  refine own_met (y := (⟨"java/lang/Math", "min", "(II)I"⟩ : MethodName)) (Q := (Q_rmMin Z x0 x1 h0 n0)) (Jvm.Free.JP.mathPlain rfl (by decide +kernel)) fun p e s m below meth c s₁ X0 hx hby hml hret hlk hown hnm hZ e0 => ?_
  refine own_entry (ef_21_II m x0 x1) ?_
  refine own_to s₁ (mkF m 10 #[.val (.int x0), .val (.int x1)] [(.int x0)]) (fun tq kq => XS.iloadN X0.here hx rfl (hb hby d21_0) rfl (XS.iloadN X0.here hx rfl (hb hby d21_1) rfl (XS.icmpNo X0.here hx rfl (hb hby d21_2) rfl (flt hp0).2.2.1 (XS.iloadN X0.here hx rfl (hb hby d21_5) rfl (XS.goto X0.here hx rfl (pc0 := 6) (pc' := 10) rfl (hb hby d21_6) (by decide) (by decide) kq))))) ?_
  exact own_retI X0 hx hret hlk (hb hby d21_10) (by decide) (by decide) ⟨rfl, (Fr.nil n0), e0⟩
def Q_rmMin2 (Z : State) (x0 x1 : Int32) (h0 : Heap) (n0 : Nat) (v : Option Value) (h : Heap) (L : List Loc) : Prop := v = some (.int x1) ∧ Fr n0 L ∧ h = h0
set_option maxRecDepth 65536 in
set_option maxHeartbeats 40000000 in
theorem rmMin2 (l : Launch) (Z : State) (a0 : Array Value) (hw : ∀ d ∈ tables_1, d.before a0 Z = true) (ws : List Jvm.Cond) (x0 x1 : Int32) (h0 : Heap) (n0 : Nat) (Z0 : n0 ≤ h0.size) (hp0 : x1 < x0) :
    MetFree l (⟨"java/lang/Math", "min", "(II)I"⟩ : MethodName) (head1 (Jvm.Cond.code (⟨"java/lang/Math", "min", "(II)I"⟩ : MethodName) jdk_29_method_69_code 2 (some .int) :: ws) ({ frames := 0, cells := 0, slots := 0, locals := 0 } : Room)) (fun a U => a = #[(.int x0), (.int x1)] ∧ Z.Warmed39 U.vm ∧ U.heap = h0) (fun _ _ _ _ _ => True) (fun _ U o U' => ∃ v L, o = .returned v ∧ Q_rmMin2 Z x0 x1 h0 n0 v U'.heap L ∧ FrameEnd U o U' L ({ frames := 0, cells := 0, slots := 0, locals := 0 } : Room).cells ({ frames := 0, cells := 0, slots := 0, locals := 0 } : Room).slots) := by
  refine own_met (y := (⟨"java/lang/Math", "min", "(II)I"⟩ : MethodName)) (Q := (Q_rmMin2 Z x0 x1 h0 n0)) (Jvm.Free.JP.mathPlain rfl (by decide +kernel)) fun p e s m below meth c s₁ X0 hx hby hml hret hlk hown hnm hZ e0 => ?_
  refine own_entry (ef_21_II m x0 x1) ?_
  refine own_to s₁ (mkF m 10 #[.val (.int x0), .val (.int x1)] [(.int x1)]) (fun tq kq => XS.iloadN X0.here hx rfl (hb hby d21_0) rfl (XS.iloadN X0.here hx rfl (hb hby d21_1) rfl (XS.icmpYes X0.here hx rfl (pc0 := 2) (pc' := 9) rfl (hb hby d21_2) rfl (tlt hp0).2.2.1 (by decide) (by decide) (XS.iloadN X0.here hx rfl (hb hby d21_9) rfl kq)))) ?_
  exact own_retI X0 hx hret hlk (hb hby d21_10) (by decide) (by decide) ⟨rfl, (Fr.nil n0), e0⟩
theorem d26_0 : decode jdk_41_method_12_code 0 = .ok (.iload_n 0, 1) := by decide +kernel
theorem d26_1 : decode jdk_41_method_12_code 1 = .ok (.ifCond .lt 13, 3) := by decide +kernel
theorem d26_4 : decode jdk_41_method_12_code 4 = .ok (.iload_n 0, 1) := by decide +kernel
theorem d26_5 : decode jdk_41_method_12_code 5 = .ok (.iload_n 1, 1) := by decide +kernel
theorem d26_6 : decode jdk_41_method_12_code 6 = .ok (.if_icmp .gt 8, 3) := by decide +kernel
theorem d26_9 : decode jdk_41_method_12_code 9 = .ok (.iload_n 1, 1) := by decide +kernel
theorem d26_10 : decode jdk_41_method_12_code 10 = .ok (.iload_n 2, 1) := by decide +kernel
theorem d26_11 : decode jdk_41_method_12_code 11 = .ok (.if_icmp .le 11, 3) := by decide +kernel
theorem d26_14 : decode jdk_41_method_12_code 14 = .ok (.aload_n 3, 1) := by decide +kernel
theorem d26_15 : decode jdk_41_method_12_code 15 = .ok (.iload_n 0, 1) := by decide +kernel
theorem d26_16 : decode jdk_41_method_12_code 16 = .ok (.iload_n 1, 1) := by decide +kernel
theorem d26_17 : decode jdk_41_method_12_code 17 = .ok (.iload_n 2, 1) := by decide +kernel
theorem d26_18 : decode jdk_41_method_12_code 18 = .ok (.invokestatic 99, 3) := by decide +kernel
theorem d26_22 : decode jdk_41_method_12_code 22 = .ok (.iload_n 0, 1) := by decide +kernel
theorem d26_23 : decode jdk_41_method_12_code 23 = .ok (.ireturn, 1) := by decide +kernel
theorem ef_26_IIIV (m : MethodId) (x0 : Int32) (x1 : Int32) (x2 : Int32) (x3 : Value) (hx3 : x3.category = 1) : entryFrame m #[(.int x0), (.int x1), (.int x2), x3] 4 = mkF m 0 #[.val (.int x0), .val (.int x1), .val (.int x2), .val x3] [] := by first | (simp [entryFrame, mkF, argsToLocals, Value.category]; done) | rfl | (cases x3 <;> first | (cases hx3; done) | skip <;> rfl)
def Q_rmPF (Z : State) (q j n : Nat) (vF : Value) (h0 : Heap) (n0 : Nat) (v : Option Value) (h : Heap) (L : List Loc) : Prop := v = some (.int (Int32.ofNat q)) ∧ Fr n0 L ∧ h = h0
set_option maxRecDepth 65536 in
set_option maxHeartbeats 40000000 in
theorem rmPF (l : Launch) (Z : State) (a0 : Array Value) (hw : ∀ d ∈ tables_1, d.before a0 Z = true) (ws : List Jvm.Cond) (q j n : Nat) (vF : Value) (h0 : Heap) (n0 : Nat) (Z0 : n0 ≤ h0.size) (hvF : vF.isRef = true) (hj : q ≤ j) (hjn : j ≤ n) (hn' : n < 100) :
    MetFree l (⟨"jdk/internal/util/Preconditions", "checkFromToIndex", "(IIILjava/util/function/BiFunction;)I"⟩ : MethodName) (head1 (Jvm.Cond.code (⟨"jdk/internal/util/Preconditions", "checkFromToIndex", "(IIILjava/util/function/BiFunction;)I"⟩ : MethodName) jdk_41_method_12_code 4 (some .int) :: ws) ({ frames := 0, cells := 0, slots := 0, locals := 0 } : Room)) (fun a U => a = #[(.int (Int32.ofNat q)), (.int (Int32.ofNat j)), (.int (Int32.ofNat n)), vF] ∧ Z.Warmed39 U.vm ∧ U.heap = h0) (fun _ _ _ _ _ => True) (fun _ U o U' => ∃ v L, o = .returned v ∧ Q_rmPF Z q j n vF h0 n0 v U'.heap L ∧ FrameEnd U o U' L ({ frames := 0, cells := 0, slots := 0, locals := 0 } : Room).cells ({ frames := 0, cells := 0, slots := 0, locals := 0 } : Room).slots) := by
  refine own_met (y := (⟨"jdk/internal/util/Preconditions", "checkFromToIndex", "(IIILjava/util/function/BiFunction;)I"⟩ : MethodName)) (Q := (Q_rmPF Z q j n vF h0 n0)) (plainFor_of_name pn_43) fun p e s m below meth c s₁ X0 hx hby hml hret hlk hown hnm hZ e0 => ?_
  refine own_entry (ef_26_IIIV m (Int32.ofNat q) (Int32.ofNat j) (Int32.ofNat n) vF (own_cat1 hvF)) ?_
  refine own_to s₁ (mkF m 23 #[.val (.int (Int32.ofNat q)), .val (.int (Int32.ofNat j)), .val (.int (Int32.ofNat n)), .val vF] [(.int (Int32.ofNat q))]) (fun tq kq => XS.iloadN X0.here hx rfl (hb hby d26_0) rfl (XS.ifNo X0.here hx rfl (hb hby d26_1) rfl ((if0 _ _).trans (flt (own_nonneg (by omega))).1) (XS.iloadN X0.here hx rfl (hb hby d26_4) rfl (XS.iloadN X0.here hx rfl (hb hby d26_5) rfl (XS.icmpNo X0.here hx rfl (hb hby d26_6) rfl (flt (mt (own_ltn (by omega) (by omega)).mp (by omega))).2.2.1 (XS.iloadN X0.here hx rfl (hb hby d26_9) rfl (XS.iloadN X0.here hx rfl (hb hby d26_10) rfl (XS.icmpYes X0.here hx rfl (pc0 := 11) (pc' := 22) rfl (hb hby d26_11) rfl (flt (mt (own_ltn (by omega) (by omega)).mp (by omega))).2.2.2 (by decide) (by decide) (XS.iloadN X0.here hx rfl (hb hby d26_22) rfl kq))))))))) ?_
  exact own_retI X0 hx hret hlk (hb hby d26_23) (by decide) (by decide) ⟨rfl, (Fr.nil n0), e0⟩
theorem d25_0 : decode jdk_42_method_158_code 0 = .ok (.iload_n 0, 1) := by decide +kernel
theorem d25_1 : decode jdk_42_method_158_code 1 = .ok (.iload_n 1, 1) := by decide +kernel
theorem d25_2 : decode jdk_42_method_158_code 2 = .ok (.iload_n 2, 1) := by decide +kernel
theorem d25_3 : decode jdk_42_method_158_code 3 = .ok (.getstatic 1053, 3) := by decide +kernel
theorem d25_6 : decode jdk_42_method_158_code 6 = .ok (.invokestatic 1062, 3) := by decide +kernel
theorem d25_9 : decode jdk_42_method_158_code 9 = .ok (.pop, 1) := by decide +kernel
theorem d25_10 : decode jdk_42_method_158_code 10 = .ok (.return_, 1) := by decide +kernel
theorem ef_25_III (m : MethodId) (x0 : Int32) (x1 : Int32) (x2 : Int32) : entryFrame m #[(.int x0), (.int x1), (.int x2)] 3 = mkF m 0 #[.val (.int x0), .val (.int x1), .val (.int x2)] [] := by first | (simp [entryFrame, mkF, argsToLocals, Value.category]; done) | rfl
def Q_rmCB (Z : State) (q j n : Nat) (vF : Value) (h0 : Heap) (n0 : Nat) (v : Option Value) (h : Heap) (L : List Loc) : Prop := v = none ∧ Fr n0 L ∧ h = h0
theorem pd_21 : parseMethodDescriptor "(IIILjava/util/function/BiFunction;)I" = some ⟨[.int, .int, .int, (.object "java/util/function/BiFunction")], some .int⟩ := by decide +kernel
set_option maxRecDepth 65536 in
set_option maxHeartbeats 40000000 in
theorem rmCB (l : Launch) (Z : State) (a0 : Array Value) (hw : ∀ d ∈ tables_1, d.before a0 Z = true) (ws : List Jvm.Cond) (q j n : Nat) (vF : Value) (h0 : Heap) (n0 : Nat) (Z0 : n0 ≤ h0.size) (O4 : Sta Z h0 "jdk/internal/util/Preconditions" "SIOOBE_FORMATTER" "Ljava/util/function/BiFunction;" vF) (hvF : vF.isRef = true) (hj : q ≤ j) (hjn : j ≤ n) (hn' : n < 100) :
    MetFree l (⟨"java/lang/String", "checkBoundsBeginEnd", "(III)V"⟩ : MethodName) (head1 (Jvm.Cond.code (⟨"java/lang/String", "checkBoundsBeginEnd", "(III)V"⟩ : MethodName) jdk_42_method_158_code 3 none :: ws) ({ frames := 1, cells := 0, slots := 0, locals := 15 } : Room)) (fun a U => a = #[(.int (Int32.ofNat q)), (.int (Int32.ofNat j)), (.int (Int32.ofNat n))] ∧ Z.Warmed39 U.vm ∧ U.heap = h0) (fun _ _ _ _ _ => True) (fun _ U o U' => ∃ v L, o = .returned v ∧ Q_rmCB Z q j n vF h0 n0 v U'.heap L ∧ FrameEnd U o U' L ({ frames := 1, cells := 0, slots := 0, locals := 15 } : Room).cells ({ frames := 1, cells := 0, slots := 0, locals := 15 } : Room).slots) := by
  refine own_met (y := (⟨"java/lang/String", "checkBoundsBeginEnd", "(III)V"⟩ : MethodName)) (Q := (Q_rmCB Z q j n vF h0 n0)) (plainFor_of_name pn_18) fun p e s m below meth c s₁ X0 hx hby hml hret hlk hown hnm hZ e0 => ?_
  refine own_entry (ef_25_III m (Int32.ofNat q) (Int32.ofNat j) (Int32.ofNat n)) ?_
  refine own_to s₁ (mkF m 3 #[.val (.int (Int32.ofNat q)), .val (.int (Int32.ofNat j)), .val (.int (Int32.ofNat n))] [(.int (Int32.ofNat n)), (.int (Int32.ofNat j)), (.int (Int32.ofNat q))]) (fun tq kq => XS.iloadN X0.here hx rfl (hb hby d25_0) rfl (XS.iloadN X0.here hx rfl (hb hby d25_1) rfl (XS.iloadN X0.here hx rfl (hb hby d25_2) rfl kq))) ?_
  obtain ⟨T1, X1, e1, st1⟩ := getS2 X0 hx hZ hown (host := "") (Or.inl (own_w hw 112 rfl)) Via.refl e0 O4 (g := (mkF m 3 #[.val (.int (Int32.ofNat q)), .val (.int (Int32.ofNat j)), .val (.int (Int32.ofNat n))] [(.int (Int32.ofNat n)), (.int (Int32.ofNat j)), (.int (Int32.ofNat q))])) rfl (hb hby d25_3)
  refine own_to T1 (mkF m 6 #[.val (.int (Int32.ofNat q)), .val (.int (Int32.ofNat j)), .val (.int (Int32.ofNat n))] [vF, (.int (Int32.ofNat n)), (.int (Int32.ofNat j)), (.int (Int32.ofNat q))]) (fun tq kq => st1 _ kq) ?_
  obtain ⟨_, _, ⟨T2, L2, k2, n2⟩, -, X2, ⟨Lc2, hQ2, l2, y2, z2⟩, st2⟩ := Jvm.LawKit.callS X1 hx (y := (⟨"jdk/internal/util/Preconditions", "checkFromToIndex", "(IIILjava/util/function/BiFunction;)I"⟩ : MethodName)) hown (mvT hZ (own_w hw 114 rfl)) (mvT hZ (own_w hw 115 rfl)) (mvT hZ (own_w hw 113 rfl)) (mvT hZ (own_w hw 116 rfl)) (by decide) (backOf (W := 0) (rmPF l Z a0 hw [] q j n vF h0 n0 Z0 hvF hj hjn hn') hZ (own_w hw 116 rfl) (own_w hw 113 rfl) (by decide) (by decide)) (g := (mkF m 6 #[.val (.int (Int32.ofNat q)), .val (.int (Int32.ofNat j)), .val (.int (Int32.ofNat n))] [vF, (.int (Int32.ofNat n)), (.int (Int32.ofNat j)), (.int (Int32.ofNat q))])) rfl (by rw [hml]; rfl) (argsL := [(.int (Int32.ofNat q)), (.int (Int32.ofNat j)), (.int (Int32.ofNat n)), vF]) (rest := []) (lenOf pd_21 rfl) rfl (by show 2 * 0 + _ ≤ _; exact Nat.le_of_eq rfl) (hb hby d25_6) (fun _ _ => ⟨rfl, e1, (by decide : 0 + 0 ≤ _), (by decide : 0 + 0 ≤ _)⟩)
  dsimp only [Pt.U, Pt.locs, Pt.cells, Pt.slots] at X2 l2 y2 z2 st2 hQ2
  have l2y := l2.symm
  clear l2
  subst l2y
  obtain rfl : k2 = 0 := y2
  obtain rfl : n2 = 0 := z2
  obtain ⟨rfl, N2q, e2⟩ := hQ2
  have N2 := Fr.app (Fr.nil n0) N2q
  refine own_to T2 (mkF m 10 #[.val (.int (Int32.ofNat q)), .val (.int (Int32.ofNat j)), .val (.int (Int32.ofNat n))] []) (fun tq kq => st2 _ (XS.pop X2.here hx rfl (hb hby d25_9) rfl rfl kq)) ?_
  exact own_retV X2 hx hret hlk (hb hby d25_10) (by decide) (by decide) ⟨rfl, N2, e2⟩
theorem d23_0 : decode jdk_52_method_93_code 0 = .ok (.iload_n 0, 1) := by decide +kernel
theorem d23_1 : decode jdk_52_method_93_code 1 = .ok (.iload_n 1, 1) := by decide +kernel
theorem d23_2 : decode jdk_52_method_93_code 2 = .ok (.aload_n 2, 1) := by decide +kernel
theorem d23_3 : decode jdk_52_method_93_code 3 = .ok (.invokestatic 48, 3) := by decide +kernel
theorem d23_6 : decode jdk_52_method_93_code 6 = .ok (.invokestatic 241, 3) := by decide +kernel
theorem d23_9 : decode jdk_52_method_93_code 9 = .ok (.return_, 1) := by decide +kernel
theorem ef_23_IIR (m : MethodId) (x0 : Int32) (x1 : Int32) (x2 : Addr) : entryFrame m #[(.int x0), (.int x1), (.ref x2)] 3 = mkF m 0 #[.val (.int x0), .val (.int x1), .val (.ref x2)] [] := by first | (simp [entryFrame, mkF, argsToLocals, Value.category]; done) | rfl
def Q_rmUCB (Z : State) (t2 : Addr) (q : Nat) (f : Nat → Int32) (vF : Value) (h0 : Heap) (n0 : Nat) (v : Option Value) (h : Heap) (L : List Loc) : Prop := v = none ∧ Fr n0 L ∧ h = h0
theorem pd_20 : parseMethodDescriptor "(III)V" = some ⟨[.int, .int, .int], none⟩ := by decide +kernel
set_option maxRecDepth 65536 in
set_option maxHeartbeats 40000000 in
theorem rmUCB (l : Launch) (Z : State) (a0 : Array Value) (hw : ∀ d ∈ tables_1, d.before a0 Z = true) (ws : List Jvm.Cond) (t2 : Addr) (q : Nat) (f : Nat → Int32) (vF : Value) (h0 : Heap) (n0 : Nat) (Z0 : n0 ≤ h0.size) (O4 : Sta Z h0 "jdk/internal/util/Preconditions" "SIOOBE_FORMATTER" "Ljava/util/function/BiFunction;" vF) (hvF : vF.isRef = true) (Aa2 : BArr Z h0 t2 14 f) (hq7 : q ≤ 7) :
    MetFree l (⟨"java/lang/StringUTF16", "checkBoundsBeginEnd", "(II[B)V"⟩ : MethodName) (head1 (Jvm.Cond.code (⟨"java/lang/StringUTF16", "checkBoundsBeginEnd", "(II[B)V"⟩ : MethodName) jdk_52_method_93_code 3 none :: ws) ({ frames := 2, cells := 0, slots := 0, locals := 32 } : Room)) (fun a U => a = #[(.int (Int32.ofNat q)), (.int (Int32.ofNat 7)), (.ref t2)] ∧ Z.Warmed39 U.vm ∧ U.heap = h0) (fun _ _ _ _ _ => True) (fun _ U o U' => ∃ v L, o = .returned v ∧ Q_rmUCB Z t2 q f vF h0 n0 v U'.heap L ∧ FrameEnd U o U' L ({ frames := 2, cells := 0, slots := 0, locals := 32 } : Room).cells ({ frames := 2, cells := 0, slots := 0, locals := 32 } : Room).slots) := by
  refine own_met (y := (⟨"java/lang/StringUTF16", "checkBoundsBeginEnd", "(II[B)V"⟩ : MethodName)) (Q := (Q_rmUCB Z t2 q f vF h0 n0)) (plainFor_of_name pn_11) fun p e s m below meth c s₁ X0 hx hby hml hret hlk hown hnm hZ e0 => ?_
  refine own_entry (ef_23_IIR m (Int32.ofNat q) (Int32.ofNat 7) t2) ?_
  refine own_to s₁ (mkF m 3 #[.val (.int (Int32.ofNat q)), .val (.int (Int32.ofNat 7)), .val (.ref t2)] [(.ref t2), (.int (Int32.ofNat 7)), (.int (Int32.ofNat q))]) (fun tq kq => XS.iloadN X0.here hx rfl (hb hby d23_0) rfl (XS.iloadN X0.here hx rfl (hb hby d23_1) rfl (XS.aloadN X0.here hx rfl (hb hby d23_2) rfl rfl kq))) ?_
  obtain ⟨_, _, ⟨T1, L1, k1, n1⟩, -, X1, ⟨Lc1, hQ1, l1, y1, z1⟩, st1⟩ := Jvm.LawKit.callS X0 hx (y := (⟨"java/lang/StringUTF16", "length", "([B)I"⟩ : MethodName)) hown (mvT hZ (own_w hw 106 rfl)) (mvT hZ (own_w hw 107 rfl)) (mvT hZ (own_w hw 24 rfl)) (mvT hZ (own_w hw 108 rfl)) (by decide) (backOf (W := 2) (rmUL l Z a0 hw [] t2 7 f h0 n0 Z0 Aa2 (by decide)) hZ (own_w hw 108 rfl) (own_w hw 24 rfl) (by decide) (by decide)) (g := (mkF m 3 #[.val (.int (Int32.ofNat q)), .val (.int (Int32.ofNat 7)), .val (.ref t2)] [(.ref t2), (.int (Int32.ofNat 7)), (.int (Int32.ofNat q))])) rfl (by rw [hml]; rfl) (argsL := [(.ref t2)]) (rest := [(.int (Int32.ofNat 7)), (.int (Int32.ofNat q))]) (lenOf pd_19 rfl) rfl (by show 2 * 0 + _ ≤ _; exact Nat.le_of_eq rfl) (hb hby d23_3) (fun _ _ => ⟨rfl, e0, (by decide : 0 + 0 ≤ _), (by decide : 0 + 0 ≤ _)⟩)
  dsimp only [Pt.U, Pt.locs, Pt.cells, Pt.slots] at X1 l1 y1 z1 st1 hQ1
  have l1y := l1.symm
  clear l1
  subst l1y
  obtain rfl : k1 = 0 := y1
  obtain rfl : n1 = 0 := z1
  obtain ⟨rfl, N1q, e1⟩ := hQ1
  have N1 := Fr.app (Fr.nil n0) N1q
  refine own_to T1 (mkF m 6 #[.val (.int (Int32.ofNat q)), .val (.int (Int32.ofNat 7)), .val (.ref t2)] [(.int (Int32.ofNat 7)), (.int (Int32.ofNat 7)), (.int (Int32.ofNat q))]) (fun tq kq => st1 _ kq) ?_
  obtain ⟨_, _, ⟨T2, L2, k2, n2⟩, -, X2, ⟨Lc2, hQ2, l2, y2, z2⟩, st2⟩ := Jvm.LawKit.callS X1 hx (y := (⟨"java/lang/String", "checkBoundsBeginEnd", "(III)V"⟩ : MethodName)) hown (mvT hZ (own_w hw 109 rfl)) (mvT hZ (own_w hw 110 rfl)) (mvT hZ (own_w hw 10 rfl)) (mvT hZ (own_w hw 111 rfl)) (by decide) (backOf (W := 0) (rmCB l Z a0 hw [] q 7 7 vF h0 n0 Z0 O4 hvF hq7 (by decide) (by decide)) hZ (own_w hw 111 rfl) (own_w hw 10 rfl) (by decide) (by decide)) (g := (mkF m 6 #[.val (.int (Int32.ofNat q)), .val (.int (Int32.ofNat 7)), .val (.ref t2)] [(.int (Int32.ofNat 7)), (.int (Int32.ofNat 7)), (.int (Int32.ofNat q))])) rfl (by rw [hml]; rfl) (argsL := [(.int (Int32.ofNat q)), (.int (Int32.ofNat 7)), (.int (Int32.ofNat 7))]) (rest := []) (lenOf pd_20 rfl) rfl (by show 2 * 0 + _ ≤ _; exact Nat.le_of_eq rfl) (hb hby d23_6) (fun _ _ => ⟨rfl, e1, (by decide : 0 + 0 ≤ _), (by decide : 0 + 0 ≤ _)⟩)
  dsimp only [Pt.U, Pt.locs, Pt.cells, Pt.slots] at X2 l2 y2 z2 st2 hQ2
  have l2y := l2.symm
  clear l2
  subst l2y
  obtain rfl : k2 = 0 := y2
  obtain rfl : n2 = 0 := z2
  obtain ⟨rfl, N2q, e2⟩ := hQ2
  have N2 := Fr.app N1 N2q
  refine own_to T2 (mkF m 9 #[.val (.int (Int32.ofNat q)), .val (.int (Int32.ofNat 7)), .val (.ref t2)] []) (fun tq kq => st2 _ kq) ?_
  exact own_retV X2 hx hret hlk (hb hby d23_9) (by decide) (by decide) ⟨rfl, N2, e2⟩
theorem d27_0 : decode jdk_52_method_48_code 0 = .ok (.iload_n 2, 1) := by decide +kernel
theorem d27_1 : decode jdk_52_method_48_code 1 = .ok (.istore 4, 2) := by decide +kernel
theorem d27_3 : decode jdk_52_method_48_code 3 = .ok (.iload 4, 2) := by decide +kernel
theorem d27_5 : decode jdk_52_method_48_code 5 = .ok (.iload_n 3, 1) := by decide +kernel
theorem d27_6 : decode jdk_52_method_48_code 6 = .ok (.if_icmp .ge 22, 3) := by decide +kernel
theorem d27_9 : decode jdk_52_method_48_code 9 = .ok (.aload_n 0, 1) := by decide +kernel
theorem d27_10 : decode jdk_52_method_48_code 10 = .ok (.iload 4, 2) := by decide +kernel
theorem d27_12 : decode jdk_52_method_48_code 12 = .ok (.invokestatic 71, 3) := by decide +kernel
theorem d27_15 : decode jdk_52_method_48_code 15 = .ok (.iload_n 1, 1) := by decide +kernel
theorem d27_16 : decode jdk_52_method_48_code 16 = .ok (.if_icmp .ne 6, 3) := by decide +kernel
theorem d27_19 : decode jdk_52_method_48_code 19 = .ok (.iload 4, 2) := by decide +kernel
theorem d27_21 : decode jdk_52_method_48_code 21 = .ok (.ireturn, 1) := by decide +kernel
theorem d27_22 : decode jdk_52_method_48_code 22 = .ok (.iinc 4 1, 3) := by decide +kernel
theorem d27_25 : decode jdk_52_method_48_code 25 = .ok (.goto (-22), 3) := by decide +kernel
theorem d27_28 : decode jdk_52_method_48_code 28 = .ok (.iconst (-1), 1) := by decide +kernel
theorem d27_29 : decode jdk_52_method_48_code 29 = .ok (.ireturn, 1) := by decide +kernel
theorem ef_27_RIII (m : MethodId) (x0 : Addr) (x1 : Int32) (x2 : Int32) (x3 : Int32) : entryFrame m #[(.ref x0), (.int x1), (.int x2), (.int x3)] 5 = mkF m 0 #[.val (.ref x0), .val (.int x1), .val (.int x2), .val (.int x3), .unset] [] := by first | (simp [entryFrame, mkF, argsToLocals, Value.category]; done) | rfl
def Q_rmIU (Z : State) (t2 : Addr) (q j : Nat) (f cc : Nat → Int32) (ch : Int32) (h0 : Heap) (n0 : Nat) (v : Option Value) (h : Heap) (L : List Loc) : Prop := v = some (.int (Int32.ofNat j)) ∧ Fr n0 L ∧ h = h0
set_option maxRecDepth 65536 in
set_option maxHeartbeats 40000000 in
theorem rmIU (l : Launch) (Z : State) (a0 : Array Value) (hw : ∀ d ∈ tables_1, d.before a0 Z = true) (ws : List Jvm.Cond) (t2 : Addr) (q j : Nat) (f cc : Nat → Int32) (ch : Int32) (h0 : Heap) (n0 : Nat) (Z0 : n0 ≤ h0.size) (OA : Sta Z h0 "java/lang/StringUTF16" "$assertionsDisabled" "Z" (.int (1 : Int32))) (OH : Sta Z h0 "java/lang/StringUTF16" "HI_BYTE_SHIFT" "I" (.int (0 : Int32))) (OL : Sta Z h0 "java/lang/StringUTF16" "LO_BYTE_SHIFT" "I" (.int (8 : Int32))) (Aa2 : BArr Z h0 t2 14 f) (hu : own_U f 7 14 cc) (hj : q ≤ j) (hjn : j < 7) (hfj : cc j = ch) (hff : ∀ i, q ≤ i → i < j → ¬ cc i = ch) :
    MetFree l (⟨"java/lang/StringUTF16", "indexOfCharUnsafe", "([BIII)I"⟩ : MethodName) (head1 (Jvm.Cond.code (⟨"java/lang/StringUTF16", "indexOfCharUnsafe", "([BIII)I"⟩ : MethodName) jdk_52_method_48_code 5 (some .int) :: ws) ({ frames := 1, cells := 0, slots := 0, locals := 14 } : Room)) (fun a U => a = #[(.ref t2), (.int ch), (.int (Int32.ofNat q)), (.int (Int32.ofNat 7))] ∧ Z.Warmed39 U.vm ∧ U.heap = h0) (fun _ _ _ _ _ => True) (fun _ U o U' => ∃ v L, o = .returned v ∧ Q_rmIU Z t2 q j f cc ch h0 n0 v U'.heap L ∧ FrameEnd U o U' L ({ frames := 1, cells := 0, slots := 0, locals := 14 } : Room).cells ({ frames := 1, cells := 0, slots := 0, locals := 14 } : Room).slots) := by
  refine own_met (y := (⟨"java/lang/StringUTF16", "indexOfCharUnsafe", "([BIII)I"⟩ : MethodName)) (Q := (Q_rmIU Z t2 q j f cc ch h0 n0)) (plainFor_of_name pn_11) fun p e s m below meth c s₁ X0 hx hby hml hret hlk hown hnm hZ e0 => ?_
  refine own_entry (ef_27_RIII m t2 ch (Int32.ofNat q) (Int32.ofNat 7)) ?_
  refine own_to s₁ (mkF m 3 #[.val (.ref t2), .val (.int ch), .val (.int (Int32.ofNat q)), .val (.int (Int32.ofNat 7)), .val (.int (Int32.ofNat q))] []) (fun tq kq => XS.iloadN X0.here hx rfl (hb hby d27_0) rfl (XS.istore X0.here hx rfl (hb hby d27_1) rfl (l' := #[.val (.ref t2), .val (.int ch), .val (.int (Int32.ofNat q)), .val (.int (Int32.ofNat 7)), .val (.int (Int32.ofNat q))]) rfl kq)) ?_
  have loop : ∀ (k1 i : Nat) (T1 : State) (L1 : List Loc), i + k1 = j → q ≤ i → Stand p l e ({ frames := 1, cells := 0, slots := 0, locals := 14 } : Room) s m #[(.ref t2), (.int ch), (.int (Int32.ofNat q)), (.int (Int32.ofNat 7))] below meth c T1 L1 0 0 → T1.heap = h0 → Fr n0 L1 → Own p e below s ({ frames := 1, cells := 0, slots := 0, locals := 14 } : Room).cells ({ frames := 1, cells := 0, slots := 0, locals := 14 } : Room).slots (Q_rmIU Z t2 q j f cc ch h0 n0) T1 (mkF m 3 #[.val (.ref t2), .val (.int ch), .val (.int (Int32.ofNat q)), .val (.int (Int32.ofNat 7)), .val (.int (Int32.ofNat i))] []) := by
    intro k1
    induction k1 with
    | zero =>
      intro i T1 L1 hij hqi X1 e1 N1
      have hi' : i = j := (by omega)
      refine own_to T1 (mkF m 12 #[.val (.ref t2), .val (.int ch), .val (.int (Int32.ofNat q)), .val (.int (Int32.ofNat 7)), .val (.int (Int32.ofNat i))] [(.int (Int32.ofNat i)), (.ref t2)]) (fun tq kq => XS.iload X1.here hx rfl (hb hby d27_3) rfl (XS.iloadN X1.here hx rfl (hb hby d27_5) rfl (XS.icmpNo X1.here hx rfl (hb hby d27_6) rfl (tlt ((own_ltn (by omega) (by omega)).mpr (by omega))).2.1 (XS.aloadN X1.here hx rfl (hb hby d27_9) rfl rfl (XS.iload X1.here hx rfl (hb hby d27_10) rfl kq))))) ?_
      obtain ⟨_, _, ⟨T1, L1, k1, n1⟩, -, X1, ⟨Lc1, hQ1, l1, y1, z1⟩, st1⟩ := Jvm.LawKit.callS X1 hx (y := (⟨"java/lang/StringUTF16", "getChar", "([BI)C"⟩ : MethodName)) hown (mvT hZ (own_w hw 46 rfl)) (mvT hZ (own_w hw 47 rfl)) (mvT hZ (own_w hw 24 rfl)) (mvT hZ (own_w hw 48 rfl)) (by decide) (backOf (W := 0) (rmGC l Z a0 hw [] t2 i 14 f (cc i) h0 n0 Z0 OA OH OL Aa2 (by omega) (by decide) (hu.1 i (by omega))) hZ (own_w hw 48 rfl) (own_w hw 24 rfl) (by decide) (by decide)) (g := (mkF m 12 #[.val (.ref t2), .val (.int ch), .val (.int (Int32.ofNat q)), .val (.int (Int32.ofNat 7)), .val (.int (Int32.ofNat i))] [(.int (Int32.ofNat i)), (.ref t2)])) rfl (by rw [hml]; rfl) (argsL := [(.ref t2), (.int (Int32.ofNat i))]) (rest := []) (lenOf pd_9 rfl) rfl (by show 2 * 0 + _ ≤ _; exact Nat.le_of_eq rfl) (hb hby d27_12) (fun _ _ => ⟨rfl, e1, (by decide : 0 + 0 ≤ _), (by decide : 0 + 0 ≤ _)⟩)
      dsimp only [Pt.U, Pt.locs, Pt.cells, Pt.slots] at X1 l1 y1 z1 st1 hQ1
      have l1y := l1.symm
      clear l1
      subst l1y
      obtain rfl : k1 = 0 := y1
      obtain rfl : n1 = 0 := z1
      obtain ⟨rfl, N1q, e1⟩ := hQ1
      have N1 := Fr.app N1 N1q
      refine own_to T1 (mkF m 21 #[.val (.ref t2), .val (.int ch), .val (.int (Int32.ofNat q)), .val (.int (Int32.ofNat 7)), .val (.int (Int32.ofNat i))] [(.int (Int32.ofNat i))]) (fun tq kq => st1 _ (XS.iloadN X1.here hx rfl (hb hby d27_15) rfl (XS.icmpNo X1.here hx rfl (hb hby d27_16) rfl (teq (by rw [hi']; exact hfj)).2 (XS.iload X1.here hx rfl (hb hby d27_19) rfl kq)))) ?_
      exact own_retI X1 hx hret hlk (hb hby d27_21) (by decide) (by decide) ⟨by rw [hi'], N1, e1⟩
    | succ k1 ih =>
      intro i T1 L1 hij hqi X1 e1 N1
      refine own_to T1 (mkF m 12 #[.val (.ref t2), .val (.int ch), .val (.int (Int32.ofNat q)), .val (.int (Int32.ofNat 7)), .val (.int (Int32.ofNat i))] [(.int (Int32.ofNat i)), (.ref t2)]) (fun tq kq => XS.iload X1.here hx rfl (hb hby d27_3) rfl (XS.iloadN X1.here hx rfl (hb hby d27_5) rfl (XS.icmpNo X1.here hx rfl (hb hby d27_6) rfl (tlt ((own_ltn (by omega) (by omega)).mpr (by omega))).2.1 (XS.aloadN X1.here hx rfl (hb hby d27_9) rfl rfl (XS.iload X1.here hx rfl (hb hby d27_10) rfl kq))))) ?_
      obtain ⟨_, _, ⟨T2, L2, k2, n2⟩, -, X2, ⟨Lc2, hQ2, l2, y2, z2⟩, st2⟩ := Jvm.LawKit.callS X1 hx (y := (⟨"java/lang/StringUTF16", "getChar", "([BI)C"⟩ : MethodName)) hown (mvT hZ (own_w hw 46 rfl)) (mvT hZ (own_w hw 47 rfl)) (mvT hZ (own_w hw 24 rfl)) (mvT hZ (own_w hw 48 rfl)) (by decide) (backOf (W := 0) (rmGC l Z a0 hw [] t2 i 14 f (cc i) h0 n0 Z0 OA OH OL Aa2 (by omega) (by decide) (hu.1 i (by omega))) hZ (own_w hw 48 rfl) (own_w hw 24 rfl) (by decide) (by decide)) (g := (mkF m 12 #[.val (.ref t2), .val (.int ch), .val (.int (Int32.ofNat q)), .val (.int (Int32.ofNat 7)), .val (.int (Int32.ofNat i))] [(.int (Int32.ofNat i)), (.ref t2)])) rfl (by rw [hml]; rfl) (argsL := [(.ref t2), (.int (Int32.ofNat i))]) (rest := []) (lenOf pd_9 rfl) rfl (by show 2 * 0 + _ ≤ _; exact Nat.le_of_eq rfl) (hb hby d27_12) (fun _ _ => ⟨rfl, e1, (by decide : 0 + 0 ≤ _), (by decide : 0 + 0 ≤ _)⟩)
      dsimp only [Pt.U, Pt.locs, Pt.cells, Pt.slots] at X2 l2 y2 z2 st2 hQ2
      have l2y := l2.symm
      clear l2
      subst l2y
      obtain rfl : k2 = 0 := y2
      obtain rfl : n2 = 0 := z2
      obtain ⟨rfl, N2q, e2⟩ := hQ2
      have N2 := Fr.app N1 N2q
      refine own_to T2 (mkF m 3 #[.val (.ref t2), .val (.int ch), .val (.int (Int32.ofNat q)), .val (.int (Int32.ofNat 7)), .val (.int ((Int32.ofNat i) + (1 : Int32)))] []) (fun tq kq => st2 _ (XS.iloadN X2.here hx rfl (hb hby d27_15) rfl (XS.icmpYes X2.here hx rfl (pc0 := 16) (pc' := 22) rfl (hb hby d27_16) rfl (feq (hff i hqi (by omega))).2 (by decide) (by decide) (XS.iinc X2.here hx rfl (hb hby d27_22) rfl (l' := #[.val (.ref t2), .val (.int ch), .val (.int (Int32.ofNat q)), .val (.int (Int32.ofNat 7)), .val (.int ((Int32.ofNat i) + (1 : Int32)))]) rfl (XS.goto X2.here hx rfl (pc0 := 25) (pc' := 3) rfl (hb hby d27_25) (by decide) (by decide) kq))))) ?_
      rw [show (Int32.ofNat i + (1 : Int32)) = Int32.ofNat (i + 1) from own_addn i 1 (by omega) (by decide)]
      exact ih (i + 1) _ _ (by omega) (by omega) X2 e2 N2
  exact loop (j - q) q _ _ (by omega) (Nat.le_refl _) X0 e0 (Fr.nil n0)
theorem d22_0 : decode jdk_52_method_47_code 0 = .ok (.iload_n 2, 1) := by decide +kernel
theorem d22_1 : decode jdk_52_method_47_code 1 = .ok (.iload_n 3, 1) := by decide +kernel
theorem d22_2 : decode jdk_52_method_47_code 2 = .ok (.aload_n 0, 1) := by decide +kernel
theorem d22_3 : decode jdk_52_method_47_code 3 = .ok (.invokestatic 96, 3) := by decide +kernel
theorem d22_6 : decode jdk_52_method_47_code 6 = .ok (.aload_n 0, 1) := by decide +kernel
theorem d22_7 : decode jdk_52_method_47_code 7 = .ok (.iload_n 1, 1) := by decide +kernel
theorem d22_8 : decode jdk_52_method_47_code 8 = .ok (.iload_n 2, 1) := by decide +kernel
theorem d22_9 : decode jdk_52_method_47_code 9 = .ok (.iload_n 3, 1) := by decide +kernel
theorem d22_10 : decode jdk_52_method_47_code 10 = .ok (.invokestatic 244, 3) := by decide +kernel
theorem d22_13 : decode jdk_52_method_47_code 13 = .ok (.ireturn, 1) := by decide +kernel
theorem ef_22_RIII (m : MethodId) (x0 : Addr) (x1 : Int32) (x2 : Int32) (x3 : Int32) : entryFrame m #[(.ref x0), (.int x1), (.int x2), (.int x3)] 4 = mkF m 0 #[.val (.ref x0), .val (.int x1), .val (.int x2), .val (.int x3)] [] := by first | (simp [entryFrame, mkF, argsToLocals, Value.category]; done) | rfl
def Q_rmIxC (Z : State) (t2 : Addr) (vF : Value) (q j : Nat) (f cc : Nat → Int32) (ch : Int32) (h0 : Heap) (n0 : Nat) (v : Option Value) (h : Heap) (L : List Loc) : Prop := v = some (.int (Int32.ofNat j)) ∧ Fr n0 L ∧ h = h0
theorem pd_18 : parseMethodDescriptor "(II[B)V" = some ⟨[.int, .int, (.array .byte)], none⟩ := by decide +kernel
theorem pd_17 : parseMethodDescriptor "([BIII)I" = some ⟨[(.array .byte), .int, .int, .int], some .int⟩ := by decide +kernel
set_option maxRecDepth 65536 in
set_option maxHeartbeats 40000000 in
theorem rmIxC (l : Launch) (Z : State) (a0 : Array Value) (hw : ∀ d ∈ tables_1, d.before a0 Z = true) (ws : List Jvm.Cond) (t2 : Addr) (vF : Value) (q j : Nat) (f cc : Nat → Int32) (ch : Int32) (h0 : Heap) (n0 : Nat) (Z0 : n0 ≤ h0.size) (O4 : Sta Z h0 "jdk/internal/util/Preconditions" "SIOOBE_FORMATTER" "Ljava/util/function/BiFunction;" vF) (hvF : vF.isRef = true) (OA : Sta Z h0 "java/lang/StringUTF16" "$assertionsDisabled" "Z" (.int (1 : Int32))) (OH : Sta Z h0 "java/lang/StringUTF16" "HI_BYTE_SHIFT" "I" (.int (0 : Int32))) (OL : Sta Z h0 "java/lang/StringUTF16" "LO_BYTE_SHIFT" "I" (.int (8 : Int32))) (Aa2 : BArr Z h0 t2 14 f) (hu : own_U f 7 14 cc) (hj : q ≤ j) (hjn : j < 7) (hfj : cc j = ch) (hff : ∀ i, q ≤ i → i < j → ¬ cc i = ch) :
    MetFree l (⟨"java/lang/StringUTF16", "indexOfChar", "([BIII)I"⟩ : MethodName) (head1 (Jvm.Cond.code (⟨"java/lang/StringUTF16", "indexOfChar", "([BIII)I"⟩ : MethodName) jdk_52_method_47_code 4 (some .int) :: ws) ({ frames := 3, cells := 0, slots := 0, locals := 50 } : Room)) (fun a U => a = #[(.ref t2), (.int ch), (.int (Int32.ofNat q)), (.int (Int32.ofNat 7))] ∧ Z.Warmed39 U.vm ∧ U.heap = h0) (fun _ _ _ _ _ => True) (fun _ U o U' => ∃ v L, o = .returned v ∧ Q_rmIxC Z t2 vF q j f cc ch h0 n0 v U'.heap L ∧ FrameEnd U o U' L ({ frames := 3, cells := 0, slots := 0, locals := 50 } : Room).cells ({ frames := 3, cells := 0, slots := 0, locals := 50 } : Room).slots) := by
  refine own_met (y := (⟨"java/lang/StringUTF16", "indexOfChar", "([BIII)I"⟩ : MethodName)) (Q := (Q_rmIxC Z t2 vF q j f cc ch h0 n0)) (plainFor_of_name pn_11) fun p e s m below meth c s₁ X0 hx hby hml hret hlk hown hnm hZ e0 => ?_
  refine own_entry (ef_22_RIII m t2 ch (Int32.ofNat q) (Int32.ofNat 7)) ?_
  refine own_to s₁ (mkF m 3 #[.val (.ref t2), .val (.int ch), .val (.int (Int32.ofNat q)), .val (.int (Int32.ofNat 7))] [(.ref t2), (.int (Int32.ofNat 7)), (.int (Int32.ofNat q))]) (fun tq kq => XS.iloadN X0.here hx rfl (hb hby d22_0) rfl (XS.iloadN X0.here hx rfl (hb hby d22_1) rfl (XS.aloadN X0.here hx rfl (hb hby d22_2) rfl rfl kq))) ?_
  obtain ⟨_, _, ⟨T1, L1, k1, n1⟩, -, X1, ⟨Lc1, hQ1, l1, y1, z1⟩, st1⟩ := Jvm.LawKit.callS X0 hx (y := (⟨"java/lang/StringUTF16", "checkBoundsBeginEnd", "(II[B)V"⟩ : MethodName)) hown (mvT hZ (own_w hw 103 rfl)) (mvT hZ (own_w hw 104 rfl)) (mvT hZ (own_w hw 24 rfl)) (mvT hZ (own_w hw 105 rfl)) (by decide) (backOf (W := 0) (rmUCB l Z a0 hw [] t2 q f vF h0 n0 Z0 O4 hvF Aa2 (by omega)) hZ (own_w hw 105 rfl) (own_w hw 24 rfl) (by decide) (by decide)) (g := (mkF m 3 #[.val (.ref t2), .val (.int ch), .val (.int (Int32.ofNat q)), .val (.int (Int32.ofNat 7))] [(.ref t2), (.int (Int32.ofNat 7)), (.int (Int32.ofNat q))])) rfl (by rw [hml]; rfl) (argsL := [(.int (Int32.ofNat q)), (.int (Int32.ofNat 7)), (.ref t2)]) (rest := []) (lenOf pd_18 rfl) rfl (by show 2 * 0 + _ ≤ _; exact Nat.le_of_eq rfl) (hb hby d22_3) (fun _ _ => ⟨rfl, e0, (by decide : 0 + 0 ≤ _), (by decide : 0 + 0 ≤ _)⟩)
  dsimp only [Pt.U, Pt.locs, Pt.cells, Pt.slots] at X1 l1 y1 z1 st1 hQ1
  have l1y := l1.symm
  clear l1
  subst l1y
  obtain rfl : k1 = 0 := y1
  obtain rfl : n1 = 0 := z1
  obtain ⟨rfl, N1q, e1⟩ := hQ1
  have N1 := Fr.app (Fr.nil n0) N1q
  refine own_to T1 (mkF m 10 #[.val (.ref t2), .val (.int ch), .val (.int (Int32.ofNat q)), .val (.int (Int32.ofNat 7))] [(.int (Int32.ofNat 7)), (.int (Int32.ofNat q)), (.int ch), (.ref t2)]) (fun tq kq => st1 _ (XS.aloadN X1.here hx rfl (hb hby d22_6) rfl rfl (XS.iloadN X1.here hx rfl (hb hby d22_7) rfl (XS.iloadN X1.here hx rfl (hb hby d22_8) rfl (XS.iloadN X1.here hx rfl (hb hby d22_9) rfl kq))))) ?_
  obtain ⟨_, _, ⟨T2, L2, k2, n2⟩, -, X2, ⟨Lc2, hQ2, l2, y2, z2⟩, st2⟩ := Jvm.LawKit.callS X1 hx (y := (⟨"java/lang/StringUTF16", "indexOfCharUnsafe", "([BIII)I"⟩ : MethodName)) hown (mvT hZ (own_w hw 117 rfl)) (mvT hZ (own_w hw 118 rfl)) (mvT hZ (own_w hw 24 rfl)) (mvT hZ (own_w hw 119 rfl)) (by decide) (backOf (W := 0) (rmIU l Z a0 hw [] t2 q j f cc ch h0 n0 Z0 OA OH OL Aa2 hu hj hjn hfj hff) hZ (own_w hw 119 rfl) (own_w hw 24 rfl) (by decide) (by decide)) (g := (mkF m 10 #[.val (.ref t2), .val (.int ch), .val (.int (Int32.ofNat q)), .val (.int (Int32.ofNat 7))] [(.int (Int32.ofNat 7)), (.int (Int32.ofNat q)), (.int ch), (.ref t2)])) rfl (by rw [hml]; rfl) (argsL := [(.ref t2), (.int ch), (.int (Int32.ofNat q)), (.int (Int32.ofNat 7))]) (rest := []) (lenOf pd_17 rfl) rfl (by show 2 * 0 + _ ≤ _; exact Nat.le_of_eq rfl) (hb hby d22_10) (fun _ _ => ⟨rfl, e1, (by decide : 0 + 0 ≤ _), (by decide : 0 + 0 ≤ _)⟩)
  dsimp only [Pt.U, Pt.locs, Pt.cells, Pt.slots] at X2 l2 y2 z2 st2 hQ2
  have l2y := l2.symm
  clear l2
  subst l2y
  obtain rfl : k2 = 0 := y2
  obtain rfl : n2 = 0 := z2
  obtain ⟨rfl, N2q, e2⟩ := hQ2
  have N2 := Fr.app N1 N2q
  refine own_to T2 (mkF m 13 #[.val (.ref t2), .val (.int ch), .val (.int (Int32.ofNat q)), .val (.int (Int32.ofNat 7))] [(.int (Int32.ofNat j))]) (fun tq kq => st2 _ kq) ?_
  exact own_retI X2 hx hret hlk (hb hby d22_13) (by decide) (by decide) ⟨rfl, N2, e2⟩
theorem d19_0 : decode jdk_52_method_40_code 0 = .ok (.iload_n 2, 1) := by decide +kernel
theorem d19_1 : decode jdk_52_method_40_code 1 = .ok (.iconst 0, 1) := by decide +kernel
theorem d19_2 : decode jdk_52_method_40_code 2 = .ok (.invokestatic 224, 3) := by decide +kernel
theorem d19_5 : decode jdk_52_method_40_code 5 = .ok (.istore_n 2, 1) := by decide +kernel
theorem d19_6 : decode jdk_52_method_40_code 6 = .ok (.iload_n 3, 1) := by decide +kernel
theorem d19_7 : decode jdk_52_method_40_code 7 = .ok (.aload_n 0, 1) := by decide +kernel
theorem d19_8 : decode jdk_52_method_40_code 8 = .ok (.arraylength, 1) := by decide +kernel
theorem d19_9 : decode jdk_52_method_40_code 9 = .ok (.iconst 1, 1) := by decide +kernel
theorem d19_10 : decode jdk_52_method_40_code 10 = .ok (.ishr, 1) := by decide +kernel
theorem d19_11 : decode jdk_52_method_40_code 11 = .ok (.invokestatic 183, 3) := by decide +kernel
theorem d19_14 : decode jdk_52_method_40_code 14 = .ok (.istore_n 3, 1) := by decide +kernel
theorem d19_15 : decode jdk_52_method_40_code 15 = .ok (.iload_n 2, 1) := by decide +kernel
theorem d19_16 : decode jdk_52_method_40_code 16 = .ok (.iload_n 3, 1) := by decide +kernel
theorem d19_17 : decode jdk_52_method_40_code 17 = .ok (.if_icmp .lt 5, 3) := by decide +kernel
theorem d19_20 : decode jdk_52_method_40_code 20 = .ok (.iconst (-1), 1) := by decide +kernel
theorem d19_21 : decode jdk_52_method_40_code 21 = .ok (.ireturn, 1) := by decide +kernel
theorem d19_22 : decode jdk_52_method_40_code 22 = .ok (.iload_n 1, 1) := by decide +kernel
theorem d19_23 : decode jdk_52_method_40_code 23 = .ok (.ldc 227, 2) := by decide +kernel
theorem d19_25 : decode jdk_52_method_40_code 25 = .ok (.if_icmp .ge 11, 3) := by decide +kernel
theorem d19_28 : decode jdk_52_method_40_code 28 = .ok (.aload_n 0, 1) := by decide +kernel
theorem d19_29 : decode jdk_52_method_40_code 29 = .ok (.iload_n 1, 1) := by decide +kernel
theorem d19_30 : decode jdk_52_method_40_code 30 = .ok (.iload_n 2, 1) := by decide +kernel
theorem d19_31 : decode jdk_52_method_40_code 31 = .ok (.iload_n 3, 1) := by decide +kernel
theorem d19_32 : decode jdk_52_method_40_code 32 = .ok (.invokestatic 228, 3) := by decide +kernel
theorem d19_35 : decode jdk_52_method_40_code 35 = .ok (.ireturn, 1) := by decide +kernel
theorem d19_36 : decode jdk_52_method_40_code 36 = .ok (.aload_n 0, 1) := by decide +kernel
theorem d19_37 : decode jdk_52_method_40_code 37 = .ok (.iload_n 1, 1) := by decide +kernel
theorem d19_38 : decode jdk_52_method_40_code 38 = .ok (.iload_n 2, 1) := by decide +kernel
theorem d19_39 : decode jdk_52_method_40_code 39 = .ok (.iload_n 3, 1) := by decide +kernel
theorem d19_40 : decode jdk_52_method_40_code 40 = .ok (.invokestatic 232, 3) := by decide +kernel
theorem d19_43 : decode jdk_52_method_40_code 43 = .ok (.ireturn, 1) := by decide +kernel
theorem ef_19_RIII (m : MethodId) (x0 : Addr) (x1 : Int32) (x2 : Int32) (x3 : Int32) : entryFrame m #[(.ref x0), (.int x1), (.int x2), (.int x3)] 4 = mkF m 0 #[.val (.ref x0), .val (.int x1), .val (.int x2), .val (.int x3)] [] := by first | (simp [entryFrame, mkF, argsToLocals, Value.category]; done) | rfl
def Q_rmIxU (Z : State) (t2 : Addr) (vF : Value) (q j : Nat) (f cc : Nat → Int32) (ch : Int32) (h0 : Heap) (n0 : Nat) (v : Option Value) (h : Heap) (L : List Loc) : Prop := v = some (.int (Int32.ofNat j)) ∧ Fr n0 L ∧ h = h0
theorem pd_13 : parseMethodDescriptor "(II)I" = some ⟨[.int, .int], some .int⟩ := by decide +kernel
set_option maxRecDepth 65536 in
set_option maxHeartbeats 40000000 in
theorem rmIxU (l : Launch) (Z : State) (a0 : Array Value) (hw : ∀ d ∈ tables_1, d.before a0 Z = true) (ws : List Jvm.Cond) (t2 : Addr) (vF : Value) (q j : Nat) (f cc : Nat → Int32) (ch : Int32) (h0 : Heap) (n0 : Nat) (Z0 : n0 ≤ h0.size) (O4 : Sta Z h0 "jdk/internal/util/Preconditions" "SIOOBE_FORMATTER" "Ljava/util/function/BiFunction;" vF) (hvF : vF.isRef = true) (OA : Sta Z h0 "java/lang/StringUTF16" "$assertionsDisabled" "Z" (.int (1 : Int32))) (OH : Sta Z h0 "java/lang/StringUTF16" "HI_BYTE_SHIFT" "I" (.int (0 : Int32))) (OL : Sta Z h0 "java/lang/StringUTF16" "LO_BYTE_SHIFT" "I" (.int (8 : Int32))) (Aa2 : BArr Z h0 t2 14 f) (hu : own_U f 7 14 cc) (hch : ch < (65536 : Int32)) (hj : q ≤ j) (hjn : j < 7) (hfj : cc j = ch) (hff : ∀ i, q ≤ i → i < j → ¬ cc i = ch) :
    MetFree l (⟨"java/lang/StringUTF16", "indexOf", "([BIII)I"⟩ : MethodName) (head1 (Jvm.Cond.code (⟨"java/lang/StringUTF16", "indexOf", "([BIII)I"⟩ : MethodName) jdk_52_method_40_code 4 (some .int) :: ws) ({ frames := 4, cells := 0, slots := 0, locals := 70 } : Room)) (fun a U => a = #[(.ref t2), (.int ch), (.int (Int32.ofNat q)), (.int (Int32.ofNat 7))] ∧ Z.Warmed39 U.vm ∧ U.heap = h0) (fun _ _ _ _ _ => True) (fun _ U o U' => ∃ v L, o = .returned v ∧ Q_rmIxU Z t2 vF q j f cc ch h0 n0 v U'.heap L ∧ FrameEnd U o U' L ({ frames := 4, cells := 0, slots := 0, locals := 70 } : Room).cells ({ frames := 4, cells := 0, slots := 0, locals := 70 } : Room).slots) := by
  refine own_met (y := (⟨"java/lang/StringUTF16", "indexOf", "([BIII)I"⟩ : MethodName)) (Q := (Q_rmIxU Z t2 vF q j f cc ch h0 n0)) (plainFor_of_name pn_11) fun p e s m below meth c s₁ X0 hx hby hml hret hlk hown hnm hZ e0 => ?_
  refine own_entry (ef_19_RIII m t2 ch (Int32.ofNat q) (Int32.ofNat 7)) ?_
  obtain ⟨c1, Ar1, hsz1, hat1⟩ := id Aa2
  refine own_to s₁ (mkF m 2 #[.val (.ref t2), .val (.int ch), .val (.int (Int32.ofNat q)), .val (.int (Int32.ofNat 7))] [(.int (0 : Int32)), (.int (Int32.ofNat q))]) (fun tq kq => XS.iloadN X0.here hx rfl (hb hby d19_0) rfl (XS.iconst X0.here hx rfl (hb hby d19_1) kq)) ?_
  obtain ⟨_, _, ⟨T1, L1, k1, n1⟩, -, X1, ⟨Lc1, hQ1, l1, y1, z1⟩, st1⟩ := Jvm.LawKit.callS X0 hx (y := (⟨"java/lang/Math", "max", "(II)I"⟩ : MethodName)) hown (mvT hZ (own_w hw 92 rfl)) (mvT hZ (own_w hw 93 rfl)) (mvT hZ (own_w hw 94 rfl)) (mvT hZ (own_w hw 95 rfl)) (by decide) (backOf (W := 0) (rmMax l Z a0 hw [] (Int32.ofNat q) (0 : Int32) h0 n0 Z0 (own_nonneg (by omega))) hZ (own_w hw 95 rfl) (own_w hw 94 rfl) (by decide) (by decide)) (g := (mkF m 2 #[.val (.ref t2), .val (.int ch), .val (.int (Int32.ofNat q)), .val (.int (Int32.ofNat 7))] [(.int (0 : Int32)), (.int (Int32.ofNat q))])) rfl (by rw [hml]; rfl) (argsL := [(.int (Int32.ofNat q)), (.int (0 : Int32))]) (rest := []) (lenOf pd_13 rfl) rfl (by show 2 * 0 + _ ≤ _; exact Nat.le_of_eq rfl) (hb hby d19_2) (fun _ _ => ⟨rfl, e0, (by decide : 0 + 0 ≤ _), (by decide : 0 + 0 ≤ _)⟩)
  dsimp only [Pt.U, Pt.locs, Pt.cells, Pt.slots] at X1 l1 y1 z1 st1 hQ1
  have l1y := l1.symm
  clear l1
  subst l1y
  obtain rfl : k1 = 0 := y1
  obtain rfl : n1 = 0 := z1
  obtain ⟨rfl, N1q, e1⟩ := hQ1
  have N1 := Fr.app (Fr.nil n0) N1q
  refine own_to T1 (mkF m 9 #[.val (.ref t2), .val (.int ch), .val (.int (Int32.ofNat q)), .val (.int (Int32.ofNat 7))] [(.int (c1.slots.size.toInt32)), (.int (Int32.ofNat 7))]) (fun tq kq => st1 _ (XS.istoreN X1.here hx rfl (hb hby d19_5) rfl (l' := #[.val (.ref t2), .val (.int ch), .val (.int (Int32.ofNat q)), .val (.int (Int32.ofNat 7))]) rfl (XS.iloadN X1.here hx rfl (hb hby d19_6) rfl (XS.aloadN X1.here hx rfl (hb hby d19_7) rfl rfl (X1.arraylength hx (by rw [e1]; exact Ar1.1) (State.isArrayOf_alike hZ.alike Ar1.2.1) (g := (mkF m 8 #[.val (.ref t2), .val (.int ch), .val (.int (Int32.ofNat q)), .val (.int (Int32.ofNat 7))] [(.ref t2), (.int (Int32.ofNat 7))])) rfl rfl (hb hby d19_8) _ kq))))) ?_
  rw [show c1.slots.size.toInt32 = Int32.ofNat (2 * 7) from by rw [hsz1] <;> rfl]
  refine own_to T1 (mkF m 11 #[.val (.ref t2), .val (.int ch), .val (.int (Int32.ofNat q)), .val (.int (Int32.ofNat 7))] [(.int ((Int32.ofNat (2 * 7)) >>> ((1 : Int32) &&& 31))), (.int (Int32.ofNat 7))]) (fun tq kq => XS.iconst X1.here hx rfl (hb hby d19_9) (XS.ishr X1.here hx rfl (hb hby d19_10) rfl kq)) ?_
  rw [show ((Int32.ofNat (2 * 7)) >>> ((1 : Int32) &&& 31)) = (Int32.ofNat 7) from own_shr1 (by decide)]
  obtain ⟨_, _, ⟨T2, L2, k2, n2⟩, -, X2, ⟨Lc2, hQ2, l2, y2, z2⟩, st2⟩ := Jvm.LawKit.callS X1 hx (y := (⟨"java/lang/Math", "min", "(II)I"⟩ : MethodName)) hown (mvT hZ (own_w hw 96 rfl)) (mvT hZ (own_w hw 97 rfl)) (mvT hZ (own_w hw 94 rfl)) (mvT hZ (own_w hw 98 rfl)) (by decide) (backOf (W := 0) (rmMin l Z a0 hw [] (Int32.ofNat 7) (Int32.ofNat 7) h0 n0 Z0 (mt (own_ltn (by omega) (by omega)).mp (by omega))) hZ (own_w hw 98 rfl) (own_w hw 94 rfl) (by decide) (by decide)) (g := (mkF m 11 #[.val (.ref t2), .val (.int ch), .val (.int (Int32.ofNat q)), .val (.int (Int32.ofNat 7))] [(.int (Int32.ofNat 7)), (.int (Int32.ofNat 7))])) rfl (by rw [hml]; rfl) (argsL := [(.int (Int32.ofNat 7)), (.int (Int32.ofNat 7))]) (rest := []) (lenOf pd_13 rfl) rfl (by show 2 * 0 + _ ≤ _; exact Nat.le_of_eq rfl) (hb hby d19_11) (fun _ _ => ⟨rfl, e1, (by decide : 0 + 0 ≤ _), (by decide : 0 + 0 ≤ _)⟩)
  dsimp only [Pt.U, Pt.locs, Pt.cells, Pt.slots] at X2 l2 y2 z2 st2 hQ2
  have l2y := l2.symm
  clear l2
  subst l2y
  obtain rfl : k2 = 0 := y2
  obtain rfl : n2 = 0 := z2
  obtain ⟨rfl, N2q, e2⟩ := hQ2
  have N2 := Fr.app N1 N2q
  refine own_to T2 (mkF m 30 #[.val (.ref t2), .val (.int ch), .val (.int (Int32.ofNat q)), .val (.int (Int32.ofNat 7))] [(.int ch), (.ref t2)]) (fun tq kq => st2 _ (XS.istoreN X2.here hx rfl (hb hby d19_14) rfl (l' := #[.val (.ref t2), .val (.int ch), .val (.int (Int32.ofNat q)), .val (.int (Int32.ofNat 7))]) rfl (XS.iloadN X2.here hx rfl (hb hby d19_15) rfl (XS.iloadN X2.here hx rfl (hb hby d19_16) rfl (XS.icmpYes X2.here hx rfl (pc0 := 17) (pc' := 22) rfl (hb hby d19_17) rfl (tlt ((own_ltn (by omega) (by omega)).mpr (by omega))).1 (by decide) (by decide) (XS.iloadN X2.here hx rfl (hb hby d19_22) rfl (X2.ldcInt hx hown (mvT hZ (own_w hw 99 rfl)) (g := (mkF m 23 #[.val (.ref t2), .val (.int ch), .val (.int (Int32.ofNat q)), .val (.int (Int32.ofNat 7))] [(.int ch)])) rfl (hb hby d19_23) _ (XS.icmpNo X2.here hx rfl (hb hby d19_25) rfl (tlt hch).2.1 (XS.aloadN X2.here hx rfl (hb hby d19_28) rfl rfl (XS.iloadN X2.here hx rfl (hb hby d19_29) rfl kq)))))))))) ?_
  refine own_to T2 (mkF m 32 #[.val (.ref t2), .val (.int ch), .val (.int (Int32.ofNat q)), .val (.int (Int32.ofNat 7))] [(.int (Int32.ofNat 7)), (.int (Int32.ofNat q)), (.int ch), (.ref t2)]) (fun tq kq => XS.iloadN X2.here hx rfl (hb hby d19_30) rfl (XS.iloadN X2.here hx rfl (hb hby d19_31) rfl kq)) ?_
  obtain ⟨_, _, ⟨T3, L3, k3, n3⟩, -, X3, ⟨Lc3, hQ3, l3, y3, z3⟩, st3⟩ := Jvm.LawKit.callS X2 hx (y := (⟨"java/lang/StringUTF16", "indexOfChar", "([BIII)I"⟩ : MethodName)) hown (mvT hZ (own_w hw 100 rfl)) (mvT hZ (own_w hw 101 rfl)) (mvT hZ (own_w hw 24 rfl)) (mvT hZ (own_w hw 102 rfl)) (by decide) (backOf (W := 0) (rmIxC l Z a0 hw [] t2 vF q j f cc ch h0 n0 Z0 O4 hvF OA OH OL Aa2 hu hj hjn hfj hff) hZ (own_w hw 102 rfl) (own_w hw 24 rfl) (by decide) (by decide)) (g := (mkF m 32 #[.val (.ref t2), .val (.int ch), .val (.int (Int32.ofNat q)), .val (.int (Int32.ofNat 7))] [(.int (Int32.ofNat 7)), (.int (Int32.ofNat q)), (.int ch), (.ref t2)])) rfl (by rw [hml]; rfl) (argsL := [(.ref t2), (.int ch), (.int (Int32.ofNat q)), (.int (Int32.ofNat 7))]) (rest := []) (lenOf pd_17 rfl) rfl (by show 2 * 0 + _ ≤ _; exact Nat.le_of_eq rfl) (hb hby d19_32) (fun _ _ => ⟨rfl, e2, (by decide : 0 + 0 ≤ _), (by decide : 0 + 0 ≤ _)⟩)
  dsimp only [Pt.U, Pt.locs, Pt.cells, Pt.slots] at X3 l3 y3 z3 st3 hQ3
  have l3y := l3.symm
  clear l3
  subst l3y
  obtain rfl : k3 = 0 := y3
  obtain rfl : n3 = 0 := z3
  obtain ⟨rfl, N3q, e3⟩ := hQ3
  have N3 := Fr.app N2 N3q
  refine own_to T3 (mkF m 35 #[.val (.ref t2), .val (.int ch), .val (.int (Int32.ofNat q)), .val (.int (Int32.ofNat 7))] [(.int (Int32.ofNat j))]) (fun tq kq => st3 _ kq) ?_
  exact own_retI X3 hx hret hlk (hb hby d19_35) (by decide) (by decide) ⟨rfl, N3, e3⟩
theorem d15_0 : decode jdk_42_method_80_code 0 = .ok (.aload_n 0, 1) := by decide +kernel
theorem d15_1 : decode jdk_42_method_80_code 1 = .ok (.invokevirtual 492, 3) := by decide +kernel
theorem d15_4 : decode jdk_42_method_80_code 4 = .ok (.ifCond .eq 19, 3) := by decide +kernel
theorem d15_7 : decode jdk_42_method_80_code 7 = .ok (.aload_n 0, 1) := by decide +kernel
theorem d15_8 : decode jdk_42_method_80_code 8 = .ok (.getfield 9, 3) := by decide +kernel
theorem d15_11 : decode jdk_42_method_80_code 11 = .ok (.iload_n 1, 1) := by decide +kernel
theorem d15_12 : decode jdk_42_method_80_code 12 = .ok (.iload_n 2, 1) := by decide +kernel
theorem d15_13 : decode jdk_42_method_80_code 13 = .ok (.aload_n 0, 1) := by decide +kernel
theorem d15_14 : decode jdk_42_method_80_code 14 = .ok (.invokevirtual 505, 3) := by decide +kernel
theorem d15_17 : decode jdk_42_method_80_code 17 = .ok (.invokestatic 637, 3) := by decide +kernel
theorem d15_20 : decode jdk_42_method_80_code 20 = .ok (.goto 16, 3) := by decide +kernel
theorem d15_23 : decode jdk_42_method_80_code 23 = .ok (.aload_n 0, 1) := by decide +kernel
theorem d15_24 : decode jdk_42_method_80_code 24 = .ok (.getfield 9, 3) := by decide +kernel
theorem d15_27 : decode jdk_42_method_80_code 27 = .ok (.iload_n 1, 1) := by decide +kernel
theorem d15_28 : decode jdk_42_method_80_code 28 = .ok (.iload_n 2, 1) := by decide +kernel
theorem d15_29 : decode jdk_42_method_80_code 29 = .ok (.aload_n 0, 1) := by decide +kernel
theorem d15_30 : decode jdk_42_method_80_code 30 = .ok (.invokevirtual 505, 3) := by decide +kernel
theorem d15_33 : decode jdk_42_method_80_code 33 = .ok (.invokestatic 640, 3) := by decide +kernel
theorem d15_36 : decode jdk_42_method_80_code 36 = .ok (.ireturn, 1) := by decide +kernel
theorem ef_15_RII (m : MethodId) (x0 : Addr) (x1 : Int32) (x2 : Int32) : entryFrame m #[(.ref x0), (.int x1), (.int x2)] 3 = mkF m 0 #[.val (.ref x0), .val (.int x1), .val (.int x2)] [] := by first | (simp [entryFrame, mkF, argsToLocals, Value.category]; done) | rfl
def Q_rmIx (Z : State) (a2 t2 : Addr) (G1 : Int32) (vF : Value) (q j : Nat) (f cc : Nat → Int32) (ch : Int32) (h0 : Heap) (n0 : Nat) (v : Option Value) (h : Heap) (L : List Loc) : Prop := v = some (.int (Int32.ofNat j)) ∧ Fr n0 L ∧ h = h0
theorem pd_15 : parseMethodDescriptor "()I" = some ⟨[], some .int⟩ := by decide +kernel
set_option maxRecDepth 65536 in
set_option maxHeartbeats 40000000 in
theorem rmIx (l : Launch) (Z : State) (a0 : Array Value) (hw : ∀ d ∈ tables_1, d.before a0 Z = true) (ws : List Jvm.Cond) (a2 t2 : Addr) (G1 : Int32) (vF : Value) (q j : Nat) (f cc : Nat → Int32) (ch : Int32) (h0 : Heap) (n0 : Nat) (Z0 : n0 ≤ h0.size) (O2 : Sta Z h0 "java/lang/String" "COMPACT_STRINGS" "Z" (.int G1)) (hG : ¬ G1 = (0 : Int32)) (O4 : Sta Z h0 "jdk/internal/util/Preconditions" "SIOOBE_FORMATTER" "Ljava/util/function/BiFunction;" vF) (hvF : vF.isRef = true) (OA : Sta Z h0 "java/lang/StringUTF16" "$assertionsDisabled" "Z" (.int (1 : Int32))) (OH : Sta Z h0 "java/lang/StringUTF16" "HI_BYTE_SHIFT" "I" (.int (0 : Int32))) (OL : Sta Z h0 "java/lang/StringUTF16" "LO_BYTE_SHIFT" "I" (.int (8 : Int32))) (Ea2 : Exa Z h0 a2 "java/lang/String") (Fa2 : Fld Z h0 a2 "java/lang/String" "value" "[B" (.ref t2)) (Ca2 : Fld Z h0 a2 "java/lang/String" "coder" "B" (.int (1 : Int32))) (Aa2 : BArr Z h0 t2 14 f) (hu : own_U f 7 14 cc) (hch : ch < (65536 : Int32)) (hj : q ≤ j) (hjn : j < 7) (hfj : cc j = ch) (hff : ∀ i, q ≤ i → i < j → ¬ cc i = ch) :
    MetFree l (⟨"java/lang/String", "indexOf", "(II)I"⟩ : MethodName) (head1 (Jvm.Cond.code (⟨"java/lang/String", "indexOf", "(II)I"⟩ : MethodName) jdk_42_method_80_code 3 (some .int) :: ws) ({ frames := 5, cells := 0, slots := 0, locals := 90 } : Room)) (fun a U => a = #[(.ref a2), (.int ch), (.int (Int32.ofNat q))] ∧ Z.Warmed39 U.vm ∧ U.heap = h0) (fun _ _ _ _ _ => True) (fun _ U o U' => ∃ v L, o = .returned v ∧ Q_rmIx Z a2 t2 G1 vF q j f cc ch h0 n0 v U'.heap L ∧ FrameEnd U o U' L ({ frames := 5, cells := 0, slots := 0, locals := 90 } : Room).cells ({ frames := 5, cells := 0, slots := 0, locals := 90 } : Room).slots) := by
  refine own_met (y := (⟨"java/lang/String", "indexOf", "(II)I"⟩ : MethodName)) (Q := (Q_rmIx Z a2 t2 G1 vF q j f cc ch h0 n0)) (plainFor_of_name pn_18) fun p e s m below meth c s₁ X0 hx hby hml hret hlk hown hnm hZ e0 => ?_
  refine own_entry (ef_15_RII m a2 ch (Int32.ofNat q)) ?_
  refine own_to s₁ (mkF m 1 #[.val (.ref a2), .val (.int ch), .val (.int (Int32.ofNat q))] [(.ref a2)]) (fun tq kq => XS.aloadN X0.here hx rfl (hb hby d15_0) rfl rfl kq) ?_
  obtain ⟨cq1, kq1, q1a, q1b, q1c⟩ := isOf hZ e0 Ea2
  obtain ⟨_, _, ⟨T1, L1, k1, n1⟩, -, X1, ⟨Lc1, hQ1, l1, y1, z1⟩, st1⟩ := X0.virtualBack hx (y := (⟨"java/lang/String", "isLatin1", "()Z"⟩ : MethodName)) (z := (⟨"java/lang/String", "isLatin1", "()Z"⟩ : MethodName)) hown (mvT hZ (own_w hw 74 rfl)) (mvT hZ (own_w hw 75 rfl)) (notFace_of_selects (args := #[]) (mvT hZ (own_w hw 77 rfl))) (mvT hZ (own_w hw 77 rfl)) (mvT hZ (own_w hw 76 rfl)) (by decide) (backOf (W := 0) (rmLat1 l Z a0 hw [] a2 G1 h0 n0 Z0 O2 hG Ca2) hZ (own_w hw 78 rfl) (own_w hw 10 rfl) (by decide) (by decide)) q1a q1c (g := (mkF m 1 #[.val (.ref a2), .val (.int ch), .val (.int (Int32.ofNat q))] [(.ref a2)])) rfl (by rw [hml]; rfl) (Steps.refl _) (argsL := []) (rest := []) (lenOf pd_14 rfl) rfl (by show 2 * 0 + _ ≤ _; exact Nat.le_of_eq rfl) (hb hby d15_1) (fun _ _ => ⟨rfl, e0, (by decide : 0 + 0 ≤ _), (by decide : 0 + 0 ≤ _)⟩)
  dsimp only [Pt.U, Pt.locs, Pt.cells, Pt.slots] at X1 l1 y1 z1 st1 hQ1
  have l1y := l1.symm
  clear l1
  subst l1y
  obtain rfl : k1 = 0 := y1
  obtain rfl : n1 = 0 := z1
  obtain ⟨rfl, N1q, e1⟩ := hQ1
  have N1 := Fr.app (Fr.nil n0) N1q
  refine own_to T1 (mkF m 24 #[.val (.ref a2), .val (.int ch), .val (.int (Int32.ofNat q))] [(.ref a2)]) (fun tq kq => st1.trans (XS.ifYes X1.here hx rfl (pc0 := 4) (pc' := 23) rfl (hb hby d15_4) rfl ((if0 _ _).trans (teq (by decide : (0 : Int32) = (0 : Int32))).1) (by decide) (by decide) (XS.aloadN X1.here hx rfl (hb hby d15_23) rfl rfl kq))) ?_
  obtain ⟨T2, X2, e2, st2⟩ := getF X1 hx hZ hown (host := "") (Or.inl (own_w hw 54 rfl)) Via.refl e1 Fa2 (g := (mkF m 24 #[.val (.ref a2), .val (.int ch), .val (.int (Int32.ofNat q))] [(.ref a2)])) rfl rfl (hb hby d15_24)
  refine own_to T2 (mkF m 30 #[.val (.ref a2), .val (.int ch), .val (.int (Int32.ofNat q))] [(.ref a2), (.int (Int32.ofNat q)), (.int ch), (.ref t2)]) (fun tq kq => st2 _ (XS.iloadN X2.here hx rfl (hb hby d15_27) rfl (XS.iloadN X2.here hx rfl (hb hby d15_28) rfl (XS.aloadN X2.here hx rfl (hb hby d15_29) rfl rfl kq)))) ?_
  obtain ⟨cq3, kq3, q3a, q3b, q3c⟩ := isOf hZ e2 Ea2
  obtain ⟨_, _, ⟨T3, L3, k3, n3⟩, -, X3, ⟨Lc3, hQ3, l3, y3, z3⟩, st3⟩ := X2.virtualBack hx (y := (⟨"java/lang/String", "length", "()I"⟩ : MethodName)) (z := (⟨"java/lang/String", "length", "()I"⟩ : MethodName)) hown (mvT hZ (own_w hw 79 rfl)) (mvT hZ (own_w hw 80 rfl)) (notFace_of_selects (args := #[]) (mvT hZ (own_w hw 82 rfl))) (mvT hZ (own_w hw 82 rfl)) (mvT hZ (own_w hw 81 rfl)) (by decide) (backOf (W := 3) (rmLen1 l Z a0 hw [] a2 t2 7 f G1 h0 n0 Z0 O2 hG Ea2 Fa2 Ca2 Aa2 (by decide)) hZ (own_w hw 83 rfl) (own_w hw 10 rfl) (by decide) (by decide)) q3a q3c (g := (mkF m 30 #[.val (.ref a2), .val (.int ch), .val (.int (Int32.ofNat q))] [(.ref a2), (.int (Int32.ofNat q)), (.int ch), (.ref t2)])) rfl (by rw [hml]; rfl) (Steps.refl _) (argsL := []) (rest := [(.int (Int32.ofNat q)), (.int ch), (.ref t2)]) (lenOf pd_15 rfl) rfl (by show 2 * 0 + _ ≤ _; exact Nat.le_of_eq rfl) (hb hby d15_30) (fun _ _ => ⟨rfl, e2, (by decide : 0 + 0 ≤ _), (by decide : 0 + 0 ≤ _)⟩)
  dsimp only [Pt.U, Pt.locs, Pt.cells, Pt.slots] at X3 l3 y3 z3 st3 hQ3
  have l3y := l3.symm
  clear l3
  subst l3y
  obtain rfl : k3 = 0 := y3
  obtain rfl : n3 = 0 := z3
  obtain ⟨rfl, N3q, e3⟩ := hQ3
  have N3 := Fr.app N1 N3q
  refine own_to T3 (mkF m 33 #[.val (.ref a2), .val (.int ch), .val (.int (Int32.ofNat q))] [(.int (Int32.ofNat 7)), (.int (Int32.ofNat q)), (.int ch), (.ref t2)]) (fun tq kq => st3.trans kq) ?_
  obtain ⟨_, _, ⟨T4, L4, k4, n4⟩, -, X4, ⟨Lc4, hQ4, l4, y4, z4⟩, st4⟩ := Jvm.LawKit.callS X3 hx (y := (⟨"java/lang/StringUTF16", "indexOf", "([BIII)I"⟩ : MethodName)) hown (mvT hZ (own_w hw 89 rfl)) (mvT hZ (own_w hw 90 rfl)) (mvT hZ (own_w hw 24 rfl)) (mvT hZ (own_w hw 91 rfl)) (by decide) (backOf (W := 0) (rmIxU l Z a0 hw [] t2 vF q j f cc ch h0 n0 Z0 O4 hvF OA OH OL Aa2 hu hch hj hjn hfj hff) hZ (own_w hw 91 rfl) (own_w hw 24 rfl) (by decide) (by decide)) (g := (mkF m 33 #[.val (.ref a2), .val (.int ch), .val (.int (Int32.ofNat q))] [(.int (Int32.ofNat 7)), (.int (Int32.ofNat q)), (.int ch), (.ref t2)])) rfl (by rw [hml]; rfl) (argsL := [(.ref t2), (.int ch), (.int (Int32.ofNat q)), (.int (Int32.ofNat 7))]) (rest := []) (lenOf pd_17 rfl) rfl (by show 2 * 0 + _ ≤ _; exact Nat.le_of_eq rfl) (hb hby d15_33) (fun _ _ => ⟨rfl, e3, (by decide : 0 + 0 ≤ _), (by decide : 0 + 0 ≤ _)⟩)
  dsimp only [Pt.U, Pt.locs, Pt.cells, Pt.slots] at X4 l4 y4 z4 st4 hQ4
  have l4y := l4.symm
  clear l4
  subst l4y
  obtain rfl : k4 = 0 := y4
  obtain rfl : n4 = 0 := z4
  obtain ⟨rfl, N4q, e4⟩ := hQ4
  have N4 := Fr.app N3 N4q
  refine own_to T4 (mkF m 36 #[.val (.ref a2), .val (.int ch), .val (.int (Int32.ofNat q))] [(.int (Int32.ofNat j))]) (fun tq kq => st4 _ kq) ?_
  exact own_retI X4 hx hret hlk (hb hby d15_36) (by decide) (by decide) ⟨rfl, N4, e4⟩
section OwnCopyB
variable {p : Program} {l : Launch} {e : Env} {R : Room} {s : State} {m : MethodId} {args : Array Value} {below : List Frame} {meth : Method} {c : Code} {T : State} {locs : List Loc} {cells slots : Nat} {Z : State} {h : Heap}
/-- System.arraycopy from one byte array over the whole of another one: the places of dst are those of src -/
theorem own_copyB (X : Stand p l e R s m args below meth c T locs cells slots) (hx : p.tables.exec = Jvm.exec) (hZ : Z.Warmed39 s.vm) {a0 : Array Value} {own : String} {index : Nat} (hown : s.vm.findClass own = some m.cls)
    (w1 : (Cond.methodLink own index arraycopyName).before a0 Z = true) (w2 : (Cond.native arraycopyName).before a0 Z = true) (w3 : (Cond.static arraycopyName).before a0 Z = true) (w4 : (Cond.initialized "java/lang/System").before a0 Z = true)
    (eT : T.heap = h) {src dst : Addr} {ns k n0 i : Nat} {f g0 : Nat → Int32} (As : BArr Z h src ns f) (Ad : BArr Z h dst k g0) (gd : n0 ≤ dst) (N : Fr n0 locs) (hi : i + k ≤ ns) (hb : ns < 1000) (hv : ∀ j, j < ns → fits .byte (.int (f j)) = true)
    {g : JFrame} (hg : g.method = m) (hsize : g.locals.size = c.maxLocals) {rest : List Value} (hst : g.stack = .int (Int32.ofNat k) :: .int (0 : Int32) :: .ref dst :: .int (Int32.ofNat i) :: .ref src :: rest) (hd : decode c.code g.pc = .ok (.invokestatic index, 3))
    (hf : 1 ≤ R.frames) (hl : 2 * g.monitorRoom + (rest.map fun v => v.category).sum + (nativeFrameWords "java/lang/System" "arraycopy" 5 + 11) ≤ R.locals) :
    ∃ (T' : State) (h' : Heap) (L' : List Loc), Stand p l e R s m args below meth c T' L' cells slots ∧ T'.heap = h' ∧ Keep h h' [dst] ∧ Fr n0 L' ∧ BArr Z h' dst k (fun j => f (i + j)) ∧
      ∀ target, Steps p.tables e below (T'.setTop { g with pc := g.pc + 3, stack := rest }) target → Steps p.tables e below (T.setTop g) target := by
  subst eT
  obtain ⟨cs, ⟨s1, ⟨s2, ks, s3, sc, s4⟩, s5⟩, ss, sv⟩ := As
  obtain ⟨cd, ⟨d1, ⟨d2, kd, d3, dc, d4⟩, d5⟩, ds, -⟩ := Ad
  obtain ⟨ks', s6, s7⟩ := hZ.alike.2.2 _ _ s3
  obtain ⟨kd', d6, d7⟩ := hZ.alike.2.2 _ _ d3
  have ei : (Int32.ofNat i).toInt = i := toInt_of rfl (by omega)
  have ek : (Int32.ofNat k).toInt = k := toInt_of rfl (by omega)
  have ci : (Int32.ofNat i).toNatClampNeg = i := clamp_of rfl (by omega)
  have ck : (Int32.ofNat k).toNatClampNeg = k := clamp_of rfl (by omega)
  have z0 : (0 : Int32).toInt = 0 := by decide
  have h00 : (0 : Int32).toNatClampNeg = 0 := by decide
  obtain ⟨vm', X', st⟩ := X.arraycopy hx hown (mvT hZ w1) (mvT hZ w2) (mvT hZ w3) (mvT hZ w4) (src := src) (dst := dst) (srcPos := Int32.ofNat i) (destPos := 0) (n := Int32.ofNat k) (cs := cs) (cd := cd) (ks := ks') (kd := kd') (sComp := sc) (dComp := dc) (sType := .byte) (dType := .byte)
    s1 d1 s2 d2 s5 d5 s6 d6 (by rw [s7]; exact s4) (by rw [d7]; exact d4) (by decide)
    (fun q => by rw [Int32.lt_iff_toInt_lt] at q; omega) (by decide) (fun q => by rw [Int32.lt_iff_toInt_lt] at q; omega) (by omega) (by omega)
    (fun vm' _ j hj => by
      rw [ck] at hj
      rw [ci, Array.getD_eq_getD_getElem?, sv (i + j) (by omega)]
      exact ⟨hv (i + j) (by omega), trivial⟩) hg hsize hst hd hf hl
  obtain ⟨f1, f2, f3, -, -⟩ := Cell.storePairs_facts cd (0 : Int32).toNatClampNeg (cs.stretch (Int32.ofNat i).toNatClampNeg (Int32.ofNat k).toNatClampNeg).zipIdx
  have hlt := (Array.getElem?_eq_some_iff.mp d1).1
  refine ⟨_, _, _, X', rfl, ?_, ?_, ?_, st⟩
  · refine ⟨?_, fun y cy hy hn => ?_, fun y cy hy => ?_⟩
    · show T.heap.size ≤ (T.heap.setIfInBounds dst _).size
      simp
    · show (T.heap.setIfInBounds dst _)[y]? = some cy
      have q : ¬ dst = y := fun z => hn (by rw [z]; exact List.mem_singleton.mpr rfl)
      rw [Array.getElem?_setIfInBounds, if_neg q]; exact hy
    · show ∃ c', (T.heap.setIfInBounds dst _)[y]? = some c' ∧ _
      by_cases q : dst = y
      · subst q
        cases d1.symm.trans hy
        exact ⟨_, by rw [Array.getElem?_setIfInBounds, if_pos rfl, if_pos hlt]; rfl, f1, f2, f3⟩
      · exact ⟨cy, by rw [Array.getElem?_setIfInBounds, if_neg q]; exact hy, rfl, rfl, rfl⟩
  · refine N.app fun y hy => ?_
    obtain ⟨q, -, rfl⟩ := List.mem_map.mp hy
    exact gd
  · refine ⟨_, ⟨by show (T.heap.setIfInBounds dst _)[dst]? = _; rw [Array.getElem?_setIfInBounds, if_pos rfl, if_pos hlt]; rfl, ⟨fun z hz => d2 z (f2.symm.trans hz), kd, by rw [show _ = cd.cls from f1]; exact d3, dc, d4⟩, fun z => d5 (f2.symm.trans z)⟩, f3.trans ds, fun j hj => ?_⟩
    show (cd.storeRun (0 : Int32).toNatClampNeg (cs.stretch (Int32.ofNat i).toNatClampNeg (Int32.ofNat k).toNatClampNeg)).slots[j]? = _
    rw [h00, ci, ck, Cell.storeRun_get _ _ _ _ (by rw [Cell.stretch_length, ds]; omega), Cell.stretch_length, if_pos ⟨Nat.zero_le _, by omega⟩]
    simp [Cell.stretch, hj, Array.getD_eq_getD_getElem?, sv (i + j) (by omega)]
end OwnCopyB
theorem d46_0 : decode jdk_65_method_131_code 0 = .ok (.iload_n 1, 1) := by decide +kernel
theorem d46_1 : decode jdk_65_method_131_code 1 = .ok (.iload_n 0, 1) := by decide +kernel
theorem d46_2 : decode jdk_65_method_131_code 2 = .ok (.if_icmp .ge 35, 3) := by decide +kernel
theorem d46_5 : decode jdk_65_method_131_code 5 = .ok (.new 43, 3) := by decide +kernel
theorem d46_8 : decode jdk_65_method_131_code 8 = .ok (.dup, 1) := by decide +kernel
theorem d46_9 : decode jdk_65_method_131_code 9 = .ok (.new 45, 3) := by decide +kernel
theorem d46_12 : decode jdk_65_method_131_code 12 = .ok (.dup, 1) := by decide +kernel
theorem d46_13 : decode jdk_65_method_131_code 13 = .ok (.invokespecial 47, 3) := by decide +kernel
theorem d46_16 : decode jdk_65_method_131_code 16 = .ok (.iload_n 0, 1) := by decide +kernel
theorem d46_17 : decode jdk_65_method_131_code 17 = .ok (.invokevirtual 54, 3) := by decide +kernel
theorem d46_20 : decode jdk_65_method_131_code 20 = .ok (.ldc_w 337, 3) := by decide +kernel
theorem d46_23 : decode jdk_65_method_131_code 23 = .ok (.invokevirtual 50, 3) := by decide +kernel
theorem d46_26 : decode jdk_65_method_131_code 26 = .ok (.iload_n 1, 1) := by decide +kernel
theorem d46_27 : decode jdk_65_method_131_code 27 = .ok (.invokevirtual 54, 3) := by decide +kernel
theorem d46_30 : decode jdk_65_method_131_code 30 = .ok (.invokevirtual 61, 3) := by decide +kernel
theorem d46_33 : decode jdk_65_method_131_code 33 = .ok (.invokespecial 65, 3) := by decide +kernel
theorem d46_37 : decode jdk_65_method_131_code 37 = .ok (.return_, 1) := by decide +kernel
theorem pn_46 : plainName "java/util/Arrays" = true := by first | (simp [plainName, overriddenIn]; done) | decide +kernel
theorem ef_46_II (m : MethodId) (x0 : Int32) (x1 : Int32) : entryFrame m #[(.int x0), (.int x1)] 2 = mkF m 0 #[.val (.int x0), .val (.int x1)] [] := by first | (simp [entryFrame, mkF, argsToLocals, Value.category]; done) | rfl
def Q_rmChk (Z : State) (x0 x1 : Int32) (h0 : Heap) (n0 : Nat) (v : Option Value) (h : Heap) (L : List Loc) : Prop := v = none ∧ Fr n0 L ∧ h = h0
set_option maxRecDepth 65536 in
set_option maxHeartbeats 40000000 in
theorem rmChk (l : Launch) (Z : State) (a0 : Array Value) (hw : ∀ d ∈ tables_1, d.before a0 Z = true) (ws : List Jvm.Cond) (x0 x1 : Int32) (h0 : Heap) (n0 : Nat) (Z0 : n0 ≤ h0.size) (hp0 : ¬ x1 < x0) :
    MetFree l (⟨"java/util/Arrays", "checkLength", "(II)V"⟩ : MethodName) (head1 (Jvm.Cond.code (⟨"java/util/Arrays", "checkLength", "(II)V"⟩ : MethodName) jdk_65_method_131_code 2 none :: ws) ({ frames := 0, cells := 0, slots := 0, locals := 0 } : Room)) (fun a U => a = #[(.int x0), (.int x1)] ∧ Z.Warmed39 U.vm ∧ U.heap = h0) (fun _ _ _ _ _ => True) (fun _ U o U' => ∃ v L, o = .returned v ∧ Q_rmChk Z x0 x1 h0 n0 v U'.heap L ∧ FrameEnd U o U' L ({ frames := 0, cells := 0, slots := 0, locals := 0 } : Room).cells ({ frames := 0, cells := 0, slots := 0, locals := 0 } : Room).slots) := by
  refine own_met (y := (⟨"java/util/Arrays", "checkLength", "(II)V"⟩ : MethodName)) (Q := (Q_rmChk Z x0 x1 h0 n0)) (plainFor_of_name pn_46) fun p e s m below meth c s₁ X0 hx hby hml hret hlk hown hnm hZ e0 => ?_
  refine own_entry (ef_46_II m x0 x1) ?_
  refine own_to s₁ (mkF m 37 #[.val (.int x0), .val (.int x1)] []) (fun tq kq => XS.iloadN X0.here hx rfl (hb hby d46_0) rfl (XS.iloadN X0.here hx rfl (hb hby d46_1) rfl (XS.icmpYes X0.here hx rfl (pc0 := 2) (pc' := 37) rfl (hb hby d46_2) rfl (flt hp0).2.1 (by decide) (by decide) kq))) ?_
  exact own_retV X0 hx hret hlk (hb hby d46_37) (by decide) (by decide) ⟨rfl, (Fr.nil n0), e0⟩
theorem d45_0 : decode jdk_65_method_133_code 0 = .ok (.iload_n 1, 1) := by decide +kernel
theorem d45_1 : decode jdk_65_method_133_code 1 = .ok (.iload_n 2, 1) := by decide +kernel
theorem d45_2 : decode jdk_65_method_133_code 2 = .ok (.invokestatic 343, 3) := by decide +kernel
theorem d45_5 : decode jdk_65_method_133_code 5 = .ok (.iload_n 2, 1) := by decide +kernel
theorem d45_6 : decode jdk_65_method_133_code 6 = .ok (.iload_n 1, 1) := by decide +kernel
theorem d45_7 : decode jdk_65_method_133_code 7 = .ok (.isub, 1) := by decide +kernel
theorem d45_8 : decode jdk_65_method_133_code 8 = .ok (.istore_n 3, 1) := by decide +kernel
theorem d45_9 : decode jdk_65_method_133_code 9 = .ok (.iload_n 3, 1) := by decide +kernel
theorem d45_10 : decode jdk_65_method_133_code 10 = .ok (.newarray .byte, 2) := by decide +kernel
theorem d45_12 : decode jdk_65_method_133_code 12 = .ok (.astore 4, 2) := by decide +kernel
theorem d45_14 : decode jdk_65_method_133_code 14 = .ok (.aload_n 0, 1) := by decide +kernel
theorem d45_15 : decode jdk_65_method_133_code 15 = .ok (.iload_n 1, 1) := by decide +kernel
theorem d45_16 : decode jdk_65_method_133_code 16 = .ok (.aload 4, 2) := by decide +kernel
theorem d45_18 : decode jdk_65_method_133_code 18 = .ok (.iconst 0, 1) := by decide +kernel
theorem d45_19 : decode jdk_65_method_133_code 19 = .ok (.aload_n 0, 1) := by decide +kernel
theorem d45_20 : decode jdk_65_method_133_code 20 = .ok (.arraylength, 1) := by decide +kernel
theorem d45_21 : decode jdk_65_method_133_code 21 = .ok (.iload_n 1, 1) := by decide +kernel
theorem d45_22 : decode jdk_65_method_133_code 22 = .ok (.isub, 1) := by decide +kernel
theorem d45_23 : decode jdk_65_method_133_code 23 = .ok (.iload_n 3, 1) := by decide +kernel
theorem d45_24 : decode jdk_65_method_133_code 24 = .ok (.invokestatic 304, 3) := by decide +kernel
theorem d45_27 : decode jdk_65_method_133_code 27 = .ok (.invokestatic 150, 3) := by decide +kernel
theorem d45_30 : decode jdk_65_method_133_code 30 = .ok (.aload 4, 2) := by decide +kernel
theorem d45_32 : decode jdk_65_method_133_code 32 = .ok (.areturn, 1) := by decide +kernel
theorem ef_45_RII (m : MethodId) (x0 : Addr) (x1 : Int32) (x2 : Int32) : entryFrame m #[(.ref x0), (.int x1), (.int x2)] 5 = mkF m 0 #[.val (.ref x0), .val (.int x1), .val (.int x2), .unset, .unset] [] := by first | (simp [entryFrame, mkF, argsToLocals, Value.category]; done) | rfl
def Q_rmCRB (Z : State) (t2 : Addr) (q j : Nat) (f : Nat → Int32) (h0 : Heap) (n0 : Nat) (v : Option Value) (h : Heap) (L : List Loc) : Prop := ∃ b, v = some (.ref b) ∧ Fr n0 L ∧ Keep h0 h [] ∧ h0.size ≤ b ∧ n0 ≤ b ∧ BArr Z h b (j - q) (fun i => f (q + i))
set_option maxRecDepth 65536 in
set_option maxHeartbeats 40000000 in
theorem rmCRB (l : Launch) (Z : State) (a0 : Array Value) (hw : ∀ d ∈ tables_1, d.before a0 Z = true) (ws : List Jvm.Cond) (t2 : Addr) (q j : Nat) (f : Nat → Int32) (h0 : Heap) (n0 : Nat) (Z0 : n0 ≤ h0.size) (Aa2 : BArr Z h0 t2 14 f) (hfb : ∀ i, i < 14 → fits .byte (.int (f i)) = true) (hj : q ≤ j) (hjn : j < 14) :
    MetFree l (⟨"java/util/Arrays", "copyOfRangeByte", "([BII)[B"⟩ : MethodName) (head1 (Jvm.Cond.code (⟨"java/util/Arrays", "copyOfRangeByte", "([BII)[B"⟩ : MethodName) jdk_65_method_133_code 5 (some (.array .byte)) :: ws) ({ frames := 1, cells := 1, slots := 14, locals := 60 } : Room)) (fun a U => a = #[(.ref t2), (.int (Int32.ofNat q)), (.int (Int32.ofNat j))] ∧ Z.Warmed39 U.vm ∧ U.heap = h0) (fun _ _ _ _ _ => True) (fun _ U o U' => ∃ v L, o = .returned v ∧ Q_rmCRB Z t2 q j f h0 n0 v U'.heap L ∧ FrameEnd U o U' L ({ frames := 1, cells := 1, slots := 14, locals := 60 } : Room).cells ({ frames := 1, cells := 1, slots := 14, locals := 60 } : Room).slots) := by
  refine own_met (y := (⟨"java/util/Arrays", "copyOfRangeByte", "([BII)[B"⟩ : MethodName)) (Q := (Q_rmCRB Z t2 q j f h0 n0)) (plainFor_of_name pn_46) fun p e s m below meth c s₁ X0 hx hby hml hret hlk hown hnm hZ e0 => ?_
  refine own_entry (ef_45_RII m t2 (Int32.ofNat q) (Int32.ofNat j)) ?_
  have K0 := Keep.refl h0 []
  refine own_to s₁ (mkF m 2 #[.val (.ref t2), .val (.int (Int32.ofNat q)), .val (.int (Int32.ofNat j)), .unset, .unset] [(.int (Int32.ofNat j)), (.int (Int32.ofNat q))]) (fun tq kq => XS.iloadN X0.here hx rfl (hb hby d45_0) rfl (XS.iloadN X0.here hx rfl (hb hby d45_1) rfl kq)) ?_
  obtain ⟨_, _, ⟨T1, L1, k1, n1⟩, -, X1, ⟨Lc1, hQ1, l1, y1, z1⟩, st1⟩ := Jvm.LawKit.callS X0 hx (y := (⟨"java/util/Arrays", "checkLength", "(II)V"⟩ : MethodName)) hown (mvT hZ (own_w hw 189 rfl)) (mvT hZ (own_w hw 190 rfl)) (mvT hZ (own_w hw 184 rfl)) (mvT hZ (own_w hw 191 rfl)) (by decide) (backOf (W := 0) (rmChk l Z a0 hw [] (Int32.ofNat q) (Int32.ofNat j) h0 n0 Z0 (mt (own_ltn (by omega) (by omega)).mp (by omega))) hZ (own_w hw 191 rfl) (own_w hw 184 rfl) (by decide) (by decide)) (g := (mkF m 2 #[.val (.ref t2), .val (.int (Int32.ofNat q)), .val (.int (Int32.ofNat j)), .unset, .unset] [(.int (Int32.ofNat j)), (.int (Int32.ofNat q))])) rfl (by rw [hml]; rfl) (argsL := [(.int (Int32.ofNat q)), (.int (Int32.ofNat j))]) (rest := []) (lenOf pd_30 rfl) rfl (by show 2 * 0 + _ ≤ _; exact Nat.le_of_eq rfl) (hb hby d45_2) (fun _ _ => ⟨rfl, e0, (by decide : 0 + 0 ≤ _), (by decide : 0 + 0 ≤ _)⟩)
  dsimp only [Pt.U, Pt.locs, Pt.cells, Pt.slots] at X1 l1 y1 z1 st1 hQ1
  have l1y := l1.symm
  clear l1
  subst l1y
  obtain rfl : k1 = 0 := y1
  obtain rfl : n1 = 0 := z1
  obtain ⟨rfl, N1q, e1⟩ := hQ1
  have N1 := Fr.app (Fr.nil n0) N1q
  refine own_to T1 (mkF m 8 #[.val (.ref t2), .val (.int (Int32.ofNat q)), .val (.int (Int32.ofNat j)), .unset, .unset] [(.int ((Int32.ofNat j) - (Int32.ofNat q)))]) (fun tq kq => st1 _ (XS.iloadN X1.here hx rfl (hb hby d45_5) rfl (XS.iloadN X1.here hx rfl (hb hby d45_6) rfl (XS.isub X1.here hx rfl (hb hby d45_7) rfl kq)))) ?_
  rw [show ((Int32.ofNat j) - (Int32.ofNat q)) = (Int32.ofNat (j - q)) from own_subn j q hj (by omega)]
  refine own_to T1 (mkF m 10 #[.val (.ref t2), .val (.int (Int32.ofNat q)), .val (.int (Int32.ofNat j)), .val (.int (Int32.ofNat (j - q))), .unset] [(.int (Int32.ofNat (j - q)))]) (fun tq kq => XS.istoreN X1.here hx rfl (hb hby d45_8) rfl (l' := #[.val (.ref t2), .val (.int (Int32.ofNat q)), .val (.int (Int32.ofNat j)), .val (.int (Int32.ofNat (j - q))), .unset]) rfl (XS.iloadN X1.here hx rfl (hb hby d45_9) rfl kq)) ?_
  obtain ⟨T2, h2, k2, X2, e2, E2, A2, st2⟩ := newP X1 hx hZ (own_w hw 26 rfl) e1 (g := (mkF m 10 #[.val (.ref t2), .val (.int (Int32.ofNat q)), .val (.int (Int32.ofNat j)), .val (.int (Int32.ofNat (j - q))), .unset] [(.int (Int32.ofNat (j - q)))])) rfl (hb hby d45_10) rfl (own_nonneg (by omega)) (cap := 14) (by rw [clamp_of rfl (by omega)]; omega) (by decide) (by decide) (by decide)
  obtain ⟨b2, g2⟩ : ∃ z, z = h0.size := ⟨_, rfl⟩
  rw [← g2] at A2 st2
  have ne_t2_b2 : own_ne t2 b2 := Nat.ne_of_lt (Nat.lt_of_lt_of_le Aa2.lt (Nat.le_of_eq g2.symm))
  have f3 := Aa2.ext E2
  have sz2 : n0 ≤ b2 := Nat.le_trans Z0 (Nat.le_of_eq g2.symm)
  have hs2 : h0.size ≤ b2 := Nat.le_trans K0.1 (Nat.le_of_eq g2.symm)
  have Zs2 : n0 ≤ h2.size := Nat.le_trans Z0 E2.1
  have K2 := K0.ext E2
  have V2 : BArr Z h2 b2 (j - q) (fun _ => 0) := BArr.new A2 (clamp_of rfl (by omega))
  refine own_to T2 (mkF m 20 #[.val (.ref t2), .val (.int (Int32.ofNat q)), .val (.int (Int32.ofNat j)), .val (.int (Int32.ofNat (j - q))), .val (.ref b2)] [(.ref t2), (.int (0 : Int32)), (.ref b2), (.int (Int32.ofNat q)), (.ref t2)]) (fun tq kq => st2 _ (XS.astore X2.here hx rfl (hb hby d45_12) rfl rfl (l' := #[.val (.ref t2), .val (.int (Int32.ofNat q)), .val (.int (Int32.ofNat j)), .val (.int (Int32.ofNat (j - q))), .val (.ref b2)]) rfl (XS.aloadN X2.here hx rfl (hb hby d45_14) rfl rfl (XS.iloadN X2.here hx rfl (hb hby d45_15) rfl (XS.aload X2.here hx rfl (hb hby d45_16) rfl rfl (XS.iconst X2.here hx rfl (hb hby d45_18) (XS.aloadN X2.here hx rfl (hb hby d45_19) rfl rfl kq))))))) ?_
  obtain ⟨co4, Aro4, hszo4, hato4⟩ := id f3
  refine own_to T2 (mkF m 21 #[.val (.ref t2), .val (.int (Int32.ofNat q)), .val (.int (Int32.ofNat j)), .val (.int (Int32.ofNat (j - q))), .val (.ref b2)] [(.int (co4.slots.size.toInt32)), (.int (0 : Int32)), (.ref b2), (.int (Int32.ofNat q)), (.ref t2)]) (fun tq kq => X2.arraylength hx (by rw [e2]; exact Aro4.1) (State.isArrayOf_alike hZ.alike Aro4.2.1) (g := (mkF m 20 #[.val (.ref t2), .val (.int (Int32.ofNat q)), .val (.int (Int32.ofNat j)), .val (.int (Int32.ofNat (j - q))), .val (.ref b2)] [(.ref t2), (.int (0 : Int32)), (.ref b2), (.int (Int32.ofNat q)), (.ref t2)])) rfl rfl (hb hby d45_20) _ kq) ?_
  rw [show co4.slots.size.toInt32 = Int32.ofNat 14 from by rw [hszo4] <;> rfl]
  refine own_to T2 (mkF m 23 #[.val (.ref t2), .val (.int (Int32.ofNat q)), .val (.int (Int32.ofNat j)), .val (.int (Int32.ofNat (j - q))), .val (.ref b2)] [(.int ((Int32.ofNat 14) - (Int32.ofNat q))), (.int (0 : Int32)), (.ref b2), (.int (Int32.ofNat q)), (.ref t2)]) (fun tq kq => XS.iloadN X2.here hx rfl (hb hby d45_21) rfl (XS.isub X2.here hx rfl (hb hby d45_22) rfl kq)) ?_
  rw [show ((Int32.ofNat 14) - (Int32.ofNat q)) = (Int32.ofNat (14 - q)) from own_subn 14 q (by omega) (by omega)]
  refine own_to T2 (mkF m 24 #[.val (.ref t2), .val (.int (Int32.ofNat q)), .val (.int (Int32.ofNat j)), .val (.int (Int32.ofNat (j - q))), .val (.ref b2)] [(.int (Int32.ofNat (j - q))), (.int (Int32.ofNat (14 - q))), (.int (0 : Int32)), (.ref b2), (.int (Int32.ofNat q)), (.ref t2)]) (fun tq kq => XS.iloadN X2.here hx rfl (hb hby d45_23) rfl kq) ?_
  obtain ⟨_, _, ⟨T5, L5, k5, n5⟩, -, X5, ⟨Lc5, hQ5, l5, y5, z5⟩, st5⟩ := Jvm.LawKit.callS X2 hx (y := (⟨"java/lang/Math", "min", "(II)I"⟩ : MethodName)) hown (mvT hZ (own_w hw 192 rfl)) (mvT hZ (own_w hw 97 rfl)) (mvT hZ (own_w hw 94 rfl)) (mvT hZ (own_w hw 98 rfl)) (by decide) (backOf (W := 4) (rmMin2 l Z a0 hw [] (Int32.ofNat (14 - q)) (Int32.ofNat (j - q)) h2 n0 Zs2 ((own_ltn (by omega) (by omega)).mpr (by omega))) hZ (own_w hw 98 rfl) (own_w hw 94 rfl) (by decide) (by decide)) (g := (mkF m 24 #[.val (.ref t2), .val (.int (Int32.ofNat q)), .val (.int (Int32.ofNat j)), .val (.int (Int32.ofNat (j - q))), .val (.ref b2)] [(.int (Int32.ofNat (j - q))), (.int (Int32.ofNat (14 - q))), (.int (0 : Int32)), (.ref b2), (.int (Int32.ofNat q)), (.ref t2)])) rfl (by rw [hml]; rfl) (argsL := [(.int (Int32.ofNat (14 - q))), (.int (Int32.ofNat (j - q)))]) (rest := [(.int (0 : Int32)), (.ref b2), (.int (Int32.ofNat q)), (.ref t2)]) (lenOf pd_13 rfl) rfl (by show 2 * 0 + _ ≤ _; exact Nat.le_of_eq rfl) (hb hby d45_24) (fun _ _ => ⟨rfl, e2, (by decide : 1 + 0 ≤ _), (by decide : 14 + 0 ≤ _)⟩)
  dsimp only [Pt.U, Pt.locs, Pt.cells, Pt.slots] at X5 l5 y5 z5 st5 hQ5
  have l5y := l5.symm
  clear l5
  subst l5y
  obtain rfl : k5 = 1 := y5
  obtain rfl : n5 = 14 := z5
  obtain ⟨rfl, N5q, e5⟩ := hQ5
  have N5 := Fr.app N1 N5q
  refine own_to T5 (mkF m 27 #[.val (.ref t2), .val (.int (Int32.ofNat q)), .val (.int (Int32.ofNat j)), .val (.int (Int32.ofNat (j - q))), .val (.ref b2)] [(.int (Int32.ofNat (j - q))), (.int (0 : Int32)), (.ref b2), (.int (Int32.ofNat q)), (.ref t2)]) (fun tq kq => st5 _ kq) ?_
  obtain ⟨T6, _, L6, X6, rfl, K6q, N6, V6q, st6⟩ := own_copyB X5 hx hZ hown (own_w hw 193 rfl) (own_w hw 196 rfl) (own_w hw 194 rfl) (own_w hw 195 rfl) e5 f3 V2 (i := q) sz2 N5 (by omega) (by decide) hfb (g := (mkF m 27 #[.val (.ref t2), .val (.int (Int32.ofNat q)), .val (.int (Int32.ofNat j)), .val (.int (Int32.ofNat (j - q))), .val (.ref b2)] [(.int (Int32.ofNat (j - q))), (.int (0 : Int32)), (.ref b2), (.int (Int32.ofNat q)), (.ref t2)])) rfl (by rw [hml]; rfl) (rest := []) rfl (hb hby d45_27) (by decide) (by show 2 * 0 + 0 + _ ≤ _; decide)
  have f7 := f3.keep K6q (ninS ne_t2_b2 nin0)
  have Zs6 : n0 ≤ T6.heap.size := Nat.le_trans Zs2 K6q.1
  have KK6 := K2.trans K6q (allS (Or.inr hs2) all0)
  refine own_to T6 (mkF m 32 #[.val (.ref t2), .val (.int (Int32.ofNat q)), .val (.int (Int32.ofNat j)), .val (.int (Int32.ofNat (j - q))), .val (.ref b2)] [(.ref b2)]) (fun tq kq => st6 _ (XS.aload X6.here hx rfl (hb hby d45_30) rfl rfl kq)) ?_
  exact own_retA X6 hx hret hlk rfl rfl (hb hby d45_32) (by decide) (by decide) ⟨b2, rfl, N6, KK6, hs2, sz2, V6q⟩
theorem d44_0 : decode jdk_65_method_132_code 0 = .ok (.iload_n 1, 1) := by decide +kernel
theorem d44_1 : decode jdk_65_method_132_code 1 = .ok (.ifCond .ne 9, 3) := by decide +kernel
theorem d44_4 : decode jdk_65_method_132_code 4 = .ok (.iload_n 2, 1) := by decide +kernel
theorem d44_5 : decode jdk_65_method_132_code 5 = .ok (.aload_n 0, 1) := by decide +kernel
theorem d44_6 : decode jdk_65_method_132_code 6 = .ok (.arraylength, 1) := by decide +kernel
theorem d44_7 : decode jdk_65_method_132_code 7 = .ok (.if_icmp .eq 10, 3) := by decide +kernel
theorem d44_10 : decode jdk_65_method_132_code 10 = .ok (.aload_n 0, 1) := by decide +kernel
theorem d44_11 : decode jdk_65_method_132_code 11 = .ok (.iload_n 1, 1) := by decide +kernel
theorem d44_12 : decode jdk_65_method_132_code 12 = .ok (.iload_n 2, 1) := by decide +kernel
theorem d44_13 : decode jdk_65_method_132_code 13 = .ok (.invokestatic 339, 3) := by decide +kernel
theorem d44_16 : decode jdk_65_method_132_code 16 = .ok (.areturn, 1) := by decide +kernel
theorem d44_17 : decode jdk_65_method_132_code 17 = .ok (.aload_n 0, 1) := by decide +kernel
theorem d44_18 : decode jdk_65_method_132_code 18 = .ok (.invokevirtual 310, 3) := by decide +kernel
theorem d44_21 : decode jdk_65_method_132_code 21 = .ok (.checkcast 311, 3) := by decide +kernel
theorem d44_24 : decode jdk_65_method_132_code 24 = .ok (.areturn, 1) := by decide +kernel
theorem ef_44_RII (m : MethodId) (x0 : Addr) (x1 : Int32) (x2 : Int32) : entryFrame m #[(.ref x0), (.int x1), (.int x2)] 3 = mkF m 0 #[.val (.ref x0), .val (.int x1), .val (.int x2)] [] := by first | (simp [entryFrame, mkF, argsToLocals, Value.category]; done) | rfl
def Q_rmCR (Z : State) (t2 : Addr) (q j : Nat) (f : Nat → Int32) (h0 : Heap) (n0 : Nat) (v : Option Value) (h : Heap) (L : List Loc) : Prop := ∃ b, v = some (.ref b) ∧ Fr n0 L ∧ Keep h0 h [] ∧ h0.size ≤ b ∧ n0 ≤ b ∧ BArr Z h b (j - q) (fun i => f (q + i))
theorem pd_24 : parseMethodDescriptor "([BII)[B" = some ⟨[(.array .byte), .int, .int], some (.array .byte)⟩ := by decide +kernel
set_option maxRecDepth 65536 in
set_option maxHeartbeats 40000000 in
theorem rmCR (l : Launch) (Z : State) (a0 : Array Value) (hw : ∀ d ∈ tables_1, d.before a0 Z = true) (ws : List Jvm.Cond) (t2 : Addr) (q j : Nat) (f : Nat → Int32) (h0 : Heap) (n0 : Nat) (Z0 : n0 ≤ h0.size) (Aa2 : BArr Z h0 t2 14 f) (hfb : ∀ i, i < 14 → fits .byte (.int (f i)) = true) (hj : q ≤ j) (hjn : j < 14) :
    MetFree l (⟨"java/util/Arrays", "copyOfRange", "([BII)[B"⟩ : MethodName) (head1 (Jvm.Cond.code (⟨"java/util/Arrays", "copyOfRange", "([BII)[B"⟩ : MethodName) jdk_65_method_132_code 3 (some (.array .byte)) :: ws) ({ frames := 2, cells := 1, slots := 14, locals := 80 } : Room)) (fun a U => a = #[(.ref t2), (.int (Int32.ofNat q)), (.int (Int32.ofNat j))] ∧ Z.Warmed39 U.vm ∧ U.heap = h0) (fun _ _ _ _ _ => True) (fun _ U o U' => ∃ v L, o = .returned v ∧ Q_rmCR Z t2 q j f h0 n0 v U'.heap L ∧ FrameEnd U o U' L ({ frames := 2, cells := 1, slots := 14, locals := 80 } : Room).cells ({ frames := 2, cells := 1, slots := 14, locals := 80 } : Room).slots) := by
  refine own_met (y := (⟨"java/util/Arrays", "copyOfRange", "([BII)[B"⟩ : MethodName)) (Q := (Q_rmCR Z t2 q j f h0 n0)) (plainFor_of_name pn_46) fun p e s m below meth c s₁ X0 hx hby hml hret hlk hown hnm hZ e0 => ?_
  refine own_entry (ef_44_RII m t2 (Int32.ofNat q) (Int32.ofNat j)) ?_
  have K0 := Keep.refl h0 []
  obtain ⟨cx, Ar1, hsz1, hat1⟩ := id Aa2
  refine own_to s₁ (mkF m 1 #[.val (.ref t2), .val (.int (Int32.ofNat q)), .val (.int (Int32.ofNat j))] [(.int (Int32.ofNat q))]) (fun tq kq => XS.iloadN X0.here hx rfl (hb hby d44_0) rfl kq) ?_
  by_cases c1 : (Int32.ofNat q) = (0 : Int32)
  · skip
    refine own_to s₁ (mkF m 7 #[.val (.ref t2), .val (.int (Int32.ofNat q)), .val (.int (Int32.ofNat j))] [(.int (cx.slots.size.toInt32)), (.int (Int32.ofNat j))]) (fun tq kq => XS.ifNo X0.here hx rfl (hb hby d44_1) rfl ((if0 _ _).trans (teq c1).2) (XS.iloadN X0.here hx rfl (hb hby d44_4) rfl (XS.aloadN X0.here hx rfl (hb hby d44_5) rfl rfl (X0.arraylength hx (by rw [e0]; exact Ar1.1) (State.isArrayOf_alike hZ.alike Ar1.2.1) (g := (mkF m 6 #[.val (.ref t2), .val (.int (Int32.ofNat q)), .val (.int (Int32.ofNat j))] [(.ref t2), (.int (Int32.ofNat j))])) rfl rfl (hb hby d44_6) _ kq)))) ?_
    rw [show cx.slots.size.toInt32 = Int32.ofNat 14 from by rw [hsz1] <;> rfl]
    refine own_to s₁ (mkF m 13 #[.val (.ref t2), .val (.int (Int32.ofNat q)), .val (.int (Int32.ofNat j))] [(.int (Int32.ofNat j)), (.int (Int32.ofNat q)), (.ref t2)]) (fun tq kq => XS.icmpNo X0.here hx rfl (hb hby d44_7) rfl (feq (mt (own_eqn (by omega) (by omega)).mp (by omega))).1 (XS.aloadN X0.here hx rfl (hb hby d44_10) rfl rfl (XS.iloadN X0.here hx rfl (hb hby d44_11) rfl (XS.iloadN X0.here hx rfl (hb hby d44_12) rfl kq)))) ?_
    obtain ⟨_, _, ⟨T1, L1, k1, n1⟩, -, X1, ⟨Lc1, hQ1, l1, y1, z1⟩, st1⟩ := Jvm.LawKit.callS X0 hx (y := (⟨"java/util/Arrays", "copyOfRangeByte", "([BII)[B"⟩ : MethodName)) hown (mvT hZ (own_w hw 186 rfl)) (mvT hZ (own_w hw 187 rfl)) (mvT hZ (own_w hw 184 rfl)) (mvT hZ (own_w hw 188 rfl)) (by decide) (backOf (W := 0) (rmCRB l Z a0 hw [] t2 q j f h0 n0 Z0 Aa2 hfb hj hjn) hZ (own_w hw 188 rfl) (own_w hw 184 rfl) (by decide) (by decide)) (g := (mkF m 13 #[.val (.ref t2), .val (.int (Int32.ofNat q)), .val (.int (Int32.ofNat j))] [(.int (Int32.ofNat j)), (.int (Int32.ofNat q)), (.ref t2)])) rfl (by rw [hml]; rfl) (argsL := [(.ref t2), (.int (Int32.ofNat q)), (.int (Int32.ofNat j))]) (rest := []) (lenOf pd_24 rfl) rfl (by show 2 * 0 + _ ≤ _; exact Nat.le_of_eq rfl) (hb hby d44_13) (fun _ _ => ⟨rfl, e0, (by decide : 0 + 1 ≤ _), (by decide : 0 + 14 ≤ _)⟩)
    dsimp only [Pt.U, Pt.locs, Pt.cells, Pt.slots] at X1 l1 y1 z1 st1 hQ1
    have l1y := l1.symm
    clear l1
    subst l1y
    obtain rfl : k1 = 1 := y1
    obtain rfl : n1 = 14 := z1
    obtain ⟨b1, rfl, N1q, K1q, hsr1, gb1, V1q⟩ := hQ1
    have N1 := Fr.app (Fr.nil n0) N1q
    have hs1 : h0.size ≤ b1 := Nat.le_trans K0.1 hsr1
    have Zs1 : n0 ≤ T1.heap.size := Nat.le_trans Z0 K1q.1
    have KK1 := K0.trans K1q all0
    refine own_to T1 (mkF m 16 #[.val (.ref t2), .val (.int (Int32.ofNat q)), .val (.int (Int32.ofNat j))] [(.ref b1)]) (fun tq kq => st1 _ kq) ?_
    exact own_retA X1 hx hret hlk rfl rfl (hb hby d44_16) (by decide) (by decide) ⟨b1, rfl, N1, KK1, hs1, gb1, V1q⟩
  · skip
    refine own_to s₁ (mkF m 13 #[.val (.ref t2), .val (.int (Int32.ofNat q)), .val (.int (Int32.ofNat j))] [(.int (Int32.ofNat j)), (.int (Int32.ofNat q)), (.ref t2)]) (fun tq kq => XS.ifYes X0.here hx rfl (pc0 := 1) (pc' := 10) rfl (hb hby d44_1) rfl ((if0 _ _).trans (feq c1).2) (by decide) (by decide) (XS.aloadN X0.here hx rfl (hb hby d44_10) rfl rfl (XS.iloadN X0.here hx rfl (hb hby d44_11) rfl (XS.iloadN X0.here hx rfl (hb hby d44_12) rfl kq)))) ?_
    obtain ⟨_, _, ⟨T2, L2, k2, n2⟩, -, X2, ⟨Lc2, hQ2, l2, y2, z2⟩, st2⟩ := Jvm.LawKit.callS X0 hx (y := (⟨"java/util/Arrays", "copyOfRangeByte", "([BII)[B"⟩ : MethodName)) hown (mvT hZ (own_w hw 186 rfl)) (mvT hZ (own_w hw 187 rfl)) (mvT hZ (own_w hw 184 rfl)) (mvT hZ (own_w hw 188 rfl)) (by decide) (backOf (W := 0) (rmCRB l Z a0 hw [] t2 q j f h0 n0 Z0 Aa2 hfb hj hjn) hZ (own_w hw 188 rfl) (own_w hw 184 rfl) (by decide) (by decide)) (g := (mkF m 13 #[.val (.ref t2), .val (.int (Int32.ofNat q)), .val (.int (Int32.ofNat j))] [(.int (Int32.ofNat j)), (.int (Int32.ofNat q)), (.ref t2)])) rfl (by rw [hml]; rfl) (argsL := [(.ref t2), (.int (Int32.ofNat q)), (.int (Int32.ofNat j))]) (rest := []) (lenOf pd_24 rfl) rfl (by show 2 * 0 + _ ≤ _; exact Nat.le_of_eq rfl) (hb hby d44_13) (fun _ _ => ⟨rfl, e0, (by decide : 0 + 1 ≤ _), (by decide : 0 + 14 ≤ _)⟩)
    dsimp only [Pt.U, Pt.locs, Pt.cells, Pt.slots] at X2 l2 y2 z2 st2 hQ2
    have l2y := l2.symm
    clear l2
    subst l2y
    obtain rfl : k2 = 1 := y2
    obtain rfl : n2 = 14 := z2
    obtain ⟨b2, rfl, N2q, K2q, hsr2, gb2, V2q⟩ := hQ2
    have N2 := Fr.app (Fr.nil n0) N2q
    have hs2 : h0.size ≤ b2 := Nat.le_trans K0.1 hsr2
    have Zs2 : n0 ≤ T2.heap.size := Nat.le_trans Z0 K2q.1
    have KK2 := K0.trans K2q all0
    refine own_to T2 (mkF m 16 #[.val (.ref t2), .val (.int (Int32.ofNat q)), .val (.int (Int32.ofNat j))] [(.ref b2)]) (fun tq kq => st2 _ kq) ?_
    exact own_retA X2 hx hret hlk rfl rfl (hb hby d44_16) (by decide) (by decide) ⟨b2, rfl, N2, KK2, hs2, gb2, V2q⟩
theorem d34_0 : decode jdk_41_method_13_code 0 = .ok (.iload_n 2, 1) := by decide +kernel
theorem d34_1 : decode jdk_41_method_13_code 1 = .ok (.iload_n 0, 1) := by decide +kernel
theorem d34_2 : decode jdk_41_method_13_code 2 = .ok (.ior, 1) := by decide +kernel
theorem d34_3 : decode jdk_41_method_13_code 3 = .ok (.iload_n 1, 1) := by decide +kernel
theorem d34_4 : decode jdk_41_method_13_code 4 = .ok (.ior, 1) := by decide +kernel
theorem d34_5 : decode jdk_41_method_13_code 5 = .ok (.ifCond .lt 10, 3) := by decide +kernel
theorem d34_8 : decode jdk_41_method_13_code 8 = .ok (.iload_n 1, 1) := by decide +kernel
theorem d34_9 : decode jdk_41_method_13_code 9 = .ok (.iload_n 2, 1) := by decide +kernel
theorem d34_10 : decode jdk_41_method_13_code 10 = .ok (.iload_n 0, 1) := by decide +kernel
theorem d34_11 : decode jdk_41_method_13_code 11 = .ok (.isub, 1) := by decide +kernel
theorem d34_12 : decode jdk_41_method_13_code 12 = .ok (.if_icmp .le 11, 3) := by decide +kernel
theorem d34_15 : decode jdk_41_method_13_code 15 = .ok (.aload_n 3, 1) := by decide +kernel
theorem d34_16 : decode jdk_41_method_13_code 16 = .ok (.iload_n 0, 1) := by decide +kernel
theorem d34_17 : decode jdk_41_method_13_code 17 = .ok (.iload_n 1, 1) := by decide +kernel
theorem d34_18 : decode jdk_41_method_13_code 18 = .ok (.iload_n 2, 1) := by decide +kernel
theorem d34_19 : decode jdk_41_method_13_code 19 = .ok (.invokestatic 103, 3) := by decide +kernel
theorem d34_23 : decode jdk_41_method_13_code 23 = .ok (.iload_n 0, 1) := by decide +kernel
theorem d34_24 : decode jdk_41_method_13_code 24 = .ok (.ireturn, 1) := by decide +kernel
theorem ef_34_IIIV (m : MethodId) (x0 : Int32) (x1 : Int32) (x2 : Int32) (x3 : Value) (hx3 : x3.category = 1) : entryFrame m #[(.int x0), (.int x1), (.int x2), x3] 4 = mkF m 0 #[.val (.int x0), .val (.int x1), .val (.int x2), .val x3] [] := by first | (simp [entryFrame, mkF, argsToLocals, Value.category]; done) | rfl | (cases x3 <;> first | (cases hx3; done) | skip <;> rfl)
def Q_rmPS (Z : State) (q len n : Nat) (vF : Value) (h0 : Heap) (n0 : Nat) (v : Option Value) (h : Heap) (L : List Loc) : Prop := v = some (.int (Int32.ofNat q)) ∧ Fr n0 L ∧ h = h0
set_option maxRecDepth 65536 in
set_option maxHeartbeats 40000000 in
theorem rmPS (l : Launch) (Z : State) (a0 : Array Value) (hw : ∀ d ∈ tables_1, d.before a0 Z = true) (ws : List Jvm.Cond) (q len n : Nat) (vF : Value) (h0 : Heap) (n0 : Nat) (Z0 : n0 ≤ h0.size) (hvF : vF.isRef = true) (hql : q + len ≤ n) (hn' : n < 8) :
    MetFree l (⟨"jdk/internal/util/Preconditions", "checkFromIndexSize", "(IIILjava/util/function/BiFunction;)I"⟩ : MethodName) (head1 (Jvm.Cond.code (⟨"jdk/internal/util/Preconditions", "checkFromIndexSize", "(IIILjava/util/function/BiFunction;)I"⟩ : MethodName) jdk_41_method_13_code 4 (some .int) :: ws) ({ frames := 0, cells := 0, slots := 0, locals := 0 } : Room)) (fun a U => a = #[(.int (Int32.ofNat q)), (.int (Int32.ofNat len)), (.int (Int32.ofNat n)), vF] ∧ Z.Warmed39 U.vm ∧ U.heap = h0) (fun _ _ _ _ _ => True) (fun _ U o U' => ∃ v L, o = .returned v ∧ Q_rmPS Z q len n vF h0 n0 v U'.heap L ∧ FrameEnd U o U' L ({ frames := 0, cells := 0, slots := 0, locals := 0 } : Room).cells ({ frames := 0, cells := 0, slots := 0, locals := 0 } : Room).slots) := by
  refine own_met (y := (⟨"jdk/internal/util/Preconditions", "checkFromIndexSize", "(IIILjava/util/function/BiFunction;)I"⟩ : MethodName)) (Q := (Q_rmPS Z q len n vF h0 n0)) (plainFor_of_name pn_43) fun p e s m below meth c s₁ X0 hx hby hml hret hlk hown hnm hZ e0 => ?_
  refine own_entry (ef_34_IIIV m (Int32.ofNat q) (Int32.ofNat len) (Int32.ofNat n) vF (own_cat1 hvF)) ?_
  refine own_to s₁ (mkF m 12 #[.val (.int (Int32.ofNat q)), .val (.int (Int32.ofNat len)), .val (.int (Int32.ofNat n)), .val vF] [(.int ((Int32.ofNat n) - (Int32.ofNat q))), (.int (Int32.ofNat len))]) (fun tq kq => XS.iloadN X0.here hx rfl (hb hby d34_0) rfl (XS.iloadN X0.here hx rfl (hb hby d34_1) rfl (XS.ior X0.here hx rfl (hb hby d34_2) rfl (XS.iloadN X0.here hx rfl (hb hby d34_3) rfl (XS.ior X0.here hx rfl (hb hby d34_4) rfl (XS.ifNo X0.here hx rfl (hb hby d34_5) rfl ((if0 _ _).trans (flt (own_or3 (by omega) (by omega) (by omega))).1) (XS.iloadN X0.here hx rfl (hb hby d34_8) rfl (XS.iloadN X0.here hx rfl (hb hby d34_9) rfl (XS.iloadN X0.here hx rfl (hb hby d34_10) rfl (XS.isub X0.here hx rfl (hb hby d34_11) rfl kq)))))))))) ?_
  rw [show ((Int32.ofNat n) - (Int32.ofNat q)) = (Int32.ofNat (n - q)) from own_subn n q (by omega) (by omega)]
  refine own_to s₁ (mkF m 24 #[.val (.int (Int32.ofNat q)), .val (.int (Int32.ofNat len)), .val (.int (Int32.ofNat n)), .val vF] [(.int (Int32.ofNat q))]) (fun tq kq => XS.icmpYes X0.here hx rfl (pc0 := 12) (pc' := 23) rfl (hb hby d34_12) rfl (flt (mt (own_ltn (by omega) (by omega)).mp (by omega))).2.2.2 (by decide) (by decide) (XS.iloadN X0.here hx rfl (hb hby d34_23) rfl kq)) ?_
  exact own_retI X0 hx hret hlk (hb hby d34_24) (by decide) (by decide) ⟨rfl, (Fr.nil n0), e0⟩
theorem d33_0 : decode jdk_42_method_157_code 0 = .ok (.iload_n 0, 1) := by decide +kernel
theorem d33_1 : decode jdk_42_method_157_code 1 = .ok (.iload_n 1, 1) := by decide +kernel
theorem d33_2 : decode jdk_42_method_157_code 2 = .ok (.iload_n 2, 1) := by decide +kernel
theorem d33_3 : decode jdk_42_method_157_code 3 = .ok (.getstatic 1053, 3) := by decide +kernel
theorem d33_6 : decode jdk_42_method_157_code 6 = .ok (.invokestatic 1065, 3) := by decide +kernel
theorem d33_9 : decode jdk_42_method_157_code 9 = .ok (.ireturn, 1) := by decide +kernel
theorem ef_33_III (m : MethodId) (x0 : Int32) (x1 : Int32) (x2 : Int32) : entryFrame m #[(.int x0), (.int x1), (.int x2)] 3 = mkF m 0 #[.val (.int x0), .val (.int x1), .val (.int x2)] [] := by first | (simp [entryFrame, mkF, argsToLocals, Value.category]; done) | rfl
def Q_rmOC (Z : State) (q len n : Nat) (vF : Value) (h0 : Heap) (n0 : Nat) (v : Option Value) (h : Heap) (L : List Loc) : Prop := v = some (.int (Int32.ofNat q)) ∧ Fr n0 L ∧ h = h0
set_option maxRecDepth 65536 in
set_option maxHeartbeats 40000000 in
theorem rmOC (l : Launch) (Z : State) (a0 : Array Value) (hw : ∀ d ∈ tables_1, d.before a0 Z = true) (ws : List Jvm.Cond) (q len n : Nat) (vF : Value) (h0 : Heap) (n0 : Nat) (Z0 : n0 ≤ h0.size) (O4 : Sta Z h0 "jdk/internal/util/Preconditions" "SIOOBE_FORMATTER" "Ljava/util/function/BiFunction;" vF) (hvF : vF.isRef = true) (hql : q + len ≤ n) (hn' : n < 8) :
    MetFree l (⟨"java/lang/String", "checkBoundsOffCount", "(III)I"⟩ : MethodName) (head1 (Jvm.Cond.code (⟨"java/lang/String", "checkBoundsOffCount", "(III)I"⟩ : MethodName) jdk_42_method_157_code 3 (some .int) :: ws) ({ frames := 1, cells := 0, slots := 0, locals := 15 } : Room)) (fun a U => a = #[(.int (Int32.ofNat q)), (.int (Int32.ofNat len)), (.int (Int32.ofNat n))] ∧ Z.Warmed39 U.vm ∧ U.heap = h0) (fun _ _ _ _ _ => True) (fun _ U o U' => ∃ v L, o = .returned v ∧ Q_rmOC Z q len n vF h0 n0 v U'.heap L ∧ FrameEnd U o U' L ({ frames := 1, cells := 0, slots := 0, locals := 15 } : Room).cells ({ frames := 1, cells := 0, slots := 0, locals := 15 } : Room).slots) := by
  refine own_met (y := (⟨"java/lang/String", "checkBoundsOffCount", "(III)I"⟩ : MethodName)) (Q := (Q_rmOC Z q len n vF h0 n0)) (plainFor_of_name pn_18) fun p e s m below meth c s₁ X0 hx hby hml hret hlk hown hnm hZ e0 => ?_
  refine own_entry (ef_33_III m (Int32.ofNat q) (Int32.ofNat len) (Int32.ofNat n)) ?_
  refine own_to s₁ (mkF m 3 #[.val (.int (Int32.ofNat q)), .val (.int (Int32.ofNat len)), .val (.int (Int32.ofNat n))] [(.int (Int32.ofNat n)), (.int (Int32.ofNat len)), (.int (Int32.ofNat q))]) (fun tq kq => XS.iloadN X0.here hx rfl (hb hby d33_0) rfl (XS.iloadN X0.here hx rfl (hb hby d33_1) rfl (XS.iloadN X0.here hx rfl (hb hby d33_2) rfl kq))) ?_
  obtain ⟨T1, X1, e1, st1⟩ := getS2 X0 hx hZ hown (host := "") (Or.inl (own_w hw 112 rfl)) Via.refl e0 O4 (g := (mkF m 3 #[.val (.int (Int32.ofNat q)), .val (.int (Int32.ofNat len)), .val (.int (Int32.ofNat n))] [(.int (Int32.ofNat n)), (.int (Int32.ofNat len)), (.int (Int32.ofNat q))])) rfl (hb hby d33_3)
  refine own_to T1 (mkF m 6 #[.val (.int (Int32.ofNat q)), .val (.int (Int32.ofNat len)), .val (.int (Int32.ofNat n))] [vF, (.int (Int32.ofNat n)), (.int (Int32.ofNat len)), (.int (Int32.ofNat q))]) (fun tq kq => st1 _ kq) ?_
  obtain ⟨_, _, ⟨T2, L2, k2, n2⟩, -, X2, ⟨Lc2, hQ2, l2, y2, z2⟩, st2⟩ := Jvm.LawKit.callS X1 hx (y := (⟨"jdk/internal/util/Preconditions", "checkFromIndexSize", "(IIILjava/util/function/BiFunction;)I"⟩ : MethodName)) hown (mvT hZ (own_w hw 142 rfl)) (mvT hZ (own_w hw 143 rfl)) (mvT hZ (own_w hw 113 rfl)) (mvT hZ (own_w hw 144 rfl)) (by decide) (backOf (W := 0) (rmPS l Z a0 hw [] q len n vF h0 n0 Z0 hvF hql hn') hZ (own_w hw 144 rfl) (own_w hw 113 rfl) (by decide) (by decide)) (g := (mkF m 6 #[.val (.int (Int32.ofNat q)), .val (.int (Int32.ofNat len)), .val (.int (Int32.ofNat n))] [vF, (.int (Int32.ofNat n)), (.int (Int32.ofNat len)), (.int (Int32.ofNat q))])) rfl (by rw [hml]; rfl) (argsL := [(.int (Int32.ofNat q)), (.int (Int32.ofNat len)), (.int (Int32.ofNat n)), vF]) (rest := []) (lenOf pd_21 rfl) rfl (by show 2 * 0 + _ ≤ _; exact Nat.le_of_eq rfl) (hb hby d33_6) (fun _ _ => ⟨rfl, e1, (by decide : 0 + 0 ≤ _), (by decide : 0 + 0 ≤ _)⟩)
  dsimp only [Pt.U, Pt.locs, Pt.cells, Pt.slots] at X2 l2 y2 z2 st2 hQ2
  have l2y := l2.symm
  clear l2
  subst l2y
  obtain rfl : k2 = 0 := y2
  obtain rfl : n2 = 0 := z2
  obtain ⟨rfl, N2q, e2⟩ := hQ2
  have N2 := Fr.app (Fr.nil n0) N2q
  refine own_to T2 (mkF m 9 #[.val (.int (Int32.ofNat q)), .val (.int (Int32.ofNat len)), .val (.int (Int32.ofNat n))] [(.int (Int32.ofNat q))]) (fun tq kq => st2 _ kq) ?_
  exact own_retI X2 hx hret hlk (hb hby d33_9) (by decide) (by decide) ⟨rfl, N2, e2⟩
theorem d32_0 : decode jdk_52_method_94_code 0 = .ok (.iload_n 0, 1) := by decide +kernel
theorem d32_1 : decode jdk_52_method_94_code 1 = .ok (.iload_n 1, 1) := by decide +kernel
theorem d32_2 : decode jdk_52_method_94_code 2 = .ok (.aload_n 2, 1) := by decide +kernel
theorem d32_3 : decode jdk_52_method_94_code 3 = .ok (.invokestatic 48, 3) := by decide +kernel
theorem d32_6 : decode jdk_52_method_94_code 6 = .ok (.invokestatic 419, 3) := by decide +kernel
theorem d32_9 : decode jdk_52_method_94_code 9 = .ok (.pop, 1) := by decide +kernel
theorem d32_10 : decode jdk_52_method_94_code 10 = .ok (.return_, 1) := by decide +kernel
theorem ef_32_IIR (m : MethodId) (x0 : Int32) (x1 : Int32) (x2 : Addr) : entryFrame m #[(.int x0), (.int x1), (.ref x2)] 3 = mkF m 0 #[.val (.int x0), .val (.int x1), .val (.ref x2)] [] := by first | (simp [entryFrame, mkF, argsToLocals, Value.category]; done) | rfl
def Q_rmUOC (Z : State) (t2 : Addr) (q len n : Nat) (f : Nat → Int32) (vF : Value) (h0 : Heap) (n0 : Nat) (v : Option Value) (h : Heap) (L : List Loc) : Prop := v = none ∧ Fr n0 L ∧ h = h0
theorem pd_26 : parseMethodDescriptor "(III)I" = some ⟨[.int, .int, .int], some .int⟩ := by decide +kernel
set_option maxRecDepth 65536 in
set_option maxHeartbeats 40000000 in
theorem rmUOC (l : Launch) (Z : State) (a0 : Array Value) (hw : ∀ d ∈ tables_1, d.before a0 Z = true) (ws : List Jvm.Cond) (t2 : Addr) (q len n : Nat) (f : Nat → Int32) (vF : Value) (h0 : Heap) (n0 : Nat) (Z0 : n0 ≤ h0.size) (O4 : Sta Z h0 "jdk/internal/util/Preconditions" "SIOOBE_FORMATTER" "Ljava/util/function/BiFunction;" vF) (hvF : vF.isRef = true) (Aa2 : BArr Z h0 t2 (2 * n) f) (hql : q + len ≤ n) (hn' : n < 8) :
    MetFree l (⟨"java/lang/StringUTF16", "checkBoundsOffCount", "(II[B)V"⟩ : MethodName) (head1 (Jvm.Cond.code (⟨"java/lang/StringUTF16", "checkBoundsOffCount", "(II[B)V"⟩ : MethodName) jdk_52_method_94_code 3 none :: ws) ({ frames := 2, cells := 0, slots := 0, locals := 32 } : Room)) (fun a U => a = #[(.int (Int32.ofNat q)), (.int (Int32.ofNat len)), (.ref t2)] ∧ Z.Warmed39 U.vm ∧ U.heap = h0) (fun _ _ _ _ _ => True) (fun _ U o U' => ∃ v L, o = .returned v ∧ Q_rmUOC Z t2 q len n f vF h0 n0 v U'.heap L ∧ FrameEnd U o U' L ({ frames := 2, cells := 0, slots := 0, locals := 32 } : Room).cells ({ frames := 2, cells := 0, slots := 0, locals := 32 } : Room).slots) := by
  refine own_met (y := (⟨"java/lang/StringUTF16", "checkBoundsOffCount", "(II[B)V"⟩ : MethodName)) (Q := (Q_rmUOC Z t2 q len n f vF h0 n0)) (plainFor_of_name pn_11) fun p e s m below meth c s₁ X0 hx hby hml hret hlk hown hnm hZ e0 => ?_
  refine own_entry (ef_32_IIR m (Int32.ofNat q) (Int32.ofNat len) t2) ?_
  refine own_to s₁ (mkF m 3 #[.val (.int (Int32.ofNat q)), .val (.int (Int32.ofNat len)), .val (.ref t2)] [(.ref t2), (.int (Int32.ofNat len)), (.int (Int32.ofNat q))]) (fun tq kq => XS.iloadN X0.here hx rfl (hb hby d32_0) rfl (XS.iloadN X0.here hx rfl (hb hby d32_1) rfl (XS.aloadN X0.here hx rfl (hb hby d32_2) rfl rfl kq))) ?_
  obtain ⟨_, _, ⟨T1, L1, k1, n1⟩, -, X1, ⟨Lc1, hQ1, l1, y1, z1⟩, st1⟩ := Jvm.LawKit.callS X0 hx (y := (⟨"java/lang/StringUTF16", "length", "([B)I"⟩ : MethodName)) hown (mvT hZ (own_w hw 106 rfl)) (mvT hZ (own_w hw 107 rfl)) (mvT hZ (own_w hw 24 rfl)) (mvT hZ (own_w hw 108 rfl)) (by decide) (backOf (W := 2) (rmUL l Z a0 hw [] t2 n f h0 n0 Z0 Aa2 (by omega)) hZ (own_w hw 108 rfl) (own_w hw 24 rfl) (by decide) (by decide)) (g := (mkF m 3 #[.val (.int (Int32.ofNat q)), .val (.int (Int32.ofNat len)), .val (.ref t2)] [(.ref t2), (.int (Int32.ofNat len)), (.int (Int32.ofNat q))])) rfl (by rw [hml]; rfl) (argsL := [(.ref t2)]) (rest := [(.int (Int32.ofNat len)), (.int (Int32.ofNat q))]) (lenOf pd_19 rfl) rfl (by show 2 * 0 + _ ≤ _; exact Nat.le_of_eq rfl) (hb hby d32_3) (fun _ _ => ⟨rfl, e0, (by decide : 0 + 0 ≤ _), (by decide : 0 + 0 ≤ _)⟩)
  dsimp only [Pt.U, Pt.locs, Pt.cells, Pt.slots] at X1 l1 y1 z1 st1 hQ1
  have l1y := l1.symm
  clear l1
  subst l1y
  obtain rfl : k1 = 0 := y1
  obtain rfl : n1 = 0 := z1
  obtain ⟨rfl, N1q, e1⟩ := hQ1
  have N1 := Fr.app (Fr.nil n0) N1q
  refine own_to T1 (mkF m 6 #[.val (.int (Int32.ofNat q)), .val (.int (Int32.ofNat len)), .val (.ref t2)] [(.int (Int32.ofNat n)), (.int (Int32.ofNat len)), (.int (Int32.ofNat q))]) (fun tq kq => st1 _ kq) ?_
  obtain ⟨_, _, ⟨T2, L2, k2, n2⟩, -, X2, ⟨Lc2, hQ2, l2, y2, z2⟩, st2⟩ := Jvm.LawKit.callS X1 hx (y := (⟨"java/lang/String", "checkBoundsOffCount", "(III)I"⟩ : MethodName)) hown (mvT hZ (own_w hw 139 rfl)) (mvT hZ (own_w hw 140 rfl)) (mvT hZ (own_w hw 10 rfl)) (mvT hZ (own_w hw 141 rfl)) (by decide) (backOf (W := 0) (rmOC l Z a0 hw [] q len n vF h0 n0 Z0 O4 hvF hql hn') hZ (own_w hw 141 rfl) (own_w hw 10 rfl) (by decide) (by decide)) (g := (mkF m 6 #[.val (.int (Int32.ofNat q)), .val (.int (Int32.ofNat len)), .val (.ref t2)] [(.int (Int32.ofNat n)), (.int (Int32.ofNat len)), (.int (Int32.ofNat q))])) rfl (by rw [hml]; rfl) (argsL := [(.int (Int32.ofNat q)), (.int (Int32.ofNat len)), (.int (Int32.ofNat n))]) (rest := []) (lenOf pd_26 rfl) rfl (by show 2 * 0 + _ ≤ _; exact Nat.le_of_eq rfl) (hb hby d32_6) (fun _ _ => ⟨rfl, e1, (by decide : 0 + 0 ≤ _), (by decide : 0 + 0 ≤ _)⟩)
  dsimp only [Pt.U, Pt.locs, Pt.cells, Pt.slots] at X2 l2 y2 z2 st2 hQ2
  have l2y := l2.symm
  clear l2
  subst l2y
  obtain rfl : k2 = 0 := y2
  obtain rfl : n2 = 0 := z2
  obtain ⟨rfl, N2q, e2⟩ := hQ2
  have N2 := Fr.app N1 N2q
  refine own_to T2 (mkF m 10 #[.val (.int (Int32.ofNat q)), .val (.int (Int32.ofNat len)), .val (.ref t2)] []) (fun tq kq => st2 _ (XS.pop X2.here hx rfl (hb hby d32_9) rfl rfl kq)) ?_
  exact own_retV X2 hx hret hlk (hb hby d32_10) (by decide) (by decide) ⟨rfl, N2, e2⟩
theorem d31_0 : decode jdk_52_method_22_code 0 = .ok (.iload_n 1, 1) := by decide +kernel
theorem d31_1 : decode jdk_52_method_22_code 1 = .ok (.iload 4, 2) := by decide +kernel
theorem d31_3 : decode jdk_52_method_22_code 3 = .ok (.aload_n 0, 1) := by decide +kernel
theorem d31_4 : decode jdk_52_method_22_code 4 = .ok (.invokestatic 173, 3) := by decide +kernel
theorem d31_7 : decode jdk_52_method_22_code 7 = .ok (.iconst 0, 1) := by decide +kernel
theorem d31_8 : decode jdk_52_method_22_code 8 = .ok (.istore 5, 2) := by decide +kernel
theorem d31_10 : decode jdk_52_method_22_code 10 = .ok (.iload 5, 2) := by decide +kernel
theorem d31_12 : decode jdk_52_method_22_code 12 = .ok (.iload 4, 2) := by decide +kernel
theorem d31_14 : decode jdk_52_method_22_code 14 = .ok (.if_icmp .ge 39, 3) := by decide +kernel
theorem d31_17 : decode jdk_52_method_22_code 17 = .ok (.aload_n 0, 1) := by decide +kernel
theorem d31_18 : decode jdk_52_method_22_code 18 = .ok (.iload_n 1, 1) := by decide +kernel
theorem d31_19 : decode jdk_52_method_22_code 19 = .ok (.invokestatic 71, 3) := by decide +kernel
theorem d31_22 : decode jdk_52_method_22_code 22 = .ok (.istore 6, 2) := by decide +kernel
theorem d31_24 : decode jdk_52_method_22_code 24 = .ok (.iload 6, 2) := by decide +kernel
theorem d31_26 : decode jdk_52_method_22_code 26 = .ok (.sipush 255, 3) := by decide +kernel
theorem d31_29 : decode jdk_52_method_22_code 29 = .ok (.if_icmp .le 6, 3) := by decide +kernel
theorem d31_32 : decode jdk_52_method_22_code 32 = .ok (.iload 5, 2) := by decide +kernel
theorem d31_34 : decode jdk_52_method_22_code 34 = .ok (.ireturn, 1) := by decide +kernel
theorem d31_35 : decode jdk_52_method_22_code 35 = .ok (.aload_n 2, 1) := by decide +kernel
theorem d31_36 : decode jdk_52_method_22_code 36 = .ok (.iload_n 3, 1) := by decide +kernel
theorem d31_37 : decode jdk_52_method_22_code 37 = .ok (.iload 6, 2) := by decide +kernel
theorem d31_39 : decode jdk_52_method_22_code 39 = .ok (.i2b, 1) := by decide +kernel
theorem d31_40 : decode jdk_52_method_22_code 40 = .ok (.bastore, 1) := by decide +kernel
theorem d31_41 : decode jdk_52_method_22_code 41 = .ok (.iinc 1 1, 3) := by decide +kernel
theorem d31_44 : decode jdk_52_method_22_code 44 = .ok (.iinc 3 1, 3) := by decide +kernel
theorem d31_47 : decode jdk_52_method_22_code 47 = .ok (.iinc 5 1, 3) := by decide +kernel
theorem d31_50 : decode jdk_52_method_22_code 50 = .ok (.goto (-40), 3) := by decide +kernel
theorem d31_53 : decode jdk_52_method_22_code 53 = .ok (.iload 4, 2) := by decide +kernel
theorem d31_55 : decode jdk_52_method_22_code 55 = .ok (.ireturn, 1) := by decide +kernel
theorem ef_31_RIRII (m : MethodId) (x0 : Addr) (x1 : Int32) (x2 : Addr) (x3 : Int32) (x4 : Int32) : entryFrame m #[(.ref x0), (.int x1), (.ref x2), (.int x3), (.int x4)] 7 = mkF m 0 #[.val (.ref x0), .val (.int x1), .val (.ref x2), .val (.int x3), .val (.int x4), .unset, .unset] [] := by first | (simp [entryFrame, mkF, argsToLocals, Value.category]; done) | rfl
def Q_rmC5 (Z : State) (t2 b2 : Addr) (q len n : Nat) (f g0 : Nat → Int32) (vF : Value) (h0 : Heap) (n0 : Nat) (v : Option Value) (h : Heap) (L : List Loc) : Prop := ∃ r, r ≤ len ∧ v = some (.int (Int32.ofNat r)) ∧ Fr n0 L ∧ Keep h0 h [b2] ∧ ∃ g', BArr Z h b2 len g'
set_option maxRecDepth 65536 in
set_option maxHeartbeats 40000000 in
theorem rmC5 (l : Launch) (Z : State) (a0 : Array Value) (hw : ∀ d ∈ tables_1, d.before a0 Z = true) (ws : List Jvm.Cond) (t2 b2 : Addr) (q len n : Nat) (f g0 : Nat → Int32) (vF : Value) (h0 : Heap) (n0 : Nat) (Z0 : n0 ≤ h0.size) (O4 : Sta Z h0 "jdk/internal/util/Preconditions" "SIOOBE_FORMATTER" "Ljava/util/function/BiFunction;" vF) (hvF : vF.isRef = true) (OA : Sta Z h0 "java/lang/StringUTF16" "$assertionsDisabled" "Z" (.int (1 : Int32))) (OH : Sta Z h0 "java/lang/StringUTF16" "HI_BYTE_SHIFT" "I" (.int (0 : Int32))) (OL : Sta Z h0 "java/lang/StringUTF16" "LO_BYTE_SHIFT" "I" (.int (8 : Int32))) (Aa2 : BArr Z h0 t2 (2 * n) f) (Ab2 : BArr Z h0 b2 len g0) (ntb : own_ne t2 b2) (g_b2 : n0 ≤ b2) (hql : q + len ≤ n) (hn' : n < 8) :
    MetFree l (⟨"java/lang/StringUTF16", "compress", "([BI[BII)I"⟩ : MethodName) (head1 (Jvm.Cond.code (⟨"java/lang/StringUTF16", "compress", "([BI[BII)I"⟩ : MethodName) jdk_52_method_22_code 7 (some .int) :: ws) ({ frames := 3, cells := 0, slots := 0, locals := 60 } : Room)) (fun a U => a = #[(.ref t2), (.int (Int32.ofNat q)), (.ref b2), (.int (0 : Int32)), (.int (Int32.ofNat len))] ∧ Z.Warmed39 U.vm ∧ U.heap = h0) (fun _ _ _ _ _ => True) (fun _ U o U' => ∃ v L, o = .returned v ∧ Q_rmC5 Z t2 b2 q len n f g0 vF h0 n0 v U'.heap L ∧ FrameEnd U o U' L ({ frames := 3, cells := 0, slots := 0, locals := 60 } : Room).cells ({ frames := 3, cells := 0, slots := 0, locals := 60 } : Room).slots) := by
  refine own_met (y := (⟨"java/lang/StringUTF16", "compress", "([BI[BII)I"⟩ : MethodName)) (Q := (Q_rmC5 Z t2 b2 q len n f g0 vF h0 n0)) (plainFor_of_name pn_11) fun p e s m below meth c s₁ X0 hx hby hml hret hlk hown hnm hZ e0 => ?_
  refine own_entry (ef_31_RIRII m t2 (Int32.ofNat q) b2 (0 : Int32) (Int32.ofNat len)) ?_
  have K0 := Keep.refl h0 [b2]
  refine own_to s₁ (mkF m 4 #[.val (.ref t2), .val (.int (Int32.ofNat q)), .val (.ref b2), .val (.int (0 : Int32)), .val (.int (Int32.ofNat len)), .unset, .unset] [(.ref t2), (.int (Int32.ofNat len)), (.int (Int32.ofNat q))]) (fun tq kq => XS.iloadN X0.here hx rfl (hb hby d31_0) rfl (XS.iload X0.here hx rfl (hb hby d31_1) rfl (XS.aloadN X0.here hx rfl (hb hby d31_3) rfl rfl kq))) ?_
  obtain ⟨_, _, ⟨T1, L1, k1, n1⟩, -, X1, ⟨Lc1, hQ1, l1, y1, z1⟩, st1⟩ := Jvm.LawKit.callS X0 hx (y := (⟨"java/lang/StringUTF16", "checkBoundsOffCount", "(II[B)V"⟩ : MethodName)) hown (mvT hZ (own_w hw 136 rfl)) (mvT hZ (own_w hw 137 rfl)) (mvT hZ (own_w hw 24 rfl)) (mvT hZ (own_w hw 138 rfl)) (by decide) (backOf (W := 0) (rmUOC l Z a0 hw [] t2 q len n f vF h0 n0 Z0 O4 hvF Aa2 hql hn') hZ (own_w hw 138 rfl) (own_w hw 24 rfl) (by decide) (by decide)) (g := (mkF m 4 #[.val (.ref t2), .val (.int (Int32.ofNat q)), .val (.ref b2), .val (.int (0 : Int32)), .val (.int (Int32.ofNat len)), .unset, .unset] [(.ref t2), (.int (Int32.ofNat len)), (.int (Int32.ofNat q))])) rfl (by rw [hml]; rfl) (argsL := [(.int (Int32.ofNat q)), (.int (Int32.ofNat len)), (.ref t2)]) (rest := []) (lenOf pd_18 rfl) rfl (by show 2 * 0 + _ ≤ _; exact Nat.le_of_eq rfl) (hb hby d31_4) (fun _ _ => ⟨rfl, e0, (by decide : 0 + 0 ≤ _), (by decide : 0 + 0 ≤ _)⟩)
  dsimp only [Pt.U, Pt.locs, Pt.cells, Pt.slots] at X1 l1 y1 z1 st1 hQ1
  have l1y := l1.symm
  clear l1
  subst l1y
  obtain rfl : k1 = 0 := y1
  obtain rfl : n1 = 0 := z1
  obtain ⟨rfl, N1q, e1⟩ := hQ1
  have N1 := Fr.app (Fr.nil n0) N1q
  refine own_to T1 (mkF m 10 #[.val (.ref t2), .val (.int (Int32.ofNat q)), .val (.ref b2), .val (.int (0 : Int32)), .val (.int (Int32.ofNat len)), .val (.int (0 : Int32)), .unset] []) (fun tq kq => st1 _ (XS.iconst X1.here hx rfl (hb hby d31_7) (XS.istore X1.here hx rfl (hb hby d31_8) rfl (l' := #[.val (.ref t2), .val (.int (Int32.ofNat q)), .val (.ref b2), .val (.int (0 : Int32)), .val (.int (Int32.ofNat len)), .val (.int (0 : Int32)), .unset]) rfl kq))) ?_
  have loop : ∀ (k1 i : Nat) (T1 : State) (h1 : Heap) (L1 : List Loc) (g1 : Nat → Int32) (sl : Slot), i + k1 = len → (sl = .unset ∨ ∃ z6, sl = .val (.int z6)) → Stand p l e ({ frames := 3, cells := 0, slots := 0, locals := 60 } : Room) s m #[(.ref t2), (.int (Int32.ofNat q)), (.ref b2), (.int (0 : Int32)), (.int (Int32.ofNat len))] below meth c T1 L1 0 0 → T1.heap = h1 → Fr n0 L1 → n0 ≤ h1.size → Keep h0 h1 [b2] → BArr Z h1 t2 (2 * n) f → BArr Z h1 b2 len g1 → Sta Z h1 "java/lang/StringUTF16" "$assertionsDisabled" "Z" (.int (1 : Int32)) → Sta Z h1 "java/lang/StringUTF16" "HI_BYTE_SHIFT" "I" (.int (0 : Int32)) → Sta Z h1 "java/lang/StringUTF16" "LO_BYTE_SHIFT" "I" (.int (8 : Int32)) → Own p e below s ({ frames := 3, cells := 0, slots := 0, locals := 60 } : Room).cells ({ frames := 3, cells := 0, slots := 0, locals := 60 } : Room).slots (Q_rmC5 Z t2 b2 q len n f g0 vF h0 n0) T1 (mkF m 10 #[.val (.ref t2), .val (.int (Int32.ofNat (q + i))), .val (.ref b2), .val (.int (Int32.ofNat i)), .val (.int (Int32.ofNat len)), .val (.int (Int32.ofNat i)), sl] []) := by
    intro k1
    induction k1 with
    | zero =>
      intro i T1 h1 L1 g1 sl hij hsl X1 e1 N1 Z1 K1 At Ab OA' OH' OL'
      refine own_to T1 (mkF m 55 #[.val (.ref t2), .val (.int (Int32.ofNat (q + i))), .val (.ref b2), .val (.int (Int32.ofNat i)), .val (.int (Int32.ofNat len)), .val (.int (Int32.ofNat i)), sl] [(.int (Int32.ofNat len))]) (fun tq kq => XS.iload X1.here hx rfl (hb hby d31_10) rfl (XS.iload X1.here hx rfl (hb hby d31_12) rfl (XS.icmpYes X1.here hx rfl (pc0 := 14) (pc' := 53) rfl (hb hby d31_14) rfl (flt (mt (own_ltn (by omega) (by omega)).mp (by omega))).2.1 (by decide) (by decide) (XS.iload X1.here hx rfl (hb hby d31_53) rfl kq)))) ?_
      exact own_retI X1 hx hret hlk (hb hby d31_55) (by decide) (by decide) (by rw [e1]; exact ⟨len, (by omega), rfl, N1, K1, _, Ab⟩)
    | succ k1 ih =>
      intro i T1 h1 L1 g1 sl hij hsl X1 e1 N1 Z1 K1 At Ab OA' OH' OL'
      rcases hsl with rfl | ⟨z6, rfl⟩
      · skip
        refine own_to T1 (mkF m 19 #[.val (.ref t2), .val (.int (Int32.ofNat (q + i))), .val (.ref b2), .val (.int (Int32.ofNat i)), .val (.int (Int32.ofNat len)), .val (.int (Int32.ofNat i)), .unset] [(.int (Int32.ofNat (q + i))), (.ref t2)]) (fun tq kq => XS.iload X1.here hx rfl (hb hby d31_10) rfl (XS.iload X1.here hx rfl (hb hby d31_12) rfl (XS.icmpNo X1.here hx rfl (hb hby d31_14) rfl (tlt ((own_ltn (by omega) (by omega)).mpr (by omega))).2.1 (XS.aloadN X1.here hx rfl (hb hby d31_17) rfl rfl (XS.iloadN X1.here hx rfl (hb hby d31_18) rfl kq))))) ?_
        obtain ⟨_, _, ⟨T2, L2, k2, n2⟩, -, X2, ⟨Lc2, hQ2, l2, y2, z2⟩, st2⟩ := Jvm.LawKit.callS X1 hx (y := (⟨"java/lang/StringUTF16", "getChar", "([BI)C"⟩ : MethodName)) hown (mvT hZ (own_w hw 46 rfl)) (mvT hZ (own_w hw 47 rfl)) (mvT hZ (own_w hw 24 rfl)) (mvT hZ (own_w hw 48 rfl)) (by decide) (backOf (W := 0) (rmGC l Z a0 hw [] t2 (q + i) (2 * n) f (own_dec (f (2 * (q + i))) (f (2 * (q + i) + 1))) h1 n0 Z1 OA' OH' OL' At (by omega) (by omega) rfl) hZ (own_w hw 48 rfl) (own_w hw 24 rfl) (by decide) (by decide)) (g := (mkF m 19 #[.val (.ref t2), .val (.int (Int32.ofNat (q + i))), .val (.ref b2), .val (.int (Int32.ofNat i)), .val (.int (Int32.ofNat len)), .val (.int (Int32.ofNat i)), .unset] [(.int (Int32.ofNat (q + i))), (.ref t2)])) rfl (by rw [hml]; rfl) (argsL := [(.ref t2), (.int (Int32.ofNat (q + i)))]) (rest := []) (lenOf pd_9 rfl) rfl (by show 2 * 0 + _ ≤ _; exact Nat.le_of_eq rfl) (hb hby d31_19) (fun _ _ => ⟨rfl, e1, (by decide : 0 + 0 ≤ _), (by decide : 0 + 0 ≤ _)⟩)
        dsimp only [Pt.U, Pt.locs, Pt.cells, Pt.slots] at X2 l2 y2 z2 st2 hQ2
        have l2y := l2.symm
        clear l2
        subst l2y
        obtain rfl : k2 = 0 := y2
        obtain rfl : n2 = 0 := z2
        obtain ⟨rfl, N2q, e2⟩ := hQ2
        have N2 := Fr.app N1 N2q
        refine own_to T2 (mkF m 29 #[.val (.ref t2), .val (.int (Int32.ofNat (q + i))), .val (.ref b2), .val (.int (Int32.ofNat i)), .val (.int (Int32.ofNat len)), .val (.int (Int32.ofNat i)), .val (.int (own_dec (f (2 * (q + i))) (f (2 * (q + i) + 1))))] [(.int (255 : Int32)), (.int (own_dec (f (2 * (q + i))) (f (2 * (q + i) + 1))))]) (fun tq kq => st2 _ (XS.istore X2.here hx rfl (hb hby d31_22) rfl (l' := #[.val (.ref t2), .val (.int (Int32.ofNat (q + i))), .val (.ref b2), .val (.int (Int32.ofNat i)), .val (.int (Int32.ofNat len)), .val (.int (Int32.ofNat i)), .val (.int (own_dec (f (2 * (q + i))) (f (2 * (q + i) + 1))))]) rfl (XS.iload X2.here hx rfl (hb hby d31_24) rfl (XS.sipush X2.here hx rfl (hb hby d31_26) kq)))) ?_
        by_cases c29 : (255 : Int32) < (own_dec (f (2 * (q + i))) (f (2 * (q + i) + 1)))
        · skip
          refine own_to T2 (mkF m 34 #[.val (.ref t2), .val (.int (Int32.ofNat (q + i))), .val (.ref b2), .val (.int (Int32.ofNat i)), .val (.int (Int32.ofNat len)), .val (.int (Int32.ofNat i)), .val (.int (own_dec (f (2 * (q + i))) (f (2 * (q + i) + 1))))] [(.int (Int32.ofNat i))]) (fun tq kq => XS.icmpNo X2.here hx rfl (hb hby d31_29) rfl (tlt c29).2.2.2 (XS.iload X2.here hx rfl (hb hby d31_32) rfl kq)) ?_
          exact own_retI X2 hx hret hlk (hb hby d31_34) (by decide) (by decide) (by rw [e2]; exact ⟨i, (by omega), rfl, N2, K1, _, Ab⟩)
        · skip
          refine own_to T2 (mkF m 40 #[.val (.ref t2), .val (.int (Int32.ofNat (q + i))), .val (.ref b2), .val (.int (Int32.ofNat i)), .val (.int (Int32.ofNat len)), .val (.int (Int32.ofNat i)), .val (.int (own_dec (f (2 * (q + i))) (f (2 * (q + i) + 1))))] [(.int ((own_dec (f (2 * (q + i))) (f (2 * (q + i) + 1))).toInt8.toInt32)), (.int (Int32.ofNat i)), (.ref b2)]) (fun tq kq => XS.icmpYes X2.here hx rfl (pc0 := 29) (pc' := 35) rfl (hb hby d31_29) rfl (flt c29).2.2.2 (by decide) (by decide) (XS.aloadN X2.here hx rfl (hb hby d31_35) rfl rfl (XS.iloadN X2.here hx rfl (hb hby d31_36) rfl (XS.iload X2.here hx rfl (hb hby d31_37) rfl (XS.i2b X2.here hx rfl (hb hby d31_39) rfl kq))))) ?_
          obtain ⟨co4, Aro4, hszo4, hato4⟩ := id Ab
          obtain ⟨T3, h3, X3, e3, W3, st3⟩ := stB X2 hx hZ e2 Aro4 (j := (Int32.ofNat i)) (by rw [hszo4]; exact within rfl (by omega) (by omega)) (g := (mkF m 40 #[.val (.ref t2), .val (.int (Int32.ofNat (q + i))), .val (.ref b2), .val (.int (Int32.ofNat i)), .val (.int (Int32.ofNat len)), .val (.int (Int32.ofNat i)), .val (.int (own_dec (f (2 * (q + i))) (f (2 * (q + i) + 1))))] [(.int ((own_dec (f (2 * (q + i))) (f (2 * (q + i) + 1))).toInt8.toInt32)), (.int (Int32.ofNat i)), (.ref b2)])) rfl rfl (hb hby d31_40)
          have f5 := At.other W3 ntb
          have f6 := OA'.wr W3
          have f7 := OH'.wr W3
          have f8 := OL'.wr W3
          have N3 := Fr.snoc X3 N2 g_b2
          have Zs3 : n0 ≤ h3.size := by rw [W3.size]; exact Z1
          have K3 := K1.wr W3 (Or.inl (List.mem_of_getElem? (i := 0) rfl))
          have V3 := BArr.set Aro4 hszo4 hato4 W3 (i := i) (clamp_of rfl (by omega))
          refine own_to T3 (mkF m 50 #[.val (.ref t2), .val (.int ((Int32.ofNat (q + i)) + (1 : Int32))), .val (.ref b2), .val (.int ((Int32.ofNat i) + (1 : Int32))), .val (.int (Int32.ofNat len)), .val (.int ((Int32.ofNat i) + (1 : Int32))), .val (.int (own_dec (f (2 * (q + i))) (f (2 * (q + i) + 1))))] []) (fun tq kq => st3 _ (XS.iinc X3.here hx rfl (hb hby d31_41) rfl (l' := #[.val (.ref t2), .val (.int ((Int32.ofNat (q + i)) + (1 : Int32))), .val (.ref b2), .val (.int (Int32.ofNat i)), .val (.int (Int32.ofNat len)), .val (.int (Int32.ofNat i)), .val (.int (own_dec (f (2 * (q + i))) (f (2 * (q + i) + 1))))]) rfl (XS.iinc X3.here hx rfl (hb hby d31_44) rfl (l' := #[.val (.ref t2), .val (.int ((Int32.ofNat (q + i)) + (1 : Int32))), .val (.ref b2), .val (.int ((Int32.ofNat i) + (1 : Int32))), .val (.int (Int32.ofNat len)), .val (.int (Int32.ofNat i)), .val (.int (own_dec (f (2 * (q + i))) (f (2 * (q + i) + 1))))]) rfl (XS.iinc X3.here hx rfl (hb hby d31_47) rfl (l' := #[.val (.ref t2), .val (.int ((Int32.ofNat (q + i)) + (1 : Int32))), .val (.ref b2), .val (.int ((Int32.ofNat i) + (1 : Int32))), .val (.int (Int32.ofNat len)), .val (.int ((Int32.ofNat i) + (1 : Int32))), .val (.int (own_dec (f (2 * (q + i))) (f (2 * (q + i) + 1))))]) rfl kq)))) ?_
          rw [show (Int32.ofNat (q + i) + (1 : Int32)) = Int32.ofNat (q + (i + 1)) from own_addn (q + i) 1 (by omega) (by decide), show (Int32.ofNat i + (1 : Int32)) = Int32.ofNat (i + 1) from own_addn i 1 (by omega) (by decide)]
          refine own_to T3 (mkF m 10 #[.val (.ref t2), .val (.int (Int32.ofNat (q + (i + 1)))), .val (.ref b2), .val (.int (Int32.ofNat (i + 1))), .val (.int (Int32.ofNat len)), .val (.int (Int32.ofNat (i + 1))), .val (.int (own_dec (f (2 * (q + i))) (f (2 * (q + i) + 1))))] []) (fun tq kq => XS.goto X3.here hx rfl (pc0 := 50) (pc' := 10) rfl (hb hby d31_50) (by decide) (by decide) kq) ?_
          exact ih (i + 1) _ _ _ _ _ (by omega) (Or.inr ⟨_, rfl⟩) X3 e3 N3 Zs3 K3 f5 V3 f6 f7 f8
      · skip
        refine own_to T1 (mkF m 19 #[.val (.ref t2), .val (.int (Int32.ofNat (q + i))), .val (.ref b2), .val (.int (Int32.ofNat i)), .val (.int (Int32.ofNat len)), .val (.int (Int32.ofNat i)), .val (.int z6)] [(.int (Int32.ofNat (q + i))), (.ref t2)]) (fun tq kq => XS.iload X1.here hx rfl (hb hby d31_10) rfl (XS.iload X1.here hx rfl (hb hby d31_12) rfl (XS.icmpNo X1.here hx rfl (hb hby d31_14) rfl (tlt ((own_ltn (by omega) (by omega)).mpr (by omega))).2.1 (XS.aloadN X1.here hx rfl (hb hby d31_17) rfl rfl (XS.iloadN X1.here hx rfl (hb hby d31_18) rfl kq))))) ?_
        obtain ⟨_, _, ⟨T9, L9, k9, n9⟩, -, X9, ⟨Lc9, hQ9, l9, y9, z9⟩, st9⟩ := Jvm.LawKit.callS X1 hx (y := (⟨"java/lang/StringUTF16", "getChar", "([BI)C"⟩ : MethodName)) hown (mvT hZ (own_w hw 46 rfl)) (mvT hZ (own_w hw 47 rfl)) (mvT hZ (own_w hw 24 rfl)) (mvT hZ (own_w hw 48 rfl)) (by decide) (backOf (W := 0) (rmGC l Z a0 hw [] t2 (q + i) (2 * n) f (own_dec (f (2 * (q + i))) (f (2 * (q + i) + 1))) h1 n0 Z1 OA' OH' OL' At (by omega) (by omega) rfl) hZ (own_w hw 48 rfl) (own_w hw 24 rfl) (by decide) (by decide)) (g := (mkF m 19 #[.val (.ref t2), .val (.int (Int32.ofNat (q + i))), .val (.ref b2), .val (.int (Int32.ofNat i)), .val (.int (Int32.ofNat len)), .val (.int (Int32.ofNat i)), .val (.int z6)] [(.int (Int32.ofNat (q + i))), (.ref t2)])) rfl (by rw [hml]; rfl) (argsL := [(.ref t2), (.int (Int32.ofNat (q + i)))]) (rest := []) (lenOf pd_9 rfl) rfl (by show 2 * 0 + _ ≤ _; exact Nat.le_of_eq rfl) (hb hby d31_19) (fun _ _ => ⟨rfl, e1, (by decide : 0 + 0 ≤ _), (by decide : 0 + 0 ≤ _)⟩)
        dsimp only [Pt.U, Pt.locs, Pt.cells, Pt.slots] at X9 l9 y9 z9 st9 hQ9
        have l9y := l9.symm
        clear l9
        subst l9y
        obtain rfl : k9 = 0 := y9
        obtain rfl : n9 = 0 := z9
        obtain ⟨rfl, N9q, e9⟩ := hQ9
        have N9 := Fr.app N1 N9q
        refine own_to T9 (mkF m 29 #[.val (.ref t2), .val (.int (Int32.ofNat (q + i))), .val (.ref b2), .val (.int (Int32.ofNat i)), .val (.int (Int32.ofNat len)), .val (.int (Int32.ofNat i)), .val (.int (own_dec (f (2 * (q + i))) (f (2 * (q + i) + 1))))] [(.int (255 : Int32)), (.int (own_dec (f (2 * (q + i))) (f (2 * (q + i) + 1))))]) (fun tq kq => st9 _ (XS.istore X9.here hx rfl (hb hby d31_22) rfl (l' := #[.val (.ref t2), .val (.int (Int32.ofNat (q + i))), .val (.ref b2), .val (.int (Int32.ofNat i)), .val (.int (Int32.ofNat len)), .val (.int (Int32.ofNat i)), .val (.int (own_dec (f (2 * (q + i))) (f (2 * (q + i) + 1))))]) rfl (XS.iload X9.here hx rfl (hb hby d31_24) rfl (XS.sipush X9.here hx rfl (hb hby d31_26) kq)))) ?_
        by_cases c29 : (255 : Int32) < (own_dec (f (2 * (q + i))) (f (2 * (q + i) + 1)))
        · skip
          refine own_to T9 (mkF m 34 #[.val (.ref t2), .val (.int (Int32.ofNat (q + i))), .val (.ref b2), .val (.int (Int32.ofNat i)), .val (.int (Int32.ofNat len)), .val (.int (Int32.ofNat i)), .val (.int (own_dec (f (2 * (q + i))) (f (2 * (q + i) + 1))))] [(.int (Int32.ofNat i))]) (fun tq kq => XS.icmpNo X9.here hx rfl (hb hby d31_29) rfl (tlt c29).2.2.2 (XS.iload X9.here hx rfl (hb hby d31_32) rfl kq)) ?_
          exact own_retI X9 hx hret hlk (hb hby d31_34) (by decide) (by decide) (by rw [e9]; exact ⟨i, (by omega), rfl, N9, K1, _, Ab⟩)
        · skip
          refine own_to T9 (mkF m 40 #[.val (.ref t2), .val (.int (Int32.ofNat (q + i))), .val (.ref b2), .val (.int (Int32.ofNat i)), .val (.int (Int32.ofNat len)), .val (.int (Int32.ofNat i)), .val (.int (own_dec (f (2 * (q + i))) (f (2 * (q + i) + 1))))] [(.int ((own_dec (f (2 * (q + i))) (f (2 * (q + i) + 1))).toInt8.toInt32)), (.int (Int32.ofNat i)), (.ref b2)]) (fun tq kq => XS.icmpYes X9.here hx rfl (pc0 := 29) (pc' := 35) rfl (hb hby d31_29) rfl (flt c29).2.2.2 (by decide) (by decide) (XS.aloadN X9.here hx rfl (hb hby d31_35) rfl rfl (XS.iloadN X9.here hx rfl (hb hby d31_36) rfl (XS.iload X9.here hx rfl (hb hby d31_37) rfl (XS.i2b X9.here hx rfl (hb hby d31_39) rfl kq))))) ?_
          obtain ⟨co11, Aro11, hszo11, hato11⟩ := id Ab
          obtain ⟨T10, h10, X10, e10, W10, st10⟩ := stB X9 hx hZ e9 Aro11 (j := (Int32.ofNat i)) (by rw [hszo11]; exact within rfl (by omega) (by omega)) (g := (mkF m 40 #[.val (.ref t2), .val (.int (Int32.ofNat (q + i))), .val (.ref b2), .val (.int (Int32.ofNat i)), .val (.int (Int32.ofNat len)), .val (.int (Int32.ofNat i)), .val (.int (own_dec (f (2 * (q + i))) (f (2 * (q + i) + 1))))] [(.int ((own_dec (f (2 * (q + i))) (f (2 * (q + i) + 1))).toInt8.toInt32)), (.int (Int32.ofNat i)), (.ref b2)])) rfl rfl (hb hby d31_40)
          have f12 := At.other W10 ntb
          have f13 := OA'.wr W10
          have f14 := OH'.wr W10
          have f15 := OL'.wr W10
          have N10 := Fr.snoc X10 N9 g_b2
          have Zs10 : n0 ≤ h10.size := by rw [W10.size]; exact Z1
          have K10 := K1.wr W10 (Or.inl (List.mem_of_getElem? (i := 0) rfl))
          have V10 := BArr.set Aro11 hszo11 hato11 W10 (i := i) (clamp_of rfl (by omega))
          refine own_to T10 (mkF m 50 #[.val (.ref t2), .val (.int ((Int32.ofNat (q + i)) + (1 : Int32))), .val (.ref b2), .val (.int ((Int32.ofNat i) + (1 : Int32))), .val (.int (Int32.ofNat len)), .val (.int ((Int32.ofNat i) + (1 : Int32))), .val (.int (own_dec (f (2 * (q + i))) (f (2 * (q + i) + 1))))] []) (fun tq kq => st10 _ (XS.iinc X10.here hx rfl (hb hby d31_41) rfl (l' := #[.val (.ref t2), .val (.int ((Int32.ofNat (q + i)) + (1 : Int32))), .val (.ref b2), .val (.int (Int32.ofNat i)), .val (.int (Int32.ofNat len)), .val (.int (Int32.ofNat i)), .val (.int (own_dec (f (2 * (q + i))) (f (2 * (q + i) + 1))))]) rfl (XS.iinc X10.here hx rfl (hb hby d31_44) rfl (l' := #[.val (.ref t2), .val (.int ((Int32.ofNat (q + i)) + (1 : Int32))), .val (.ref b2), .val (.int ((Int32.ofNat i) + (1 : Int32))), .val (.int (Int32.ofNat len)), .val (.int (Int32.ofNat i)), .val (.int (own_dec (f (2 * (q + i))) (f (2 * (q + i) + 1))))]) rfl (XS.iinc X10.here hx rfl (hb hby d31_47) rfl (l' := #[.val (.ref t2), .val (.int ((Int32.ofNat (q + i)) + (1 : Int32))), .val (.ref b2), .val (.int ((Int32.ofNat i) + (1 : Int32))), .val (.int (Int32.ofNat len)), .val (.int ((Int32.ofNat i) + (1 : Int32))), .val (.int (own_dec (f (2 * (q + i))) (f (2 * (q + i) + 1))))]) rfl kq)))) ?_
          rw [show (Int32.ofNat (q + i) + (1 : Int32)) = Int32.ofNat (q + (i + 1)) from own_addn (q + i) 1 (by omega) (by decide), show (Int32.ofNat i + (1 : Int32)) = Int32.ofNat (i + 1) from own_addn i 1 (by omega) (by decide)]
          refine own_to T10 (mkF m 10 #[.val (.ref t2), .val (.int (Int32.ofNat (q + (i + 1)))), .val (.ref b2), .val (.int (Int32.ofNat (i + 1))), .val (.int (Int32.ofNat len)), .val (.int (Int32.ofNat (i + 1))), .val (.int (own_dec (f (2 * (q + i))) (f (2 * (q + i) + 1))))] []) (fun tq kq => XS.goto X10.here hx rfl (pc0 := 50) (pc' := 10) rfl (hb hby d31_50) (by decide) (by decide) kq) ?_
          exact ih (i + 1) _ _ _ _ _ (by omega) (Or.inr ⟨_, rfl⟩) X10 e10 N10 Zs10 K10 f12 V10 f13 f14 f15
  exact loop len 0 _ _ _ _ .unset (by omega) (Or.inl rfl) X1 e1 N1 Z0 K0 Aa2 Ab2 OA OH OL
theorem d30_0 : decode jdk_52_method_17_code 0 = .ok (.iload_n 2, 1) := by decide +kernel
theorem d30_1 : decode jdk_52_method_17_code 1 = .ok (.newarray .byte, 2) := by decide +kernel
theorem d30_3 : decode jdk_52_method_17_code 3 = .ok (.astore_n 3, 1) := by decide +kernel
theorem d30_4 : decode jdk_52_method_17_code 4 = .ok (.aload_n 0, 1) := by decide +kernel
theorem d30_5 : decode jdk_52_method_17_code 5 = .ok (.iload_n 1, 1) := by decide +kernel
theorem d30_6 : decode jdk_52_method_17_code 6 = .ok (.aload_n 3, 1) := by decide +kernel
theorem d30_7 : decode jdk_52_method_17_code 7 = .ok (.iconst 0, 1) := by decide +kernel
theorem d30_8 : decode jdk_52_method_17_code 8 = .ok (.iload_n 2, 1) := by decide +kernel
theorem d30_9 : decode jdk_52_method_17_code 9 = .ok (.invokestatic 123, 3) := by decide +kernel
theorem d30_12 : decode jdk_52_method_17_code 12 = .ok (.istore 4, 2) := by decide +kernel
theorem d30_14 : decode jdk_52_method_17_code 14 = .ok (.iload 4, 2) := by decide +kernel
theorem d30_16 : decode jdk_52_method_17_code 16 = .ok (.iload_n 2, 1) := by decide +kernel
theorem d30_17 : decode jdk_52_method_17_code 17 = .ok (.if_icmp .eq 47, 3) := by decide +kernel
theorem d30_20 : decode jdk_52_method_17_code 20 = .ok (.aload_n 0, 1) := by decide +kernel
theorem d30_21 : decode jdk_52_method_17_code 21 = .ok (.iload_n 1, 1) := by decide +kernel
theorem d30_22 : decode jdk_52_method_17_code 22 = .ok (.iconst 1, 1) := by decide +kernel
theorem d30_23 : decode jdk_52_method_17_code 23 = .ok (.ishl, 1) := by decide +kernel
theorem d30_24 : decode jdk_52_method_17_code 24 = .ok (.iload_n 1, 1) := by decide +kernel
theorem d30_25 : decode jdk_52_method_17_code 25 = .ok (.iload_n 2, 1) := by decide +kernel
theorem d30_26 : decode jdk_52_method_17_code 26 = .ok (.iadd, 1) := by decide +kernel
theorem d30_27 : decode jdk_52_method_17_code 27 = .ok (.invokestatic 11, 3) := by decide +kernel
theorem d30_30 : decode jdk_52_method_17_code 30 = .ok (.invokestatic 126, 3) := by decide +kernel
theorem d30_33 : decode jdk_52_method_17_code 33 = .ok (.astore 5, 2) := by decide +kernel
theorem d30_35 : decode jdk_52_method_17_code 35 = .ok (.aload 5, 2) := by decide +kernel
theorem d30_37 : decode jdk_52_method_17_code 37 = .ok (.iload 4, 2) := by decide +kernel
theorem d30_39 : decode jdk_52_method_17_code 39 = .ok (.invokestatic 71, 3) := by decide +kernel
theorem d30_42 : decode jdk_52_method_17_code 42 = .ok (.sipush 255, 3) := by decide +kernel
theorem d30_45 : decode jdk_52_method_17_code 45 = .ok (.if_icmp .gt 16, 3) := by decide +kernel
theorem d30_48 : decode jdk_52_method_17_code 48 = .ok (.aload 5, 2) := by decide +kernel
theorem d30_50 : decode jdk_52_method_17_code 50 = .ok (.iconst 0, 1) := by decide +kernel
theorem d30_51 : decode jdk_52_method_17_code 51 = .ok (.aload_n 3, 1) := by decide +kernel
theorem d30_52 : decode jdk_52_method_17_code 52 = .ok (.iconst 0, 1) := by decide +kernel
theorem d30_53 : decode jdk_52_method_17_code 53 = .ok (.iload_n 2, 1) := by decide +kernel
theorem d30_54 : decode jdk_52_method_17_code 54 = .ok (.invokestatic 123, 3) := by decide +kernel
theorem d30_57 : decode jdk_52_method_17_code 57 = .ok (.iload_n 2, 1) := by decide +kernel
theorem d30_58 : decode jdk_52_method_17_code 58 = .ok (.if_icmp .eq 6, 3) := by decide +kernel
theorem d30_61 : decode jdk_52_method_17_code 61 = .ok (.aload 5, 2) := by decide +kernel
theorem d30_63 : decode jdk_52_method_17_code 63 = .ok (.areturn, 1) := by decide +kernel
theorem d30_64 : decode jdk_52_method_17_code 64 = .ok (.aload_n 3, 1) := by decide +kernel
theorem d30_65 : decode jdk_52_method_17_code 65 = .ok (.areturn, 1) := by decide +kernel
theorem ef_30_RII (m : MethodId) (x0 : Addr) (x1 : Int32) (x2 : Int32) : entryFrame m #[(.ref x0), (.int x1), (.int x2)] 6 = mkF m 0 #[.val (.ref x0), .val (.int x1), .val (.int x2), .unset, .unset, .unset] [] := by first | (simp [entryFrame, mkF, argsToLocals, Value.category]; done) | rfl
def Q_rmC3 (Z : State) (t2 : Addr) (q len : Nat) (f : Nat → Int32) (vF : Value) (h0 : Heap) (n0 : Nat) (v : Option Value) (h : Heap) (L : List Loc) : Prop := ∃ b, v = some (.ref b) ∧ Fr n0 L ∧ Keep h0 h [] ∧ h0.size ≤ b ∧ n0 ≤ b ∧ ∃ N g, BArr Z h b N g ∧ (N = len ∨ N = 2 * len)
theorem pd_25 : parseMethodDescriptor "([BI[BII)I" = some ⟨[(.array .byte), .int, (.array .byte), .int, .int], some .int⟩ := by decide +kernel
set_option maxRecDepth 65536 in
set_option maxHeartbeats 40000000 in
theorem rmC3 (l : Launch) (Z : State) (a0 : Array Value) (hw : ∀ d ∈ tables_1, d.before a0 Z = true) (ws : List Jvm.Cond) (t2 : Addr) (q len : Nat) (f : Nat → Int32) (vF : Value) (h0 : Heap) (n0 : Nat) (Z0 : n0 ≤ h0.size) (O4 : Sta Z h0 "jdk/internal/util/Preconditions" "SIOOBE_FORMATTER" "Ljava/util/function/BiFunction;" vF) (hvF : vF.isRef = true) (OA : Sta Z h0 "java/lang/StringUTF16" "$assertionsDisabled" "Z" (.int (1 : Int32))) (OH : Sta Z h0 "java/lang/StringUTF16" "HI_BYTE_SHIFT" "I" (.int (0 : Int32))) (OL : Sta Z h0 "java/lang/StringUTF16" "LO_BYTE_SHIFT" "I" (.int (8 : Int32))) (Aa2 : BArr Z h0 t2 14 f) (hfb : ∀ i, i < 14 → fits .byte (.int (f i)) = true) (h0l : 0 < len) (hql : q + len ≤ 6) :
    MetFree l (⟨"java/lang/StringUTF16", "compress", "([BII)[B"⟩ : MethodName) (head1 (Jvm.Cond.code (⟨"java/lang/StringUTF16", "compress", "([BII)[B"⟩ : MethodName) jdk_52_method_17_code 6 (some (.array .byte)) :: ws) ({ frames := 4, cells := 2, slots := 20, locals := 120 } : Room)) (fun a U => a = #[(.ref t2), (.int (Int32.ofNat q)), (.int (Int32.ofNat len))] ∧ Z.Warmed39 U.vm ∧ U.heap = h0) (fun _ _ _ _ _ => True) (fun _ U o U' => ∃ v L, o = .returned v ∧ Q_rmC3 Z t2 q len f vF h0 n0 v U'.heap L ∧ FrameEnd U o U' L ({ frames := 4, cells := 2, slots := 20, locals := 120 } : Room).cells ({ frames := 4, cells := 2, slots := 20, locals := 120 } : Room).slots) := by
  refine own_met (y := (⟨"java/lang/StringUTF16", "compress", "([BII)[B"⟩ : MethodName)) (Q := (Q_rmC3 Z t2 q len f vF h0 n0)) (plainFor_of_name pn_11) fun p e s m below meth c s₁ X0 hx hby hml hret hlk hown hnm hZ e0 => ?_
  refine own_entry (ef_30_RII m t2 (Int32.ofNat q) (Int32.ofNat len)) ?_
  have K0 := Keep.refl h0 []
  refine own_to s₁ (mkF m 1 #[.val (.ref t2), .val (.int (Int32.ofNat q)), .val (.int (Int32.ofNat len)), .unset, .unset, .unset] [(.int (Int32.ofNat len))]) (fun tq kq => XS.iloadN X0.here hx rfl (hb hby d30_0) rfl kq) ?_
  obtain ⟨T1, h1, k1, X1, e1, E1, A1, st1⟩ := newP X0 hx hZ (own_w hw 26 rfl) e0 (g := (mkF m 1 #[.val (.ref t2), .val (.int (Int32.ofNat q)), .val (.int (Int32.ofNat len)), .unset, .unset, .unset] [(.int (Int32.ofNat len))])) rfl (hb hby d30_1) rfl (own_nonneg (by omega)) (cap := 6) (by rw [clamp_of rfl (by omega)]; omega) (by decide) (by decide) (by decide)
  obtain ⟨b1, g1⟩ : ∃ z, z = h0.size := ⟨_, rfl⟩
  rw [← g1] at A1 st1
  have ne_t2_b1 : own_ne t2 b1 := Nat.ne_of_lt (Nat.lt_of_lt_of_le Aa2.lt (Nat.le_of_eq g1.symm))
  have f2 := OA.ext E1
  have f3 := OH.ext E1
  have f4 := OL.ext E1
  have f5 := O4.ext E1
  have f6 := Aa2.ext E1
  have sz1 : n0 ≤ b1 := Nat.le_trans Z0 (Nat.le_of_eq g1.symm)
  have hs1 : h0.size ≤ b1 := Nat.le_trans K0.1 (Nat.le_of_eq g1.symm)
  have Zs1 : n0 ≤ h1.size := Nat.le_trans Z0 E1.1
  have K1 := K0.ext E1
  have V1 : BArr Z h1 b1 len (fun _ => 0) := BArr.new A1 (clamp_of rfl (by omega))
  refine own_to T1 (mkF m 9 #[.val (.ref t2), .val (.int (Int32.ofNat q)), .val (.int (Int32.ofNat len)), .val (.ref b1), .unset, .unset] [(.int (Int32.ofNat len)), (.int (0 : Int32)), (.ref b1), (.int (Int32.ofNat q)), (.ref t2)]) (fun tq kq => st1 _ (XS.astoreN X1.here hx rfl (hb hby d30_3) rfl rfl (l' := #[.val (.ref t2), .val (.int (Int32.ofNat q)), .val (.int (Int32.ofNat len)), .val (.ref b1), .unset, .unset]) rfl (XS.aloadN X1.here hx rfl (hb hby d30_4) rfl rfl (XS.iloadN X1.here hx rfl (hb hby d30_5) rfl (XS.aloadN X1.here hx rfl (hb hby d30_6) rfl rfl (XS.iconst X1.here hx rfl (hb hby d30_7) (XS.iloadN X1.here hx rfl (hb hby d30_8) rfl kq))))))) ?_
  obtain ⟨_, _, ⟨T7, L7, k7, n7⟩, -, X7, ⟨Lc7, hQ7, l7, y7, z7⟩, st7⟩ := Jvm.LawKit.callS X1 hx (y := (⟨"java/lang/StringUTF16", "compress", "([BI[BII)I"⟩ : MethodName)) hown (mvT hZ (own_w hw 133 rfl)) (mvT hZ (own_w hw 134 rfl)) (mvT hZ (own_w hw 24 rfl)) (mvT hZ (own_w hw 135 rfl)) (by decide) (backOf (W := 0) (rmC5 l Z a0 hw [] t2 b1 q len 7 f (fun _ => 0) vF h1 n0 Zs1 f5 hvF f2 f3 f4 f6 V1 ne_t2_b1 sz1 (by omega) (by decide)) hZ (own_w hw 135 rfl) (own_w hw 24 rfl) (by decide) (by decide)) (g := (mkF m 9 #[.val (.ref t2), .val (.int (Int32.ofNat q)), .val (.int (Int32.ofNat len)), .val (.ref b1), .unset, .unset] [(.int (Int32.ofNat len)), (.int (0 : Int32)), (.ref b1), (.int (Int32.ofNat q)), (.ref t2)])) rfl (by rw [hml]; rfl) (argsL := [(.ref t2), (.int (Int32.ofNat q)), (.ref b1), (.int (0 : Int32)), (.int (Int32.ofNat len))]) (rest := []) (lenOf pd_25 rfl) rfl (by show 2 * 0 + _ ≤ _; exact Nat.le_of_eq rfl) (hb hby d30_9) (fun _ _ => ⟨rfl, e1, (by decide : 1 + 0 ≤ _), (by decide : 6 + 0 ≤ _)⟩)
  dsimp only [Pt.U, Pt.locs, Pt.cells, Pt.slots] at X7 l7 y7 z7 st7 hQ7
  have l7y := l7.symm
  clear l7
  subst l7y
  obtain rfl : k7 = 1 := y7
  obtain rfl : n7 = 6 := z7
  obtain ⟨ra, hra, rfl, N7q, K7q, gg7, V7q⟩ := hQ7
  have N7 := Fr.app (Fr.nil n0) N7q
  have f8 := own_staA f2 K7q (by obtain ⟨c9, A9, -⟩ := V1; exact ⟨c9, _, A9⟩)
  have f9 := own_staA f3 K7q (by obtain ⟨c9, A9, -⟩ := V1; exact ⟨c9, _, A9⟩)
  have f10 := own_staA f4 K7q (by obtain ⟨c9, A9, -⟩ := V1; exact ⟨c9, _, A9⟩)
  have f11 := own_staA f5 K7q (by obtain ⟨c9, A9, -⟩ := V1; exact ⟨c9, _, A9⟩)
  have f12 := f6.keep K7q (ninS ne_t2_b1 nin0)
  have Zs7 : n0 ≤ T7.heap.size := Nat.le_trans Zs1 K7q.1
  have KK7 := K1.trans K7q (allS (Or.inr hs1) all0)
  refine own_to T7 (mkF m 17 #[.val (.ref t2), .val (.int (Int32.ofNat q)), .val (.int (Int32.ofNat len)), .val (.ref b1), .val (.int (Int32.ofNat ra)), .unset] [(.int (Int32.ofNat len)), (.int (Int32.ofNat ra))]) (fun tq kq => st7 _ (XS.istore X7.here hx rfl (hb hby d30_12) rfl (l' := #[.val (.ref t2), .val (.int (Int32.ofNat q)), .val (.int (Int32.ofNat len)), .val (.ref b1), .val (.int (Int32.ofNat ra)), .unset]) rfl (XS.iload X7.here hx rfl (hb hby d30_14) rfl (XS.iloadN X7.here hx rfl (hb hby d30_16) rfl kq)))) ?_
  by_cases c17 : (Int32.ofNat ra) = (Int32.ofNat len)
  · skip
    refine own_to T7 (mkF m 65 #[.val (.ref t2), .val (.int (Int32.ofNat q)), .val (.int (Int32.ofNat len)), .val (.ref b1), .val (.int (Int32.ofNat ra)), .unset] [(.ref b1)]) (fun tq kq => XS.icmpYes X7.here hx rfl (pc0 := 17) (pc' := 64) rfl (hb hby d30_17) rfl (teq c17).1 (by decide) (by decide) (XS.aloadN X7.here hx rfl (hb hby d30_64) rfl rfl kq)) ?_
    exact own_retA X7 hx hret hlk rfl rfl (hb hby d30_65) (by decide) (by decide) ⟨b1, rfl, N7, KK7, hs1, sz1, len, _, V7q, Or.inl rfl⟩
  · skip
    refine own_to T7 (mkF m 24 #[.val (.ref t2), .val (.int (Int32.ofNat q)), .val (.int (Int32.ofNat len)), .val (.ref b1), .val (.int (Int32.ofNat ra)), .unset] [(.int ((Int32.ofNat q) <<< ((1 : Int32) &&& 31))), (.ref t2)]) (fun tq kq => XS.icmpNo X7.here hx rfl (hb hby d30_17) rfl (feq c17).1 (XS.aloadN X7.here hx rfl (hb hby d30_20) rfl rfl (XS.iloadN X7.here hx rfl (hb hby d30_21) rfl (XS.iconst X7.here hx rfl (hb hby d30_22) (XS.ishl X7.here hx rfl (hb hby d30_23) rfl kq))))) ?_
    rw [show ((Int32.ofNat q) <<< ((1 : Int32) &&& 31)) = (Int32.ofNat (2 * q)) from own_shl1 (by omega)]
    refine own_to T7 (mkF m 27 #[.val (.ref t2), .val (.int (Int32.ofNat q)), .val (.int (Int32.ofNat len)), .val (.ref b1), .val (.int (Int32.ofNat ra)), .unset] [(.int ((Int32.ofNat q) + (Int32.ofNat len))), (.int (Int32.ofNat (2 * q))), (.ref t2)]) (fun tq kq => XS.iloadN X7.here hx rfl (hb hby d30_24) rfl (XS.iloadN X7.here hx rfl (hb hby d30_25) rfl (XS.iadd X7.here hx rfl (hb hby d30_26) rfl kq))) ?_
    rw [show ((Int32.ofNat q) + (Int32.ofNat len)) = (Int32.ofNat (q + len)) from own_addn q len (by omega) (by omega)]
    obtain ⟨_, _, ⟨T13, L13, k13, n13⟩, -, X13, ⟨Lc13, hQ13, l13, y13, z13⟩, st13⟩ := Jvm.LawKit.callS X7 hx (y := (⟨"java/lang/StringUTF16", "newBytesLength", "(I)I"⟩ : MethodName)) hown (mvT hZ (own_w hw 36 rfl)) (mvT hZ (own_w hw 37 rfl)) (mvT hZ (own_w hw 24 rfl)) (mvT hZ (own_w hw 38 rfl)) (by decide) (backOf (W := 2) (rmNBL l Z a0 hw [] (q + len) T7.heap n0 Zs7 (by omega)) hZ (own_w hw 38 rfl) (own_w hw 24 rfl) (by decide) (by decide)) (g := (mkF m 27 #[.val (.ref t2), .val (.int (Int32.ofNat q)), .val (.int (Int32.ofNat len)), .val (.ref b1), .val (.int (Int32.ofNat ra)), .unset] [(.int (Int32.ofNat (q + len))), (.int (Int32.ofNat (2 * q))), (.ref t2)])) rfl (by rw [hml]; rfl) (argsL := [(.int (Int32.ofNat (q + len)))]) (rest := [(.int (Int32.ofNat (2 * q))), (.ref t2)]) (lenOf pd_7 rfl) rfl (by show 2 * 0 + _ ≤ _; exact Nat.le_of_eq rfl) (hb hby d30_27) (fun _ _ => ⟨rfl, rfl, (by decide : 1 + 0 ≤ _), (by decide : 6 + 0 ≤ _)⟩)
    dsimp only [Pt.U, Pt.locs, Pt.cells, Pt.slots] at X13 l13 y13 z13 st13 hQ13
    have l13y := l13.symm
    clear l13
    subst l13y
    obtain rfl : k13 = 1 := y13
    obtain rfl : n13 = 6 := z13
    obtain ⟨rfl, N13q, e13⟩ := hQ13
    have N13 := Fr.app N7 N13q
    refine own_to T13 (mkF m 30 #[.val (.ref t2), .val (.int (Int32.ofNat q)), .val (.int (Int32.ofNat len)), .val (.ref b1), .val (.int (Int32.ofNat ra)), .unset] [(.int (Int32.ofNat (2 * (q + len)))), (.int (Int32.ofNat (2 * q))), (.ref t2)]) (fun tq kq => st13 _ kq) ?_
    obtain ⟨_, _, ⟨T14, L14, k14, n14⟩, -, X14, ⟨Lc14, hQ14, l14, y14, z14⟩, st14⟩ := Jvm.LawKit.callS X13 hx (y := (⟨"java/util/Arrays", "copyOfRange", "([BII)[B"⟩ : MethodName)) hown (mvT hZ (own_w hw 182 rfl)) (mvT hZ (own_w hw 183 rfl)) (mvT hZ (own_w hw 184 rfl)) (mvT hZ (own_w hw 185 rfl)) (by decide) (backOf (W := 0) (rmCR l Z a0 hw [] t2 (2 * q) (2 * (q + len)) f T7.heap n0 Zs7 f12 hfb (by omega) (by omega)) hZ (own_w hw 185 rfl) (own_w hw 184 rfl) (by decide) (by decide)) (g := (mkF m 30 #[.val (.ref t2), .val (.int (Int32.ofNat q)), .val (.int (Int32.ofNat len)), .val (.ref b1), .val (.int (Int32.ofNat ra)), .unset] [(.int (Int32.ofNat (2 * (q + len)))), (.int (Int32.ofNat (2 * q))), (.ref t2)])) rfl (by rw [hml]; rfl) (argsL := [(.ref t2), (.int (Int32.ofNat (2 * q))), (.int (Int32.ofNat (2 * (q + len))))]) (rest := []) (lenOf pd_24 rfl) rfl (by show 2 * 0 + _ ≤ _; exact Nat.le_of_eq rfl) (hb hby d30_30) (fun _ _ => ⟨rfl, e13, (by decide : 1 + 1 ≤ _), (by decide : 6 + 14 ≤ _)⟩)
    dsimp only [Pt.U, Pt.locs, Pt.cells, Pt.slots] at X14 l14 y14 z14 st14 hQ14
    have l14y := l14.symm
    clear l14
    subst l14y
    obtain rfl : k14 = 2 := y14
    obtain rfl : n14 = 20 := z14
    obtain ⟨b14, rfl, N14q, K14q, hsr14, gb14, V14q⟩ := hQ14
    have N14 := Fr.app N13 N14q
    have hs14 : h0.size ≤ b14 := Nat.le_trans KK7.1 hsr14
    have ne_t2_b14 : own_ne t2 b14 := Nat.ne_of_lt (Nat.lt_of_lt_of_le f12.lt hsr14)
    have ne_b1_b14 : own_ne b1 b14 := Nat.ne_of_lt (Nat.lt_of_lt_of_le V7q.lt hsr14)
    have f15 := own_staK f8 K14q
    have f16 := own_staK f9 K14q
    have f17 := own_staK f10 K14q
    have f18 := own_staK f11 K14q
    have f19 := f12.keep K14q nin0
    have f20 := V7q.keep K14q nin0
    have Zs14 : n0 ≤ T14.heap.size := Nat.le_trans Zs7 K14q.1
    have KK14 := KK7.trans K14q all0
    refine own_to T14 (mkF m 39 #[.val (.ref t2), .val (.int (Int32.ofNat q)), .val (.int (Int32.ofNat len)), .val (.ref b1), .val (.int (Int32.ofNat ra)), .val (.ref b14)] [(.int (Int32.ofNat ra)), (.ref b14)]) (fun tq kq => st14 _ (XS.astore X14.here hx rfl (hb hby d30_33) rfl rfl (l' := #[.val (.ref t2), .val (.int (Int32.ofNat q)), .val (.int (Int32.ofNat len)), .val (.ref b1), .val (.int (Int32.ofNat ra)), .val (.ref b14)]) rfl (XS.aload X14.here hx rfl (hb hby d30_35) rfl rfl (XS.iload X14.here hx rfl (hb hby d30_37) rfl kq)))) ?_
    have hra' : ra < len := Nat.lt_of_le_of_ne hra (fun z => c17 (by rw [z]))
    obtain ⟨_, _, ⟨T21, L21, k21, n21⟩, -, X21, ⟨Lc21, hQ21, l21, y21, z21⟩, st21⟩ := Jvm.LawKit.callS X14 hx (y := (⟨"java/lang/StringUTF16", "getChar", "([BI)C"⟩ : MethodName)) hown (mvT hZ (own_w hw 46 rfl)) (mvT hZ (own_w hw 47 rfl)) (mvT hZ (own_w hw 24 rfl)) (mvT hZ (own_w hw 48 rfl)) (by decide) (backOf (W := 0) (rmGC l Z a0 hw [] b14 ra (2 * (q + len) - 2 * q) (fun i => f (2 * q + i)) (own_dec (f (2 * q + 2 * ra)) (f (2 * q + (2 * ra + 1)))) T14.heap n0 Zs14 f15 f16 f17 V14q (by omega) (by omega) rfl) hZ (own_w hw 48 rfl) (own_w hw 24 rfl) (by decide) (by decide)) (g := (mkF m 39 #[.val (.ref t2), .val (.int (Int32.ofNat q)), .val (.int (Int32.ofNat len)), .val (.ref b1), .val (.int (Int32.ofNat ra)), .val (.ref b14)] [(.int (Int32.ofNat ra)), (.ref b14)])) rfl (by rw [hml]; rfl) (argsL := [(.ref b14), (.int (Int32.ofNat ra))]) (rest := []) (lenOf pd_9 rfl) rfl (by show 2 * 0 + _ ≤ _; exact Nat.le_of_eq rfl) (hb hby d30_39) (fun _ _ => ⟨rfl, rfl, (by decide : 2 + 0 ≤ _), (by decide : 20 + 0 ≤ _)⟩)
    dsimp only [Pt.U, Pt.locs, Pt.cells, Pt.slots] at X21 l21 y21 z21 st21 hQ21
    have l21y := l21.symm
    clear l21
    subst l21y
    obtain rfl : k21 = 2 := y21
    obtain rfl : n21 = 20 := z21
    obtain ⟨rfl, N21q, e21⟩ := hQ21
    have N21 := Fr.app N14 N21q
    refine own_to T21 (mkF m 45 #[.val (.ref t2), .val (.int (Int32.ofNat q)), .val (.int (Int32.ofNat len)), .val (.ref b1), .val (.int (Int32.ofNat ra)), .val (.ref b14)] [(.int (255 : Int32)), (.int (own_dec (f (2 * q + 2 * ra)) (f (2 * q + (2 * ra + 1)))))]) (fun tq kq => st21 _ (XS.sipush X21.here hx rfl (hb hby d30_42) kq)) ?_
    by_cases c45 : (255 : Int32) < (own_dec (f (2 * q + 2 * ra)) (f (2 * q + (2 * ra + 1))))
    · skip
      refine own_to T21 (mkF m 63 #[.val (.ref t2), .val (.int (Int32.ofNat q)), .val (.int (Int32.ofNat len)), .val (.ref b1), .val (.int (Int32.ofNat ra)), .val (.ref b14)] [(.ref b14)]) (fun tq kq => XS.icmpYes X21.here hx rfl (pc0 := 45) (pc' := 61) rfl (hb hby d30_45) rfl (tlt c45).2.2.1 (by decide) (by decide) (XS.aload X21.here hx rfl (hb hby d30_61) rfl rfl kq)) ?_
      exact own_retA X21 hx hret hlk rfl rfl (hb hby d30_63) (by decide) (by decide) ⟨b14, rfl, N21, (by rw [e21]; exact KK14), hs14, gb14, (2 * (q + len) - 2 * q), _, (by rw [e21]; exact V14q), Or.inr (by omega)⟩
    · skip
      refine own_to T21 (mkF m 54 #[.val (.ref t2), .val (.int (Int32.ofNat q)), .val (.int (Int32.ofNat len)), .val (.ref b1), .val (.int (Int32.ofNat ra)), .val (.ref b14)] [(.int (Int32.ofNat len)), (.int (0 : Int32)), (.ref b1), (.int (0 : Int32)), (.ref b14)]) (fun tq kq => XS.icmpNo X21.here hx rfl (hb hby d30_45) rfl (flt c45).2.2.1 (XS.aload X21.here hx rfl (hb hby d30_48) rfl rfl (XS.iconst X21.here hx rfl (hb hby d30_50) (XS.aloadN X21.here hx rfl (hb hby d30_51) rfl rfl (XS.iconst X21.here hx rfl (hb hby d30_52) (XS.iloadN X21.here hx rfl (hb hby d30_53) rfl kq)))))) ?_
      obtain ⟨_, _, ⟨T22, L22, k22, n22⟩, -, X22, ⟨Lc22, hQ22, l22, y22, z22⟩, st22⟩ := Jvm.LawKit.callS X21 hx (y := (⟨"java/lang/StringUTF16", "compress", "([BI[BII)I"⟩ : MethodName)) hown (mvT hZ (own_w hw 133 rfl)) (mvT hZ (own_w hw 134 rfl)) (mvT hZ (own_w hw 24 rfl)) (mvT hZ (own_w hw 135 rfl)) (by decide) (backOf (W := 0) (rmC5 l Z a0 hw [] b14 b1 0 len len (fun i => f (2 * q + i)) gg7 vF T14.heap n0 Zs14 f18 hvF f15 f16 f17 (own_barreq V14q (by omega)) f20 (Ne.symm ne_b1_b14) sz1 (by omega) (by omega)) hZ (own_w hw 135 rfl) (own_w hw 24 rfl) (by decide) (by decide)) (g := (mkF m 54 #[.val (.ref t2), .val (.int (Int32.ofNat q)), .val (.int (Int32.ofNat len)), .val (.ref b1), .val (.int (Int32.ofNat ra)), .val (.ref b14)] [(.int (Int32.ofNat len)), (.int (0 : Int32)), (.ref b1), (.int (0 : Int32)), (.ref b14)])) rfl (by rw [hml]; rfl) (argsL := [(.ref b14), (.int (0 : Int32)), (.ref b1), (.int (0 : Int32)), (.int (Int32.ofNat len))]) (rest := []) (lenOf pd_25 rfl) rfl (by show 2 * 0 + _ ≤ _; exact Nat.le_of_eq rfl) (hb hby d30_54) (fun _ _ => ⟨rfl, e21, (by decide : 2 + 0 ≤ _), (by decide : 20 + 0 ≤ _)⟩)
      dsimp only [Pt.U, Pt.locs, Pt.cells, Pt.slots] at X22 l22 y22 z22 st22 hQ22
      have l22y := l22.symm
      clear l22
      subst l22y
      obtain rfl : k22 = 2 := y22
      obtain rfl : n22 = 20 := z22
      obtain ⟨rb, hrb, rfl, N22q, K22q, gg22, V22q⟩ := hQ22
      have N22 := Fr.app N21 N22q
      have f23 := own_staA f15 K22q (by obtain ⟨c9, A9, -⟩ := f20; exact ⟨c9, _, A9⟩)
      have f24 := own_staA f16 K22q (by obtain ⟨c9, A9, -⟩ := f20; exact ⟨c9, _, A9⟩)
      have f25 := own_staA f17 K22q (by obtain ⟨c9, A9, -⟩ := f20; exact ⟨c9, _, A9⟩)
      have f26 := own_staA f18 K22q (by obtain ⟨c9, A9, -⟩ := f20; exact ⟨c9, _, A9⟩)
      have f27 := f19.keep K22q (ninS ne_t2_b1 nin0)
      have f28 := V14q.keep K22q (ninS (Ne.symm ne_b1_b14) nin0)
      have Zs22 : n0 ≤ T22.heap.size := Nat.le_trans Zs14 K22q.1
      have KK22 := KK14.trans K22q (allS (Or.inr hs1) all0)
      refine own_to T22 (mkF m 58 #[.val (.ref t2), .val (.int (Int32.ofNat q)), .val (.int (Int32.ofNat len)), .val (.ref b1), .val (.int (Int32.ofNat ra)), .val (.ref b14)] [(.int (Int32.ofNat len)), (.int (Int32.ofNat rb))]) (fun tq kq => st22 _ (XS.iloadN X22.here hx rfl (hb hby d30_57) rfl kq)) ?_
      by_cases c58 : (Int32.ofNat rb) = (Int32.ofNat len)
      · skip
        refine own_to T22 (mkF m 65 #[.val (.ref t2), .val (.int (Int32.ofNat q)), .val (.int (Int32.ofNat len)), .val (.ref b1), .val (.int (Int32.ofNat ra)), .val (.ref b14)] [(.ref b1)]) (fun tq kq => XS.icmpYes X22.here hx rfl (pc0 := 58) (pc' := 64) rfl (hb hby d30_58) rfl (teq c58).1 (by decide) (by decide) (XS.aloadN X22.here hx rfl (hb hby d30_64) rfl rfl kq)) ?_
        exact own_retA X22 hx hret hlk rfl rfl (hb hby d30_65) (by decide) (by decide) ⟨b1, rfl, N22, KK22, hs1, sz1, len, _, V22q, Or.inl rfl⟩
      · skip
        refine own_to T22 (mkF m 63 #[.val (.ref t2), .val (.int (Int32.ofNat q)), .val (.int (Int32.ofNat len)), .val (.ref b1), .val (.int (Int32.ofNat ra)), .val (.ref b14)] [(.ref b14)]) (fun tq kq => XS.icmpNo X22.here hx rfl (hb hby d30_58) rfl (feq c58).1 (XS.aload X22.here hx rfl (hb hby d30_61) rfl rfl kq)) ?_
        exact own_retA X22 hx hret hlk rfl rfl (hb hby d30_63) (by decide) (by decide) ⟨b14, rfl, N22, KK22, hs14, gb14, (2 * (q + len) - 2 * q), _, f28, Or.inr (by omega)⟩
theorem d35_0 : decode jdk_42_method_151_code 0 = .ok (.aload_n 0, 1) := by decide +kernel
theorem d35_1 : decode jdk_42_method_151_code 1 = .ok (.invokespecial 1, 3) := by decide +kernel
theorem d35_4 : decode jdk_42_method_151_code 4 = .ok (.aload_n 0, 1) := by decide +kernel
theorem d35_5 : decode jdk_42_method_151_code 5 = .ok (.aload_n 1, 1) := by decide +kernel
theorem d35_6 : decode jdk_42_method_151_code 6 = .ok (.putfield 9, 3) := by decide +kernel
theorem d35_9 : decode jdk_42_method_151_code 9 = .ok (.aload_n 0, 1) := by decide +kernel
theorem d35_10 : decode jdk_42_method_151_code 10 = .ok (.iload_n 2, 1) := by decide +kernel
theorem d35_11 : decode jdk_42_method_151_code 11 = .ok (.putfield 15, 3) := by decide +kernel
theorem d35_14 : decode jdk_42_method_151_code 14 = .ok (.return_, 1) := by decide +kernel
theorem ef_35_RRI (m : MethodId) (x0 : Addr) (x1 : Addr) (x2 : Int32) : entryFrame m #[(.ref x0), (.ref x1), (.int x2)] 3 = mkF m 0 #[.val (.ref x0), .val (.ref x1), .val (.int x2)] [] := by first | (simp [entryFrame, mkF, argsToLocals, Value.category]; done) | rfl
def Q_rmSB (Z : State) (a1 a2 : Addr) (y : Int32) (h0 : Heap) (n0 : Nat) (v : Option Value) (h : Heap) (L : List Loc) : Prop := v = none ∧ Fr n0 L ∧ Keep h0 h [a1] ∧ Exa Z h a1 "java/lang/String" ∧ Fld Z h a1 "java/lang/String" "value" "[B" (.ref a2) ∧ Fld Z h a1 "java/lang/String" "coder" "B" (.int y)
set_option maxRecDepth 65536 in
set_option maxHeartbeats 40000000 in
theorem rmSB (l : Launch) (Z : State) (a0 : Array Value) (hw : ∀ d ∈ tables_1, d.before a0 Z = true) (ws : List Jvm.Cond) (a1 a2 : Addr) (y : Int32) (h0 : Heap) (n0 : Nat) (Z0 : n0 ≤ h0.size) (E1 : Exa Z h0 a1 "java/lang/String") (F1 : Fld Z h0 a1 "java/lang/String" "value" "[B" .null) (F2 : Fld Z h0 a1 "java/lang/String" "coder" "B" (.int (0 : Int32))) (g_a1 : n0 ≤ a1) (hyb : y.toInt8.toInt32 = y) :
    MetFree l (⟨"java/lang/String", "<init>", "([BB)V"⟩ : MethodName) (head1 (Jvm.Cond.code (⟨"java/lang/String", "<init>", "([BB)V"⟩ : MethodName) jdk_42_method_151_code 3 none :: ws) ({ frames := 1, cells := 0, slots := 0, locals := 12 } : Room)) (fun a U => a = #[(.ref a1), (.ref a2), (.int y)] ∧ Z.Warmed39 U.vm ∧ U.heap = h0) (fun _ _ _ _ _ => True) (fun _ U o U' => ∃ v L, o = .returned v ∧ Q_rmSB Z a1 a2 y h0 n0 v U'.heap L ∧ FrameEnd U o U' L ({ frames := 1, cells := 0, slots := 0, locals := 12 } : Room).cells ({ frames := 1, cells := 0, slots := 0, locals := 12 } : Room).slots) := by
  refine own_met (y := (⟨"java/lang/String", "<init>", "([BB)V"⟩ : MethodName)) (Q := (Q_rmSB Z a1 a2 y h0 n0)) (plainFor_of_name pn_18) fun p e s m below meth c s₁ X0 hx hby hml hret hlk hown hnm hZ e0 => ?_
  refine own_entry (ef_35_RRI m a1 a2 y) ?_
  have K0 := Keep.refl h0 [a1]
  refine own_to s₁ (mkF m 1 #[.val (.ref a1), .val (.ref a2), .val (.int y)] [(.ref a1)]) (fun tq kq => XS.aloadN X0.here hx rfl (hb hby d35_0) rfl rfl kq) ?_
  obtain ⟨T1, X1, e1, st1⟩ := initO X0 hx hZ hown (own_w hw 18 rfl) (own_w hw 19 rfl) (own_w hw 20 rfl) e0 (g := (mkF m 1 #[.val (.ref a1), .val (.ref a2), .val (.int y)] [(.ref a1)])) rfl (by rw [hml]; rfl) rfl (hb hby d35_1) (by decide) (W := 0) (by show 2 * 0 + _ ≤ _; exact Nat.le_of_eq rfl) (by decide)
  refine own_to T1 (mkF m 6 #[.val (.ref a1), .val (.ref a2), .val (.int y)] [(.ref a2), (.ref a1)]) (fun tq kq => st1 _ (XS.aloadN X1.here hx rfl (hb hby d35_4) rfl rfl (XS.aloadN X1.here hx rfl (hb hby d35_5) rfl rfl kq))) ?_
  obtain ⟨T2, h2, X2, e2, W2, st2⟩ := putF X1 hx hZ hown (host := "") (Or.inl (own_w hw 54 rfl)) Via.refl e1 F1 E1 (Or.inr ⟨(own_w hw 55 rfl), rfl, hnm⟩) (own_w hw 9 rfl) (ty := (.array .byte)) (by decide) rfl rfl (g := (mkF m 6 #[.val (.ref a1), .val (.ref a2), .val (.int y)] [(.ref a2), (.ref a1)])) rfl rfl (hb hby d35_6)
  have f3 := E1.wr W2
  have f4 := F2.other W2 (Or.inr (sn_coder_value hw))
  have f5 := F1.same W2
  have N2 := Fr.snoc X2 (Fr.nil n0) g_a1
  have Zs2 : n0 ≤ h2.size := by rw [W2.size]; exact Z0
  have K2 := K0.wr W2 (Or.inl (List.mem_of_getElem? (i := 0) rfl))
  refine own_to T2 (mkF m 11 #[.val (.ref a1), .val (.ref a2), .val (.int y)] [(.int y), (.ref a1)]) (fun tq kq => st2 _ (XS.aloadN X2.here hx rfl (hb hby d35_9) rfl rfl (XS.iloadN X2.here hx rfl (hb hby d35_10) rfl kq))) ?_
  obtain ⟨T6, h6, X6, e6, W6, st6⟩ := putFN X2 hx hZ hown (own_w hw 52 rfl) Via.refl e2 f4 f3 (Or.inr ⟨(own_w hw 53 rfl), rfl, hnm⟩) (own_w hw 9 rfl) (ty := .byte) (v' := (.int y)) (by decide) (show narrow .byte (.int y) = .int y from congrArg Value.int hyb) (by rw [← hyb]; exact own_fitb _) (g := (mkF m 11 #[.val (.ref a1), .val (.ref a2), .val (.int y)] [(.int y), (.ref a1)])) rfl rfl (hb hby d35_11)
  have f7 := f3.wr W6
  have f8 := f5.other W6 (Or.inr (sn_value_coder hw))
  have f9 := f4.same W6
  have N6 := Fr.snoc X6 N2 g_a1
  have Zs6 : n0 ≤ h6.size := by rw [W6.size]; exact Zs2
  have K6 := K2.wr W6 (Or.inl (List.mem_of_getElem? (i := 0) rfl))
  refine own_to T6 (mkF m 14 #[.val (.ref a1), .val (.ref a2), .val (.int y)] []) (fun tq kq => st6 _ kq) ?_
  exact own_retV X6 hx hret hlk (hb hby d35_14) (by decide) (by decide) (by rw [e6]; exact ⟨rfl, N6, K6, f7, f8, f9⟩)
theorem d29_0 : decode jdk_52_method_69_code 0 = .ok (.iload_n 2, 1) := by decide +kernel
theorem d29_1 : decode jdk_52_method_69_code 1 = .ok (.ifCond .ne 7, 3) := by decide +kernel
theorem d29_4 : decode jdk_52_method_69_code 4 = .ok (.ldc_w 295, 3) := by decide +kernel
theorem d29_7 : decode jdk_52_method_69_code 7 = .ok (.areturn, 1) := by decide +kernel
theorem d29_8 : decode jdk_52_method_69_code 8 = .ok (.getstatic 251, 3) := by decide +kernel
theorem d29_11 : decode jdk_52_method_69_code 11 = .ok (.ifCond .eq 28, 3) := by decide +kernel
theorem d29_14 : decode jdk_52_method_69_code 14 = .ok (.aload_n 0, 1) := by decide +kernel
theorem d29_15 : decode jdk_52_method_69_code 15 = .ok (.iload_n 1, 1) := by decide +kernel
theorem d29_16 : decode jdk_52_method_69_code 16 = .ok (.iload_n 2, 1) := by decide +kernel
theorem d29_17 : decode jdk_52_method_69_code 17 = .ok (.invokestatic 257, 3) := by decide +kernel
theorem d29_20 : decode jdk_52_method_69_code 20 = .ok (.astore_n 3, 1) := by decide +kernel
theorem d29_21 : decode jdk_52_method_69_code 21 = .ok (.aload_n 3, 1) := by decide +kernel
theorem d29_22 : decode jdk_52_method_69_code 22 = .ok (.iload_n 2, 1) := by decide +kernel
theorem d29_23 : decode jdk_52_method_69_code 23 = .ok (.invokestatic 259, 3) := by decide +kernel
theorem d29_26 : decode jdk_52_method_69_code 26 = .ok (.istore 4, 2) := by decide +kernel
theorem d29_28 : decode jdk_52_method_69_code 28 = .ok (.new 3, 3) := by decide +kernel
theorem d29_31 : decode jdk_52_method_69_code 31 = .ok (.dup, 1) := by decide +kernel
theorem d29_32 : decode jdk_52_method_69_code 32 = .ok (.aload_n 3, 1) := by decide +kernel
theorem d29_33 : decode jdk_52_method_69_code 33 = .ok (.iload 4, 2) := by decide +kernel
theorem d29_35 : decode jdk_52_method_69_code 35 = .ok (.invokespecial 263, 3) := by decide +kernel
theorem d29_38 : decode jdk_52_method_69_code 38 = .ok (.areturn, 1) := by decide +kernel
theorem d29_39 : decode jdk_52_method_69_code 39 = .ok (.iload_n 1, 1) := by decide +kernel
theorem d29_40 : decode jdk_52_method_69_code 40 = .ok (.iload_n 2, 1) := by decide +kernel
theorem d29_41 : decode jdk_52_method_69_code 41 = .ok (.iadd, 1) := by decide +kernel
theorem d29_42 : decode jdk_52_method_69_code 42 = .ok (.istore_n 3, 1) := by decide +kernel
theorem d29_43 : decode jdk_52_method_69_code 43 = .ok (.new 3, 3) := by decide +kernel
theorem d29_46 : decode jdk_52_method_69_code 46 = .ok (.dup, 1) := by decide +kernel
theorem d29_47 : decode jdk_52_method_69_code 47 = .ok (.aload_n 0, 1) := by decide +kernel
theorem d29_48 : decode jdk_52_method_69_code 48 = .ok (.iload_n 1, 1) := by decide +kernel
theorem d29_49 : decode jdk_52_method_69_code 49 = .ok (.iconst 1, 1) := by decide +kernel
theorem d29_50 : decode jdk_52_method_69_code 50 = .ok (.ishl, 1) := by decide +kernel
theorem d29_51 : decode jdk_52_method_69_code 51 = .ok (.iload_n 3, 1) := by decide +kernel
theorem d29_52 : decode jdk_52_method_69_code 52 = .ok (.iconst 1, 1) := by decide +kernel
theorem d29_53 : decode jdk_52_method_69_code 53 = .ok (.ishl, 1) := by decide +kernel
theorem d29_54 : decode jdk_52_method_69_code 54 = .ok (.invokestatic 126, 3) := by decide +kernel
theorem d29_57 : decode jdk_52_method_69_code 57 = .ok (.iconst 1, 1) := by decide +kernel
theorem d29_58 : decode jdk_52_method_69_code 58 = .ok (.invokespecial 263, 3) := by decide +kernel
theorem d29_61 : decode jdk_52_method_69_code 61 = .ok (.areturn, 1) := by decide +kernel
theorem ef_29_RII (m : MethodId) (x0 : Addr) (x1 : Int32) (x2 : Int32) : entryFrame m #[(.ref x0), (.int x1), (.int x2)] 5 = mkF m 0 #[.val (.ref x0), .val (.int x1), .val (.int x2), .unset, .unset] [] := by first | (simp [entryFrame, mkF, argsToLocals, Value.category]; done) | rfl
def Q_rmUNS (Z : State) (t2 : Addr) (q len : Nat) (f : Nat → Int32) (vF : Value) (G1 : Int32) (h0 : Heap) (n0 : Nat) (v : Option Value) (h : Heap) (L : List Loc) : Prop := ∃ b t N g, v = some (.ref b) ∧ Fr n0 L ∧ Keep h0 h [] ∧ Exa Z h b "java/lang/String" ∧ Fld Z h b "java/lang/String" "value" "[B" (.ref t) ∧ BArr Z h t N g ∧ ((Fld Z h b "java/lang/String" "coder" "B" (.int (0 : Int32)) ∧ N = len) ∨ (Fld Z h b "java/lang/String" "coder" "B" (.int (1 : Int32)) ∧ N = 2 * (len)))
theorem pd_27 : parseMethodDescriptor "([BB)V" = some ⟨[(.array .byte), .byte], none⟩ := by decide +kernel
set_option maxRecDepth 65536 in
set_option maxHeartbeats 40000000 in
theorem rmUNS (l : Launch) (Z : State) (a0 : Array Value) (hw : ∀ d ∈ tables_1, d.before a0 Z = true) (ws : List Jvm.Cond) (t2 : Addr) (q len : Nat) (f : Nat → Int32) (vF : Value) (G1 : Int32) (h0 : Heap) (n0 : Nat) (Z0 : n0 ≤ h0.size) (O2 : Sta Z h0 "java/lang/String" "COMPACT_STRINGS" "Z" (.int G1)) (hG : ¬ G1 = (0 : Int32)) (O4 : Sta Z h0 "jdk/internal/util/Preconditions" "SIOOBE_FORMATTER" "Ljava/util/function/BiFunction;" vF) (hvF : vF.isRef = true) (OA : Sta Z h0 "java/lang/StringUTF16" "$assertionsDisabled" "Z" (.int (1 : Int32))) (OH : Sta Z h0 "java/lang/StringUTF16" "HI_BYTE_SHIFT" "I" (.int (0 : Int32))) (OL : Sta Z h0 "java/lang/StringUTF16" "LO_BYTE_SHIFT" "I" (.int (8 : Int32))) (Aa2 : BArr Z h0 t2 14 f) (hfb : ∀ i, i < 14 → fits .byte (.int (f i)) = true) (hql : q + len ≤ 6) (hEL : EW Z a0 consts_1) :
    MetFree l (⟨"java/lang/StringUTF16", "newString", "([BII)Ljava/lang/String;"⟩ : MethodName) (head1 (Jvm.Cond.code (⟨"java/lang/StringUTF16", "newString", "([BII)Ljava/lang/String;"⟩ : MethodName) jdk_52_method_69_code 5 (some (.object "java/lang/String")) :: ws) ({ frames := 5, cells := 3, slots := 24, locals := 150 } : Room)) (fun a U => a = #[(.ref t2), (.int (Int32.ofNat q)), (.int (Int32.ofNat len))] ∧ Z.Warmed39 U.vm ∧ U.heap = h0 ∧ CHv Z consts_1 U.vm h0) (fun _ _ _ _ _ => True) (fun _ U o U' => ∃ v L, o = .returned v ∧ Q_rmUNS Z t2 q len f vF G1 h0 n0 v U'.heap L ∧ CHr Z consts_1 U.vm U.heap U'.vm U'.heap ∧ ReturnedEndW U o U' L ({ frames := 5, cells := 3, slots := 24, locals := 150 } : Room).cells ({ frames := 5, cells := 3, slots := 24, locals := 150 } : Room).slots) := by
  refine own_metH (EL := consts_1) (y := (⟨"java/lang/StringUTF16", "newString", "([BII)Ljava/lang/String;"⟩ : MethodName)) (Q := (Q_rmUNS Z t2 q len f vF G1 h0 n0)) (plainFor_of_name pn_11) fun p e s m below meth c s₁ X0 hx hby hml hret hlk hown hnm hZ e0 hS C0 => ?_
  have hk := Nat.le_refl h0.size
  refine own_entryH (ef_29_RII m t2 (Int32.ofNat q) (Int32.ofNat len)) ?_
  have own_wS : ∀ a ∈ Bundle.stringAtoms, a.before a0 Z = true := fun a ha => hw a (own_sub a ha)
  have K0 := Keep.refl h0 []
  by_cases hl0 : len = 0
  · skip
    refine own_toH s₁ (mkF m 4 #[.val (.ref t2), .val (.int (Int32.ofNat q)), .val (.int (Int32.ofNat len)), .unset, .unset] []) (fun tq kq => XS.iloadN X0.here hx rfl (hb hby d29_0) rfl (XS.ifNo X0.here hx rfl (hb hby d29_1) rfl ((if0 _ _).trans (teq (by rw [hl0]; rfl)).2) kq)) ?_
    obtain ⟨b1, T1, h1, k1, t1, kc1, X1, e1, E1, hS, hk, hZ, hown, Eb1, Cb1, Vb1, Ab1, hC1, st1⟩ := own_ldcW X0 hx hZ hown (own_w hw 197 rfl) own_wS e0 hS hk hEL (by decide) C0.1 (g := (mkF m 4 #[.val (.ref t2), .val (.int (Int32.ofNat q)), .val (.int (Int32.ofNat len)), .unset, .unset] [])) rfl (hb hby d29_4) (by decide) (by decide)
    have f2 := OA.ext E1
    have f3 := OH.ext E1
    have f4 := OL.ext E1
    have f5 := O4.ext E1
    have f6 := O2.ext E1
    have f7 := Aa2.ext E1
    have Zs1 : n0 ≤ h1.size := Nat.le_trans Z0 E1.1
    have K1 := K0.ext E1
    have C1 := C0.trans hC1
    have Vt1 : BArr Z h1 t1 0 (fun i => ([] : List Int32).getD i 0) := own_barr Ab1 (by decide) (by decide)
    refine own_toH T1 (mkF m 7 #[.val (.ref t2), .val (.int (Int32.ofNat q)), .val (.int (Int32.ofNat len)), .unset, .unset] [(.ref b1)]) (fun tq kq => st1 _ kq) ?_
    exact own_retAH X1 hS (by rw [e1]; exact hk) hZ hEL (by rw [e1]; exact C1) hx hret hlk rfl rfl (hb hby d29_7) (by decide) (by decide) (by rw [e1]; exact ⟨b1, t1, 0, _, rfl, (Fr.nil n0), K1, Eb1, Vb1, Vt1, Or.inl ⟨Cb1, hl0.symm⟩⟩)
  · have h0l : 0 < len := Nat.pos_of_ne_zero hl0
    refine own_toH s₁ (mkF m 8 #[.val (.ref t2), .val (.int (Int32.ofNat q)), .val (.int (Int32.ofNat len)), .unset, .unset] []) (fun tq kq => XS.iloadN X0.here hx rfl (hb hby d29_0) rfl (XS.ifYes X0.here hx rfl (pc0 := 1) (pc' := 8) rfl (hb hby d29_1) rfl ((if0 _ _).trans (feq (mt (own_eqn (by omega) (by decide)).mp hl0)).2) (by decide) (by decide) kq)) ?_
    obtain ⟨T8, X8, e8, st8⟩ := getS2 X0 hx hZ hown (host := "") (Or.inl (own_w hw 129 rfl)) Via.refl e0 O2 (g := (mkF m 8 #[.val (.ref t2), .val (.int (Int32.ofNat q)), .val (.int (Int32.ofNat len)), .unset, .unset] [])) rfl (hb hby d29_8)
    refine own_toH T8 (mkF m 17 #[.val (.ref t2), .val (.int (Int32.ofNat q)), .val (.int (Int32.ofNat len)), .unset, .unset] [(.int (Int32.ofNat len)), (.int (Int32.ofNat q)), (.ref t2)]) (fun tq kq => st8 _ (XS.ifNo X8.here hx rfl (hb hby d29_11) rfl ((if0 _ _).trans (feq hG).1) (XS.aloadN X8.here hx rfl (hb hby d29_14) rfl rfl (XS.iloadN X8.here hx rfl (hb hby d29_15) rfl (XS.iloadN X8.here hx rfl (hb hby d29_16) rfl kq))))) ?_
    obtain ⟨_, _, ⟨T9, L9, k9, n9⟩, -, X9, ⟨Lc9, hQ9, l9, y9, z9⟩, st9⟩ := Jvm.LawKit.callS X8 hx (y := (⟨"java/lang/StringUTF16", "compress", "([BII)[B"⟩ : MethodName)) hown (mvT hZ (own_w hw 130 rfl)) (mvT hZ (own_w hw 131 rfl)) (mvT hZ (own_w hw 24 rfl)) (mvT hZ (own_w hw 132 rfl)) (by decide) (backOf (W := 0) (rmC3 l Z a0 hw [] t2 q len f vF h0 n0 Z0 O4 hvF OA OH OL Aa2 hfb h0l hql) hZ (own_w hw 132 rfl) (own_w hw 24 rfl) (by decide) (by decide)) (g := (mkF m 17 #[.val (.ref t2), .val (.int (Int32.ofNat q)), .val (.int (Int32.ofNat len)), .unset, .unset] [(.int (Int32.ofNat len)), (.int (Int32.ofNat q)), (.ref t2)])) rfl (by rw [hml]; rfl) (argsL := [(.ref t2), (.int (Int32.ofNat q)), (.int (Int32.ofNat len))]) (rest := []) (lenOf pd_24 rfl) rfl (by show 2 * 0 + _ ≤ _; exact Nat.le_of_eq rfl) (hb hby d29_17) (fun _ _ => ⟨rfl, e8, (by decide : 0 + 2 ≤ _), (by decide : 0 + 20 ≤ _)⟩)
    dsimp only [Pt.U, Pt.locs, Pt.cells, Pt.slots] at X9 l9 y9 z9 st9 hQ9
    have l9y := l9.symm
    clear l9
    subst l9y
    obtain rfl : k9 = 2 := y9
    obtain rfl : n9 = 20 := z9
    obtain ⟨b9, rfl, N9q, K9q, hsr9, gb9, nn9, gg9, V9q, or9⟩ := hQ9
    have N9 := Fr.app (Fr.nil n0) N9q
    have hs9 : h0.size ≤ b9 := Nat.le_trans K0.1 hsr9
    have ne_t2_b9 : own_ne t2 b9 := Nat.ne_of_lt (Nat.lt_of_lt_of_le Aa2.lt hsr9)
    have f10 := own_staK OA K9q
    have f11 := own_staK OH K9q
    have f12 := own_staK OL K9q
    have f13 := own_staK O4 K9q
    have f14 := own_staK O2 K9q
    have f15 := Aa2.keep K9q nin0
    have Zs9 : n0 ≤ T9.heap.size := Nat.le_trans Z0 K9q.1
    have hk := Nat.le_trans hk K9q.1
    have C9 := C0.trans (CHr.keep K9q all0 C0.1)
    have KK9 := K0.trans K9q all0
    refine own_toH T9 (mkF m 20 #[.val (.ref t2), .val (.int (Int32.ofNat q)), .val (.int (Int32.ofNat len)), .unset, .unset] [(.ref b9)]) (fun tq kq => st9 _ kq) ?_
    rcases or9 with or9 | or9
    · skip
      refine own_toH T9 (mkF m 23 #[.val (.ref t2), .val (.int (Int32.ofNat q)), .val (.int (Int32.ofNat len)), .val (.ref b9), .unset] [(.int (Int32.ofNat len)), (.ref b9)]) (fun tq kq => XS.astoreN X9.here hx rfl (hb hby d29_20) rfl rfl (l' := #[.val (.ref t2), .val (.int (Int32.ofNat q)), .val (.int (Int32.ofNat len)), .val (.ref b9), .unset]) rfl (XS.aloadN X9.here hx rfl (hb hby d29_21) rfl rfl (XS.iloadN X9.here hx rfl (hb hby d29_22) rfl kq))) ?_
      obtain ⟨_, _, ⟨T16, L16, k16, n16⟩, -, X16, ⟨Lc16, hQ16, l16, y16, z16⟩, st16⟩ := Jvm.LawKit.callS X9 hx (y := (⟨"java/lang/StringUTF16", "coderFromArrayLen", "([BI)B"⟩ : MethodName)) hown (mvT hZ (own_w hw 145 rfl)) (mvT hZ (own_w hw 50 rfl)) (mvT hZ (own_w hw 24 rfl)) (mvT hZ (own_w hw 51 rfl)) (by decide) (backOf (W := 0) (rmCodA l Z a0 hw [] b9 len nn9 gg9 (0 : Int32) T9.heap n0 Zs9 V9q ((own_cod (by omega) h0l).1 or9) (by decide)) hZ (own_w hw 51 rfl) (own_w hw 24 rfl) (by decide) (by decide)) (g := (mkF m 23 #[.val (.ref t2), .val (.int (Int32.ofNat q)), .val (.int (Int32.ofNat len)), .val (.ref b9), .unset] [(.int (Int32.ofNat len)), (.ref b9)])) rfl (by rw [hml]; rfl) (argsL := [(.ref b9), (.int (Int32.ofNat len))]) (rest := []) (lenOf pd_10 rfl) rfl (by show 2 * 0 + _ ≤ _; exact Nat.le_of_eq rfl) (hb hby d29_23) (fun _ _ => ⟨rfl, rfl, (by decide : 2 + 0 ≤ _), (by decide : 20 + 0 ≤ _)⟩)
      dsimp only [Pt.U, Pt.locs, Pt.cells, Pt.slots] at X16 l16 y16 z16 st16 hQ16
      have l16y := l16.symm
      clear l16
      subst l16y
      obtain rfl : k16 = 2 := y16
      obtain rfl : n16 = 20 := z16
      obtain ⟨rfl, N16q, e16⟩ := hQ16
      have N16 := Fr.app N9 N16q
      refine own_toH T16 (mkF m 28 #[.val (.ref t2), .val (.int (Int32.ofNat q)), .val (.int (Int32.ofNat len)), .val (.ref b9), .val (.int (0 : Int32))] []) (fun tq kq => st16 _ (XS.istore X16.here hx rfl (hb hby d29_26) rfl (l' := #[.val (.ref t2), .val (.int (Int32.ofNat q)), .val (.int (Int32.ofNat len)), .val (.ref b9), .val (.int (0 : Int32))]) rfl kq)) ?_
      obtain ⟨T17, h17, X17, e17, E17, A17, D17, -, st17⟩ := newO X16 hx hZ hown (own_w hw 146 rfl) (own_w hw 9 rfl) (own_w hw 10 rfl) e16 (g := (mkF m 28 #[.val (.ref t2), .val (.int (Int32.ofNat q)), .val (.int (Int32.ofNat len)), .val (.ref b9), .val (.int (0 : Int32))] [])) rfl (hb hby d29_28) (by decide) (by decide)
      obtain ⟨b17, g17⟩ : ∃ z, z = T9.heap.size := ⟨_, rfl⟩
      rw [← g17] at A17 D17 st17
      have ne_t2_b17 : own_ne t2 b17 := Nat.ne_of_lt (Nat.lt_of_lt_of_le f15.lt (Nat.le_of_eq g17.symm))
      have ne_b9_b17 : own_ne b9 b17 := Nat.ne_of_lt (Nat.lt_of_lt_of_le V9q.lt (Nat.le_of_eq g17.symm))
      have f18 := f10.ext E17
      have f19 := f11.ext E17
      have f20 := f12.ext E17
      have f21 := f13.ext E17
      have f22 := f14.ext E17
      have f23 := f15.ext E17
      have f24 := V9q.ext E17
      have Sf17 := Safe.ext (x := b17) E17 C9.1 (Safe.new (Nat.le_of_eq g17.symm))
      have C17 := C9.trans (CHr.ext E17 C9.1)
      have sz17 : n0 ≤ b17 := Nat.le_trans Zs9 (Nat.le_of_eq g17.symm)
      have hs17 : h0.size ≤ b17 := Nat.le_trans KK9.1 (Nat.le_of_eq g17.symm)
      have Zs17 : n0 ≤ h17.size := Nat.le_trans Zs9 E17.1
      have K17 := KK9.ext E17
      have hk := Nat.le_trans hk E17.1
      have F17_coder : Fld Z h17 b17 "java/lang/String" "coder" "B" (.int (0 : Int32)) := D17 (Or.inr (own_w hw 53 rfl)) (ty := .byte) (by decide)
      have F17_value : Fld Z h17 b17 "java/lang/String" "value" "[B" .null := D17 (Or.inr (own_w hw 55 rfl)) (ty := (.array .byte)) (by decide)
      refine own_toH T17 (mkF m 35 #[.val (.ref t2), .val (.int (Int32.ofNat q)), .val (.int (Int32.ofNat len)), .val (.ref b9), .val (.int (0 : Int32))] [(.int (0 : Int32)), (.ref b9), (.ref b17), (.ref b17)]) (fun tq kq => st17 _ (XS.dup X17.here hx rfl (hb hby d29_31) rfl rfl (XS.aloadN X17.here hx rfl (hb hby d29_32) rfl rfl (XS.iload X17.here hx rfl (hb hby d29_33) rfl kq)))) ?_
      obtain ⟨_, _, ⟨T25, L25, k25, n25⟩, -, X25, ⟨Lc25, hQ25, l25, y25, z25⟩, st25⟩ := X17.specialBack hx (y := (⟨"java/lang/String", "<init>", "([BB)V"⟩ : MethodName)) rfl hown (mvT hZ (own_w hw 147 rfl)) (mvT hZ (own_w hw 148 rfl)) (mvT hZ (own_w hw 149 rfl)) (by decide) (backOf (W := 1) (rmSB l Z a0 hw [] b17 b9 (0 : Int32) h17 n0 Zs17 A17 F17_value F17_coder sz17 (by decide)) hZ (own_w hw 149 rfl) (own_w hw 10 rfl) (by decide) (by decide)) (g := (mkF m 35 #[.val (.ref t2), .val (.int (Int32.ofNat q)), .val (.int (Int32.ofNat len)), .val (.ref b9), .val (.int (0 : Int32))] [(.int (0 : Int32)), (.ref b9), (.ref b17), (.ref b17)])) rfl (by rw [hml]; rfl) (Steps.refl _) (a := b17) (argsL := [(.ref b9), (.int (0 : Int32))]) (rest := [(.ref b17)]) (lenOf pd_27 rfl) rfl (by show 2 * 0 + _ ≤ _; exact Nat.le_of_eq rfl) (hb hby d29_35) (fun _ _ => ⟨rfl, e17, (by decide : 3 + 0 ≤ _), (by decide : 24 + 0 ≤ _)⟩)
      dsimp only [Pt.U, Pt.locs, Pt.cells, Pt.slots] at X25 l25 y25 z25 st25 hQ25
      have l25y := l25.symm
      clear l25
      subst l25y
      obtain rfl : k25 = 3 := y25
      obtain rfl : n25 = 24 := z25
      obtain ⟨rfl, N25q, K25q, E25q, V25q, C25q⟩ := hQ25
      have N25 := Fr.app N16 N25q
      have f26 := f23.keep K25q (ninS ne_t2_b17 nin0)
      have f27 := f24.keep K25q (ninS ne_b9_b17 nin0)
      have f28 := Safe.keep K25q (allS Sf17 all0) C17.1 Sf17
      have Zs25 : n0 ≤ T25.heap.size := Nat.le_trans Zs17 K25q.1
      have hk := Nat.le_trans hk K25q.1
      have C25 := C17.trans (CHr.keep K25q (allS Sf17 all0) C17.1)
      have KK25 := K17.trans K25q (allS (Or.inr hs17) all0)
      refine own_toH T25 (mkF m 38 #[.val (.ref t2), .val (.int (Int32.ofNat q)), .val (.int (Int32.ofNat len)), .val (.ref b9), .val (.int (0 : Int32))] [(.ref b17)]) (fun tq kq => st25.trans kq) ?_
      exact own_retAH X25 hS hk hZ hEL C25 hx hret hlk rfl rfl (hb hby d29_38) (by decide) (by decide) ⟨b17, b9, _, _, rfl, N25, KK25, E25q, V25q, f27, Or.inl ⟨C25q, or9⟩⟩
    · skip
      refine own_toH T9 (mkF m 23 #[.val (.ref t2), .val (.int (Int32.ofNat q)), .val (.int (Int32.ofNat len)), .val (.ref b9), .unset] [(.int (Int32.ofNat len)), (.ref b9)]) (fun tq kq => XS.astoreN X9.here hx rfl (hb hby d29_20) rfl rfl (l' := #[.val (.ref t2), .val (.int (Int32.ofNat q)), .val (.int (Int32.ofNat len)), .val (.ref b9), .unset]) rfl (XS.aloadN X9.here hx rfl (hb hby d29_21) rfl rfl (XS.iloadN X9.here hx rfl (hb hby d29_22) rfl kq))) ?_
      obtain ⟨_, _, ⟨T29, L29, k29, n29⟩, -, X29, ⟨Lc29, hQ29, l29, y29, z29⟩, st29⟩ := Jvm.LawKit.callS X9 hx (y := (⟨"java/lang/StringUTF16", "coderFromArrayLen", "([BI)B"⟩ : MethodName)) hown (mvT hZ (own_w hw 145 rfl)) (mvT hZ (own_w hw 50 rfl)) (mvT hZ (own_w hw 24 rfl)) (mvT hZ (own_w hw 51 rfl)) (by decide) (backOf (W := 0) (rmCodA l Z a0 hw [] b9 len nn9 gg9 (1 : Int32) T9.heap n0 Zs9 V9q ((own_cod (by omega) h0l).2 or9) (by decide)) hZ (own_w hw 51 rfl) (own_w hw 24 rfl) (by decide) (by decide)) (g := (mkF m 23 #[.val (.ref t2), .val (.int (Int32.ofNat q)), .val (.int (Int32.ofNat len)), .val (.ref b9), .unset] [(.int (Int32.ofNat len)), (.ref b9)])) rfl (by rw [hml]; rfl) (argsL := [(.ref b9), (.int (Int32.ofNat len))]) (rest := []) (lenOf pd_10 rfl) rfl (by show 2 * 0 + _ ≤ _; exact Nat.le_of_eq rfl) (hb hby d29_23) (fun _ _ => ⟨rfl, rfl, (by decide : 2 + 0 ≤ _), (by decide : 20 + 0 ≤ _)⟩)
      dsimp only [Pt.U, Pt.locs, Pt.cells, Pt.slots] at X29 l29 y29 z29 st29 hQ29
      have l29y := l29.symm
      clear l29
      subst l29y
      obtain rfl : k29 = 2 := y29
      obtain rfl : n29 = 20 := z29
      obtain ⟨rfl, N29q, e29⟩ := hQ29
      have N29 := Fr.app N9 N29q
      refine own_toH T29 (mkF m 28 #[.val (.ref t2), .val (.int (Int32.ofNat q)), .val (.int (Int32.ofNat len)), .val (.ref b9), .val (.int (1 : Int32))] []) (fun tq kq => st29 _ (XS.istore X29.here hx rfl (hb hby d29_26) rfl (l' := #[.val (.ref t2), .val (.int (Int32.ofNat q)), .val (.int (Int32.ofNat len)), .val (.ref b9), .val (.int (1 : Int32))]) rfl kq)) ?_
      obtain ⟨T30, h30, X30, e30, E30, A30, D30, -, st30⟩ := newO X29 hx hZ hown (own_w hw 146 rfl) (own_w hw 9 rfl) (own_w hw 10 rfl) e29 (g := (mkF m 28 #[.val (.ref t2), .val (.int (Int32.ofNat q)), .val (.int (Int32.ofNat len)), .val (.ref b9), .val (.int (1 : Int32))] [])) rfl (hb hby d29_28) (by decide) (by decide)
      obtain ⟨b30, g30⟩ : ∃ z, z = T9.heap.size := ⟨_, rfl⟩
      rw [← g30] at A30 D30 st30
      have ne_t2_b30 : own_ne t2 b30 := Nat.ne_of_lt (Nat.lt_of_lt_of_le f15.lt (Nat.le_of_eq g30.symm))
      have ne_b9_b30 : own_ne b9 b30 := Nat.ne_of_lt (Nat.lt_of_lt_of_le V9q.lt (Nat.le_of_eq g30.symm))
      have f31 := f10.ext E30
      have f32 := f11.ext E30
      have f33 := f12.ext E30
      have f34 := f13.ext E30
      have f35 := f14.ext E30
      have f36 := f15.ext E30
      have f37 := V9q.ext E30
      have Sf30 := Safe.ext (x := b30) E30 C9.1 (Safe.new (Nat.le_of_eq g30.symm))
      have C30 := C9.trans (CHr.ext E30 C9.1)
      have sz30 : n0 ≤ b30 := Nat.le_trans Zs9 (Nat.le_of_eq g30.symm)
      have hs30 : h0.size ≤ b30 := Nat.le_trans KK9.1 (Nat.le_of_eq g30.symm)
      have Zs30 : n0 ≤ h30.size := Nat.le_trans Zs9 E30.1
      have K30 := KK9.ext E30
      have hk := Nat.le_trans hk E30.1
      have F30_coder : Fld Z h30 b30 "java/lang/String" "coder" "B" (.int (0 : Int32)) := D30 (Or.inr (own_w hw 53 rfl)) (ty := .byte) (by decide)
      have F30_value : Fld Z h30 b30 "java/lang/String" "value" "[B" .null := D30 (Or.inr (own_w hw 55 rfl)) (ty := (.array .byte)) (by decide)
      refine own_toH T30 (mkF m 35 #[.val (.ref t2), .val (.int (Int32.ofNat q)), .val (.int (Int32.ofNat len)), .val (.ref b9), .val (.int (1 : Int32))] [(.int (1 : Int32)), (.ref b9), (.ref b30), (.ref b30)]) (fun tq kq => st30 _ (XS.dup X30.here hx rfl (hb hby d29_31) rfl rfl (XS.aloadN X30.here hx rfl (hb hby d29_32) rfl rfl (XS.iload X30.here hx rfl (hb hby d29_33) rfl kq)))) ?_
      obtain ⟨_, _, ⟨T38, L38, k38, n38⟩, -, X38, ⟨Lc38, hQ38, l38, y38, z38⟩, st38⟩ := X30.specialBack hx (y := (⟨"java/lang/String", "<init>", "([BB)V"⟩ : MethodName)) rfl hown (mvT hZ (own_w hw 147 rfl)) (mvT hZ (own_w hw 148 rfl)) (mvT hZ (own_w hw 149 rfl)) (by decide) (backOf (W := 1) (rmSB l Z a0 hw [] b30 b9 (1 : Int32) h30 n0 Zs30 A30 F30_value F30_coder sz30 (by decide)) hZ (own_w hw 149 rfl) (own_w hw 10 rfl) (by decide) (by decide)) (g := (mkF m 35 #[.val (.ref t2), .val (.int (Int32.ofNat q)), .val (.int (Int32.ofNat len)), .val (.ref b9), .val (.int (1 : Int32))] [(.int (1 : Int32)), (.ref b9), (.ref b30), (.ref b30)])) rfl (by rw [hml]; rfl) (Steps.refl _) (a := b30) (argsL := [(.ref b9), (.int (1 : Int32))]) (rest := [(.ref b30)]) (lenOf pd_27 rfl) rfl (by show 2 * 0 + _ ≤ _; exact Nat.le_of_eq rfl) (hb hby d29_35) (fun _ _ => ⟨rfl, e30, (by decide : 3 + 0 ≤ _), (by decide : 24 + 0 ≤ _)⟩)
      dsimp only [Pt.U, Pt.locs, Pt.cells, Pt.slots] at X38 l38 y38 z38 st38 hQ38
      have l38y := l38.symm
      clear l38
      subst l38y
      obtain rfl : k38 = 3 := y38
      obtain rfl : n38 = 24 := z38
      obtain ⟨rfl, N38q, K38q, E38q, V38q, C38q⟩ := hQ38
      have N38 := Fr.app N29 N38q
      have f39 := f36.keep K38q (ninS ne_t2_b30 nin0)
      have f40 := f37.keep K38q (ninS ne_b9_b30 nin0)
      have f41 := Safe.keep K38q (allS Sf30 all0) C30.1 Sf30
      have Zs38 : n0 ≤ T38.heap.size := Nat.le_trans Zs30 K38q.1
      have hk := Nat.le_trans hk K38q.1
      have C38 := C30.trans (CHr.keep K38q (allS Sf30 all0) C30.1)
      have KK38 := K30.trans K38q (allS (Or.inr hs30) all0)
      refine own_toH T38 (mkF m 38 #[.val (.ref t2), .val (.int (Int32.ofNat q)), .val (.int (Int32.ofNat len)), .val (.ref b9), .val (.int (1 : Int32))] [(.ref b30)]) (fun tq kq => st38.trans kq) ?_
      exact own_retAH X38 hS hk hZ hEL C38 hx hret hlk rfl rfl (hb hby d29_38) (by decide) (by decide) ⟨b30, b9, _, _, rfl, N38, KK38, E38q, V38q, f40, Or.inr ⟨C38q, or9⟩⟩
theorem d28_0 : decode jdk_42_method_92_code 0 = .ok (.aload_n 0, 1) := by decide +kernel
theorem d28_1 : decode jdk_42_method_92_code 1 = .ok (.invokevirtual 505, 3) := by decide +kernel
theorem d28_4 : decode jdk_42_method_92_code 4 = .ok (.istore_n 3, 1) := by decide +kernel
theorem d28_5 : decode jdk_42_method_92_code 5 = .ok (.iload_n 1, 1) := by decide +kernel
theorem d28_6 : decode jdk_42_method_92_code 6 = .ok (.iload_n 2, 1) := by decide +kernel
theorem d28_7 : decode jdk_42_method_92_code 7 = .ok (.iload_n 3, 1) := by decide +kernel
theorem d28_8 : decode jdk_42_method_92_code 8 = .ok (.invokestatic 521, 3) := by decide +kernel
theorem d28_11 : decode jdk_42_method_92_code 11 = .ok (.iload_n 1, 1) := by decide +kernel
theorem d28_12 : decode jdk_42_method_92_code 12 = .ok (.ifCond .ne 10, 3) := by decide +kernel
theorem d28_15 : decode jdk_42_method_92_code 15 = .ok (.iload_n 2, 1) := by decide +kernel
theorem d28_16 : decode jdk_42_method_92_code 16 = .ok (.iload_n 3, 1) := by decide +kernel
theorem d28_17 : decode jdk_42_method_92_code 17 = .ok (.if_icmp .ne 5, 3) := by decide +kernel
theorem d28_20 : decode jdk_42_method_92_code 20 = .ok (.aload_n 0, 1) := by decide +kernel
theorem d28_21 : decode jdk_42_method_92_code 21 = .ok (.areturn, 1) := by decide +kernel
theorem d28_22 : decode jdk_42_method_92_code 22 = .ok (.iload_n 2, 1) := by decide +kernel
theorem d28_23 : decode jdk_42_method_92_code 23 = .ok (.iload_n 1, 1) := by decide +kernel
theorem d28_24 : decode jdk_42_method_92_code 24 = .ok (.isub, 1) := by decide +kernel
theorem d28_25 : decode jdk_42_method_92_code 25 = .ok (.istore 4, 2) := by decide +kernel
theorem d28_27 : decode jdk_42_method_92_code 27 = .ok (.aload_n 0, 1) := by decide +kernel
theorem d28_28 : decode jdk_42_method_92_code 28 = .ok (.invokevirtual 492, 3) := by decide +kernel
theorem d28_31 : decode jdk_42_method_92_code 31 = .ok (.ifCond .eq 16, 3) := by decide +kernel
theorem d28_34 : decode jdk_42_method_92_code 34 = .ok (.aload_n 0, 1) := by decide +kernel
theorem d28_35 : decode jdk_42_method_92_code 35 = .ok (.getfield 9, 3) := by decide +kernel
theorem d28_38 : decode jdk_42_method_92_code 38 = .ok (.iload_n 1, 1) := by decide +kernel
theorem d28_39 : decode jdk_42_method_92_code 39 = .ok (.iload 4, 2) := by decide +kernel
theorem d28_41 : decode jdk_42_method_92_code 41 = .ok (.invokestatic 685, 3) := by decide +kernel
theorem d28_44 : decode jdk_42_method_92_code 44 = .ok (.goto 13, 3) := by decide +kernel
theorem d28_47 : decode jdk_42_method_92_code 47 = .ok (.aload_n 0, 1) := by decide +kernel
theorem d28_48 : decode jdk_42_method_92_code 48 = .ok (.getfield 9, 3) := by decide +kernel
theorem d28_51 : decode jdk_42_method_92_code 51 = .ok (.iload_n 1, 1) := by decide +kernel
theorem d28_52 : decode jdk_42_method_92_code 52 = .ok (.iload 4, 2) := by decide +kernel
theorem d28_54 : decode jdk_42_method_92_code 54 = .ok (.invokestatic 689, 3) := by decide +kernel
theorem d28_57 : decode jdk_42_method_92_code 57 = .ok (.areturn, 1) := by decide +kernel
theorem ef_28_RII (m : MethodId) (x0 : Addr) (x1 : Int32) (x2 : Int32) : entryFrame m #[(.ref x0), (.int x1), (.int x2)] 5 = mkF m 0 #[.val (.ref x0), .val (.int x1), .val (.int x2), .unset, .unset] [] := by first | (simp [entryFrame, mkF, argsToLocals, Value.category]; done) | rfl
def Q_rmUSub (Z : State) (a2 t2 : Addr) (q j : Nat) (f cc : Nat → Int32) (G1 : Int32) (vF : Value) (h0 : Heap) (n0 : Nat) (v : Option Value) (h : Heap) (L : List Loc) : Prop := ∃ b t N g, v = some (.ref b) ∧ Fr n0 L ∧ Keep h0 h [] ∧ Exa Z h b "java/lang/String" ∧ Fld Z h b "java/lang/String" "value" "[B" (.ref t) ∧ BArr Z h t N g ∧ ((Fld Z h b "java/lang/String" "coder" "B" (.int (0 : Int32)) ∧ N = j - q) ∨ (Fld Z h b "java/lang/String" "coder" "B" (.int (1 : Int32)) ∧ N = 2 * (j - q)))
theorem pd_23 : parseMethodDescriptor "([BII)Ljava/lang/String;" = some ⟨[(.array .byte), .int, .int], some (.object "java/lang/String")⟩ := by decide +kernel
set_option maxRecDepth 65536 in
set_option maxHeartbeats 40000000 in
theorem rmUSub (l : Launch) (Z : State) (a0 : Array Value) (hw : ∀ d ∈ tables_1, d.before a0 Z = true) (ws : List Jvm.Cond) (a2 t2 : Addr) (q j : Nat) (f cc : Nat → Int32) (G1 : Int32) (vF : Value) (h0 : Heap) (n0 : Nat) (Z0 : n0 ≤ h0.size) (O2 : Sta Z h0 "java/lang/String" "COMPACT_STRINGS" "Z" (.int G1)) (hG : ¬ G1 = (0 : Int32)) (O4 : Sta Z h0 "jdk/internal/util/Preconditions" "SIOOBE_FORMATTER" "Ljava/util/function/BiFunction;" vF) (hvF : vF.isRef = true) (OA : Sta Z h0 "java/lang/StringUTF16" "$assertionsDisabled" "Z" (.int (1 : Int32))) (OH : Sta Z h0 "java/lang/StringUTF16" "HI_BYTE_SHIFT" "I" (.int (0 : Int32))) (OL : Sta Z h0 "java/lang/StringUTF16" "LO_BYTE_SHIFT" "I" (.int (8 : Int32))) (Ea2 : Exa Z h0 a2 "java/lang/String") (Fa2 : Fld Z h0 a2 "java/lang/String" "value" "[B" (.ref t2)) (Ca2 : Fld Z h0 a2 "java/lang/String" "coder" "B" (.int (1 : Int32))) (Aa2 : BArr Z h0 t2 14 f) (hu : own_U f 7 14 cc) (hj : q ≤ j) (hjn : j ≤ 6) (hEL : EW Z a0 consts_1) :
    MetFree l (⟨"java/lang/String", "substring", "(II)Ljava/lang/String;"⟩ : MethodName) (head1 (Jvm.Cond.code (⟨"java/lang/String", "substring", "(II)Ljava/lang/String;"⟩ : MethodName) jdk_42_method_92_code 5 (some (.object "java/lang/String")) :: ws) ({ frames := 6, cells := 3, slots := 24, locals := 190 } : Room)) (fun a U => a = #[(.ref a2), (.int (Int32.ofNat q)), (.int (Int32.ofNat j))] ∧ Z.Warmed39 U.vm ∧ U.heap = h0 ∧ CHv Z consts_1 U.vm h0) (fun _ _ _ _ _ => True) (fun _ U o U' => ∃ v L, o = .returned v ∧ Q_rmUSub Z a2 t2 q j f cc G1 vF h0 n0 v U'.heap L ∧ CHr Z consts_1 U.vm U.heap U'.vm U'.heap ∧ ReturnedEndW U o U' L ({ frames := 6, cells := 3, slots := 24, locals := 190 } : Room).cells ({ frames := 6, cells := 3, slots := 24, locals := 190 } : Room).slots) := by
  refine own_metH (EL := consts_1) (y := (⟨"java/lang/String", "substring", "(II)Ljava/lang/String;"⟩ : MethodName)) (Q := (Q_rmUSub Z a2 t2 q j f cc G1 vF h0 n0)) (plainFor_of_name pn_18) fun p e s m below meth c s₁ X0 hx hby hml hret hlk hown hnm hZ e0 hS C0 => ?_
  have hk := Nat.le_refl h0.size
  refine own_entryH (ef_28_RII m a2 (Int32.ofNat q) (Int32.ofNat j)) ?_
  have K0 := Keep.refl h0 []
  refine own_toH s₁ (mkF m 1 #[.val (.ref a2), .val (.int (Int32.ofNat q)), .val (.int (Int32.ofNat j)), .unset, .unset] [(.ref a2)]) (fun tq kq => XS.aloadN X0.here hx rfl (hb hby d28_0) rfl rfl kq) ?_
  obtain ⟨cq1, kq1, q1a, q1b, q1c⟩ := isOf hZ e0 Ea2
  obtain ⟨_, _, ⟨T1, L1, k1, n1⟩, -, X1, ⟨Lc1, hQ1, l1, y1, z1⟩, st1⟩ := X0.virtualBack hx (y := (⟨"java/lang/String", "length", "()I"⟩ : MethodName)) (z := (⟨"java/lang/String", "length", "()I"⟩ : MethodName)) hown (mvT hZ (own_w hw 79 rfl)) (mvT hZ (own_w hw 80 rfl)) (notFace_of_selects (args := #[]) (mvT hZ (own_w hw 82 rfl))) (mvT hZ (own_w hw 82 rfl)) (mvT hZ (own_w hw 81 rfl)) (by decide) (backOf (W := 0) (rmLen1 l Z a0 hw [] a2 t2 7 f G1 h0 n0 Z0 O2 hG Ea2 Fa2 Ca2 Aa2 (by decide)) hZ (own_w hw 83 rfl) (own_w hw 10 rfl) (by decide) (by decide)) q1a q1c (g := (mkF m 1 #[.val (.ref a2), .val (.int (Int32.ofNat q)), .val (.int (Int32.ofNat j)), .unset, .unset] [(.ref a2)])) rfl (by rw [hml]; rfl) (Steps.refl _) (argsL := []) (rest := []) (lenOf pd_15 rfl) rfl (by show 2 * 0 + _ ≤ _; exact Nat.le_of_eq rfl) (hb hby d28_1) (fun _ _ => ⟨rfl, e0, (by decide : 0 + 0 ≤ _), (by decide : 0 + 0 ≤ _)⟩)
  dsimp only [Pt.U, Pt.locs, Pt.cells, Pt.slots] at X1 l1 y1 z1 st1 hQ1
  have l1y := l1.symm
  clear l1
  subst l1y
  obtain rfl : k1 = 0 := y1
  obtain rfl : n1 = 0 := z1
  obtain ⟨rfl, N1q, e1⟩ := hQ1
  have N1 := Fr.app (Fr.nil n0) N1q
  refine own_toH T1 (mkF m 8 #[.val (.ref a2), .val (.int (Int32.ofNat q)), .val (.int (Int32.ofNat j)), .val (.int (Int32.ofNat 7)), .unset] [(.int (Int32.ofNat 7)), (.int (Int32.ofNat j)), (.int (Int32.ofNat q))]) (fun tq kq => st1.trans (XS.istoreN X1.here hx rfl (hb hby d28_4) rfl (l' := #[.val (.ref a2), .val (.int (Int32.ofNat q)), .val (.int (Int32.ofNat j)), .val (.int (Int32.ofNat 7)), .unset]) rfl (XS.iloadN X1.here hx rfl (hb hby d28_5) rfl (XS.iloadN X1.here hx rfl (hb hby d28_6) rfl (XS.iloadN X1.here hx rfl (hb hby d28_7) rfl kq))))) ?_
  obtain ⟨_, _, ⟨T2, L2, k2, n2⟩, -, X2, ⟨Lc2, hQ2, l2, y2, z2⟩, st2⟩ := Jvm.LawKit.callS X1 hx (y := (⟨"java/lang/String", "checkBoundsBeginEnd", "(III)V"⟩ : MethodName)) hown (mvT hZ (own_w hw 125 rfl)) (mvT hZ (own_w hw 110 rfl)) (mvT hZ (own_w hw 10 rfl)) (mvT hZ (own_w hw 111 rfl)) (by decide) (backOf (W := 0) (rmCB l Z a0 hw [] q j 7 vF h0 n0 Z0 O4 hvF hj (by omega) (by decide)) hZ (own_w hw 111 rfl) (own_w hw 10 rfl) (by decide) (by decide)) (g := (mkF m 8 #[.val (.ref a2), .val (.int (Int32.ofNat q)), .val (.int (Int32.ofNat j)), .val (.int (Int32.ofNat 7)), .unset] [(.int (Int32.ofNat 7)), (.int (Int32.ofNat j)), (.int (Int32.ofNat q))])) rfl (by rw [hml]; rfl) (argsL := [(.int (Int32.ofNat q)), (.int (Int32.ofNat j)), (.int (Int32.ofNat 7))]) (rest := []) (lenOf pd_20 rfl) rfl (by show 2 * 0 + _ ≤ _; exact Nat.le_of_eq rfl) (hb hby d28_8) (fun _ _ => ⟨rfl, e1, (by decide : 0 + 0 ≤ _), (by decide : 0 + 0 ≤ _)⟩)
  dsimp only [Pt.U, Pt.locs, Pt.cells, Pt.slots] at X2 l2 y2 z2 st2 hQ2
  have l2y := l2.symm
  clear l2
  subst l2y
  obtain rfl : k2 = 0 := y2
  obtain rfl : n2 = 0 := z2
  obtain ⟨rfl, N2q, e2⟩ := hQ2
  have N2 := Fr.app N1 N2q
  refine own_toH T2 (mkF m 12 #[.val (.ref a2), .val (.int (Int32.ofNat q)), .val (.int (Int32.ofNat j)), .val (.int (Int32.ofNat 7)), .unset] [(.int (Int32.ofNat q))]) (fun tq kq => st2 _ (XS.iloadN X2.here hx rfl (hb hby d28_11) rfl kq)) ?_
  by_cases c12 : (Int32.ofNat q) = (0 : Int32)
  · skip
    refine own_toH T2 (mkF m 25 #[.val (.ref a2), .val (.int (Int32.ofNat q)), .val (.int (Int32.ofNat j)), .val (.int (Int32.ofNat 7)), .unset] [(.int ((Int32.ofNat j) - (Int32.ofNat q)))]) (fun tq kq => XS.ifNo X2.here hx rfl (hb hby d28_12) rfl ((if0 _ _).trans (teq c12).2) (XS.iloadN X2.here hx rfl (hb hby d28_15) rfl (XS.iloadN X2.here hx rfl (hb hby d28_16) rfl (XS.icmpYes X2.here hx rfl (pc0 := 17) (pc' := 22) rfl (hb hby d28_17) rfl (feq (mt (own_eqn (by omega) (by omega)).mp (by omega))).2 (by decide) (by decide) (XS.iloadN X2.here hx rfl (hb hby d28_22) rfl (XS.iloadN X2.here hx rfl (hb hby d28_23) rfl (XS.isub X2.here hx rfl (hb hby d28_24) rfl kq))))))) ?_
    rw [show ((Int32.ofNat j) - (Int32.ofNat q)) = (Int32.ofNat (j - q)) from own_subn j q hj (by omega)]
    refine own_toH T2 (mkF m 28 #[.val (.ref a2), .val (.int (Int32.ofNat q)), .val (.int (Int32.ofNat j)), .val (.int (Int32.ofNat 7)), .val (.int (Int32.ofNat (j - q)))] [(.ref a2)]) (fun tq kq => XS.istore X2.here hx rfl (hb hby d28_25) rfl (l' := #[.val (.ref a2), .val (.int (Int32.ofNat q)), .val (.int (Int32.ofNat j)), .val (.int (Int32.ofNat 7)), .val (.int (Int32.ofNat (j - q)))]) rfl (XS.aloadN X2.here hx rfl (hb hby d28_27) rfl rfl kq)) ?_
    obtain ⟨cq3, kq3, q3a, q3b, q3c⟩ := isOf hZ e2 Ea2
    obtain ⟨_, _, ⟨T3, L3, k3, n3⟩, -, X3, ⟨Lc3, hQ3, l3, y3, z3⟩, st3⟩ := X2.virtualBack hx (y := (⟨"java/lang/String", "isLatin1", "()Z"⟩ : MethodName)) (z := (⟨"java/lang/String", "isLatin1", "()Z"⟩ : MethodName)) hown (mvT hZ (own_w hw 74 rfl)) (mvT hZ (own_w hw 75 rfl)) (notFace_of_selects (args := #[]) (mvT hZ (own_w hw 77 rfl))) (mvT hZ (own_w hw 77 rfl)) (mvT hZ (own_w hw 76 rfl)) (by decide) (backOf (W := 0) (rmLat1 l Z a0 hw [] a2 G1 h0 n0 Z0 O2 hG Ca2) hZ (own_w hw 78 rfl) (own_w hw 10 rfl) (by decide) (by decide)) q3a q3c (g := (mkF m 28 #[.val (.ref a2), .val (.int (Int32.ofNat q)), .val (.int (Int32.ofNat j)), .val (.int (Int32.ofNat 7)), .val (.int (Int32.ofNat (j - q)))] [(.ref a2)])) rfl (by rw [hml]; rfl) (Steps.refl _) (argsL := []) (rest := []) (lenOf pd_14 rfl) rfl (by show 2 * 0 + _ ≤ _; exact Nat.le_of_eq rfl) (hb hby d28_28) (fun _ _ => ⟨rfl, e2, (by decide : 0 + 0 ≤ _), (by decide : 0 + 0 ≤ _)⟩)
    dsimp only [Pt.U, Pt.locs, Pt.cells, Pt.slots] at X3 l3 y3 z3 st3 hQ3
    have l3y := l3.symm
    clear l3
    subst l3y
    obtain rfl : k3 = 0 := y3
    obtain rfl : n3 = 0 := z3
    obtain ⟨rfl, N3q, e3⟩ := hQ3
    have N3 := Fr.app N2 N3q
    refine own_toH T3 (mkF m 48 #[.val (.ref a2), .val (.int (Int32.ofNat q)), .val (.int (Int32.ofNat j)), .val (.int (Int32.ofNat 7)), .val (.int (Int32.ofNat (j - q)))] [(.ref a2)]) (fun tq kq => st3.trans (XS.ifYes X3.here hx rfl (pc0 := 31) (pc' := 47) rfl (hb hby d28_31) rfl ((if0 _ _).trans (teq (by decide : (0 : Int32) = (0 : Int32))).1) (by decide) (by decide) (XS.aloadN X3.here hx rfl (hb hby d28_47) rfl rfl kq))) ?_
    obtain ⟨T4, X4, e4, st4⟩ := getF X3 hx hZ hown (host := "") (Or.inl (own_w hw 54 rfl)) Via.refl e3 Fa2 (g := (mkF m 48 #[.val (.ref a2), .val (.int (Int32.ofNat q)), .val (.int (Int32.ofNat j)), .val (.int (Int32.ofNat 7)), .val (.int (Int32.ofNat (j - q)))] [(.ref a2)])) rfl rfl (hb hby d28_48)
    refine own_toH T4 (mkF m 54 #[.val (.ref a2), .val (.int (Int32.ofNat q)), .val (.int (Int32.ofNat j)), .val (.int (Int32.ofNat 7)), .val (.int (Int32.ofNat (j - q)))] [(.int (Int32.ofNat (j - q))), (.int (Int32.ofNat q)), (.ref t2)]) (fun tq kq => st4 _ (XS.iloadN X4.here hx rfl (hb hby d28_51) rfl (XS.iload X4.here hx rfl (hb hby d28_52) rfl kq))) ?_
    obtain ⟨_, _, ⟨T5, L5, k5, n5⟩, -, X5, hS5, hgr5, ⟨Lc5, hQ5, l5, y5, z5, hC5⟩, st5⟩ := callSS X4 hx (y := (⟨"java/lang/StringUTF16", "newString", "([BII)Ljava/lang/String;"⟩ : MethodName)) hown (mvT hZ (own_w hw 126 rfl)) (mvT hZ (own_w hw 127 rfl)) (mvT hZ (own_w hw 24 rfl)) (mvT hZ (own_w hw 128 rfl)) (by decide) (backOfSH (W := 0) (rmUNS l Z a0 hw [] t2 q (j - q) f vF G1 h0 n0 Z0 O2 hG O4 hvF OA OH OL Aa2 hu.2 (by omega) hEL) hZ (own_w hw 128 rfl) (own_w hw 24 rfl) (by decide) (by decide) hEL C0.1) (g := (mkF m 54 #[.val (.ref a2), .val (.int (Int32.ofNat q)), .val (.int (Int32.ofNat j)), .val (.int (Int32.ofNat 7)), .val (.int (Int32.ofNat (j - q)))] [(.int (Int32.ofNat (j - q))), (.int (Int32.ofNat q)), (.ref t2)])) rfl (by rw [hml]; rfl) (argsL := [(.ref t2), (.int (Int32.ofNat q)), (.int (Int32.ofNat (j - q)))]) (rest := []) (lenOf pd_23 rfl) rfl (by show 2 * 0 + _ ≤ _; exact Nat.le_of_eq rfl) (hb hby d28_54) (fun _ _ => ⟨rfl, e4, (by decide : 0 + 3 ≤ _), (by decide : 0 + 24 ≤ _)⟩)
    dsimp only [Pt.U, Pt.locs, Pt.cells, Pt.slots] at X5 l5 y5 z5 st5 hQ5
    have l5y := l5.symm
    clear l5
    subst l5y
    obtain rfl : k5 = 3 := y5
    obtain rfl : n5 = 24 := z5
    dsimp only [Pt.U, Pt.locs, Pt.cells, Pt.slots] at hS5 hgr5 hC5
    have C5 := C0.trans hC5
    obtain ⟨X5, hS, hZ, hown⟩ := rebS hS hk X5 hS5 (by rw [← e4]; exact hgr5) hZ hown
    have hk := Nat.le_refl T5.heap.size
    obtain ⟨b5, t5, nn5, gg5, rfl, N5q, K5q, R5q⟩ := hQ5
    have N5 := Fr.app N3 N5q
    have Zs5 : n0 ≤ T5.heap.size := Nat.le_trans Z0 K5q.1
    have KK5 := K0.trans K5q all0
    refine own_toH T5 (mkF m 57 #[.val (.ref a2), .val (.int (Int32.ofNat q)), .val (.int (Int32.ofNat j)), .val (.int (Int32.ofNat 7)), .val (.int (Int32.ofNat (j - q)))] [(.ref b5)]) (fun tq kq => st5.trans kq) ?_
    exact own_retAH X5 hS hk hZ hEL C5 hx hret hlk rfl rfl (hb hby d28_57) (by decide) (by decide) ⟨b5, t5, nn5, gg5, rfl, N5, KK5, R5q⟩
  · skip
    refine own_toH T2 (mkF m 25 #[.val (.ref a2), .val (.int (Int32.ofNat q)), .val (.int (Int32.ofNat j)), .val (.int (Int32.ofNat 7)), .unset] [(.int ((Int32.ofNat j) - (Int32.ofNat q)))]) (fun tq kq => XS.ifYes X2.here hx rfl (pc0 := 12) (pc' := 22) rfl (hb hby d28_12) rfl ((if0 _ _).trans (feq c12).2) (by decide) (by decide) (XS.iloadN X2.here hx rfl (hb hby d28_22) rfl (XS.iloadN X2.here hx rfl (hb hby d28_23) rfl (XS.isub X2.here hx rfl (hb hby d28_24) rfl kq)))) ?_
    rw [show ((Int32.ofNat j) - (Int32.ofNat q)) = (Int32.ofNat (j - q)) from own_subn j q hj (by omega)]
    refine own_toH T2 (mkF m 28 #[.val (.ref a2), .val (.int (Int32.ofNat q)), .val (.int (Int32.ofNat j)), .val (.int (Int32.ofNat 7)), .val (.int (Int32.ofNat (j - q)))] [(.ref a2)]) (fun tq kq => XS.istore X2.here hx rfl (hb hby d28_25) rfl (l' := #[.val (.ref a2), .val (.int (Int32.ofNat q)), .val (.int (Int32.ofNat j)), .val (.int (Int32.ofNat 7)), .val (.int (Int32.ofNat (j - q)))]) rfl (XS.aloadN X2.here hx rfl (hb hby d28_27) rfl rfl kq)) ?_
    obtain ⟨cq6, kq6, q6a, q6b, q6c⟩ := isOf hZ e2 Ea2
    obtain ⟨_, _, ⟨T6, L6, k6, n6⟩, -, X6, ⟨Lc6, hQ6, l6, y6, z6⟩, st6⟩ := X2.virtualBack hx (y := (⟨"java/lang/String", "isLatin1", "()Z"⟩ : MethodName)) (z := (⟨"java/lang/String", "isLatin1", "()Z"⟩ : MethodName)) hown (mvT hZ (own_w hw 74 rfl)) (mvT hZ (own_w hw 75 rfl)) (notFace_of_selects (args := #[]) (mvT hZ (own_w hw 77 rfl))) (mvT hZ (own_w hw 77 rfl)) (mvT hZ (own_w hw 76 rfl)) (by decide) (backOf (W := 0) (rmLat1 l Z a0 hw [] a2 G1 h0 n0 Z0 O2 hG Ca2) hZ (own_w hw 78 rfl) (own_w hw 10 rfl) (by decide) (by decide)) q6a q6c (g := (mkF m 28 #[.val (.ref a2), .val (.int (Int32.ofNat q)), .val (.int (Int32.ofNat j)), .val (.int (Int32.ofNat 7)), .val (.int (Int32.ofNat (j - q)))] [(.ref a2)])) rfl (by rw [hml]; rfl) (Steps.refl _) (argsL := []) (rest := []) (lenOf pd_14 rfl) rfl (by show 2 * 0 + _ ≤ _; exact Nat.le_of_eq rfl) (hb hby d28_28) (fun _ _ => ⟨rfl, e2, (by decide : 0 + 0 ≤ _), (by decide : 0 + 0 ≤ _)⟩)
    dsimp only [Pt.U, Pt.locs, Pt.cells, Pt.slots] at X6 l6 y6 z6 st6 hQ6
    have l6y := l6.symm
    clear l6
    subst l6y
    obtain rfl : k6 = 0 := y6
    obtain rfl : n6 = 0 := z6
    obtain ⟨rfl, N6q, e6⟩ := hQ6
    have N6 := Fr.app N2 N6q
    refine own_toH T6 (mkF m 48 #[.val (.ref a2), .val (.int (Int32.ofNat q)), .val (.int (Int32.ofNat j)), .val (.int (Int32.ofNat 7)), .val (.int (Int32.ofNat (j - q)))] [(.ref a2)]) (fun tq kq => st6.trans (XS.ifYes X6.here hx rfl (pc0 := 31) (pc' := 47) rfl (hb hby d28_31) rfl ((if0 _ _).trans (teq (by decide : (0 : Int32) = (0 : Int32))).1) (by decide) (by decide) (XS.aloadN X6.here hx rfl (hb hby d28_47) rfl rfl kq))) ?_
    obtain ⟨T7, X7, e7, st7⟩ := getF X6 hx hZ hown (host := "") (Or.inl (own_w hw 54 rfl)) Via.refl e6 Fa2 (g := (mkF m 48 #[.val (.ref a2), .val (.int (Int32.ofNat q)), .val (.int (Int32.ofNat j)), .val (.int (Int32.ofNat 7)), .val (.int (Int32.ofNat (j - q)))] [(.ref a2)])) rfl rfl (hb hby d28_48)
    refine own_toH T7 (mkF m 54 #[.val (.ref a2), .val (.int (Int32.ofNat q)), .val (.int (Int32.ofNat j)), .val (.int (Int32.ofNat 7)), .val (.int (Int32.ofNat (j - q)))] [(.int (Int32.ofNat (j - q))), (.int (Int32.ofNat q)), (.ref t2)]) (fun tq kq => st7 _ (XS.iloadN X7.here hx rfl (hb hby d28_51) rfl (XS.iload X7.here hx rfl (hb hby d28_52) rfl kq))) ?_
    obtain ⟨_, _, ⟨T8, L8, k8, n8⟩, -, X8, hS8, hgr8, ⟨Lc8, hQ8, l8, y8, z8, hC8⟩, st8⟩ := callSS X7 hx (y := (⟨"java/lang/StringUTF16", "newString", "([BII)Ljava/lang/String;"⟩ : MethodName)) hown (mvT hZ (own_w hw 126 rfl)) (mvT hZ (own_w hw 127 rfl)) (mvT hZ (own_w hw 24 rfl)) (mvT hZ (own_w hw 128 rfl)) (by decide) (backOfSH (W := 0) (rmUNS l Z a0 hw [] t2 q (j - q) f vF G1 h0 n0 Z0 O2 hG O4 hvF OA OH OL Aa2 hu.2 (by omega) hEL) hZ (own_w hw 128 rfl) (own_w hw 24 rfl) (by decide) (by decide) hEL C0.1) (g := (mkF m 54 #[.val (.ref a2), .val (.int (Int32.ofNat q)), .val (.int (Int32.ofNat j)), .val (.int (Int32.ofNat 7)), .val (.int (Int32.ofNat (j - q)))] [(.int (Int32.ofNat (j - q))), (.int (Int32.ofNat q)), (.ref t2)])) rfl (by rw [hml]; rfl) (argsL := [(.ref t2), (.int (Int32.ofNat q)), (.int (Int32.ofNat (j - q)))]) (rest := []) (lenOf pd_23 rfl) rfl (by show 2 * 0 + _ ≤ _; exact Nat.le_of_eq rfl) (hb hby d28_54) (fun _ _ => ⟨rfl, e7, (by decide : 0 + 3 ≤ _), (by decide : 0 + 24 ≤ _)⟩)
    dsimp only [Pt.U, Pt.locs, Pt.cells, Pt.slots] at X8 l8 y8 z8 st8 hQ8
    have l8y := l8.symm
    clear l8
    subst l8y
    obtain rfl : k8 = 3 := y8
    obtain rfl : n8 = 24 := z8
    dsimp only [Pt.U, Pt.locs, Pt.cells, Pt.slots] at hS8 hgr8 hC8
    have C8 := C0.trans hC8
    obtain ⟨X8, hS, hZ, hown⟩ := rebS hS hk X8 hS8 (by rw [← e7]; exact hgr8) hZ hown
    have hk := Nat.le_refl T8.heap.size
    obtain ⟨b8, t8, nn8, gg8, rfl, N8q, K8q, R8q⟩ := hQ8
    have N8 := Fr.app N6 N8q
    have Zs8 : n0 ≤ T8.heap.size := Nat.le_trans Z0 K8q.1
    have KK8 := K0.trans K8q all0
    refine own_toH T8 (mkF m 57 #[.val (.ref a2), .val (.int (Int32.ofNat q)), .val (.int (Int32.ofNat j)), .val (.int (Int32.ofNat 7)), .val (.int (Int32.ofNat (j - q)))] [(.ref b8)]) (fun tq kq => st8.trans kq) ?_
    exact own_retAH X8 hS hk hZ hEL C8 hx hret hlk rfl rfl (hb hby d28_57) (by decide) (by decide) ⟨b8, t8, nn8, gg8, rfl, N8, KK8, R8q⟩
def own_end (q n : Nat) : Int32 := if q < n then 0 else 1
def own_ws (y : Int32) : Prop := y = 32 ∨ y = 9
theorem d13_0 : decode prog_11_method_1_code 0 = .ok (.aload_n 0, 1) := by decide +kernel
theorem d13_1 : decode prog_11_method_1_code 1 = .ok (.invokespecial 1, 3) := by decide +kernel
theorem d13_4 : decode prog_11_method_1_code 4 = .ok (.aload_n 0, 1) := by decide +kernel
theorem d13_5 : decode prog_11_method_1_code 5 = .ok (.aload_n 1, 1) := by decide +kernel
theorem d13_6 : decode prog_11_method_1_code 6 = .ok (.putfield 7, 3) := by decide +kernel
theorem d13_9 : decode prog_11_method_1_code 9 = .ok (.return_, 1) := by decide +kernel
theorem pn_13 : plainName "com/example/wayline/wayline/HeaderReader" = true := by first | (simp [plainName, overriddenIn]; done) | decide +kernel
theorem ef_13_RR (m : MethodId) (x0 : Addr) (x1 : Addr) : entryFrame m #[(.ref x0), (.ref x1)] 2 = mkF m 0 #[.val (.ref x0), .val (.ref x1)] [] := by first | (simp [entryFrame, mkF, argsToLocals, Value.category]; done) | rfl
def Q_rmHI (Z : State) (a1 a2 : Addr) (h0 : Heap) (n0 : Nat) (v : Option Value) (h : Heap) (L : List Loc) : Prop := v = none ∧ Fr n0 L ∧ Keep h0 h [a1] ∧ Exa Z h a1 "com/example/wayline/wayline/HeaderReader" ∧ Fld Z h a1 "com/example/wayline/wayline/HeaderReader" "value" "Ljava/lang/String;" (.ref a2) ∧ Fld Z h a1 "com/example/wayline/wayline/HeaderReader" "position" "I" (.int (Int32.ofNat 0))
theorem sn_position_value {Z : State} {a0 : Array Value} (hw : ∀ d ∈ tables_1, d.before a0 Z = true) : Jvm.RoadKit.slotOf Z "com/example/wayline/wayline/HeaderReader" "position" "I" ≠ Jvm.RoadKit.slotOf Z "com/example/wayline/wayline/HeaderReader" "value" "Ljava/lang/String;" := Jvm.RoadKit.slot_ne (a0 := a0) (Or.inl (own_w hw 68 rfl)) (Or.inr (own_w hw 61 rfl)) (by decide) (t := .int) (t' := (.object "java/lang/String")) (by decide) (by decide)
set_option maxRecDepth 65536 in
set_option maxHeartbeats 40000000 in
theorem rmHI (l : Launch) (Z : State) (a0 : Array Value) (hw : ∀ d ∈ tables_1, d.before a0 Z = true) (ws : List Jvm.Cond) (a1 a2 : Addr) (h0 : Heap) (n0 : Nat) (Z0 : n0 ≤ h0.size) (Ea1 : Exa Z h0 a1 "com/example/wayline/wayline/HeaderReader") (Fv1 : Fld Z h0 a1 "com/example/wayline/wayline/HeaderReader" "value" "Ljava/lang/String;" .null) (Fp1 : Fld Z h0 a1 "com/example/wayline/wayline/HeaderReader" "position" "I" (.int (Int32.ofNat 0))) (g_a1 : n0 ≤ a1) :
    MetFree l (⟨"com/example/wayline/wayline/HeaderReader", "<init>", "(Ljava/lang/String;)V"⟩ : MethodName) (head1 (Jvm.Cond.code (⟨"com/example/wayline/wayline/HeaderReader", "<init>", "(Ljava/lang/String;)V"⟩ : MethodName) prog_11_method_1_code 2 none :: ws) ({ frames := 1, cells := 0, slots := 0, locals := 12 } : Room)) (fun a U => a = #[(.ref a1), (.ref a2)] ∧ Z.Warmed39 U.vm ∧ U.heap = h0) (fun _ _ _ _ _ => True) (fun _ U o U' => ∃ v L, o = .returned v ∧ Q_rmHI Z a1 a2 h0 n0 v U'.heap L ∧ FrameEnd U o U' L ({ frames := 1, cells := 0, slots := 0, locals := 12 } : Room).cells ({ frames := 1, cells := 0, slots := 0, locals := 12 } : Room).slots) := by
  refine own_met (y := (⟨"com/example/wayline/wayline/HeaderReader", "<init>", "(Ljava/lang/String;)V"⟩ : MethodName)) (Q := (Q_rmHI Z a1 a2 h0 n0)) (plainFor_of_name pn_13) fun p e s m below meth c s₁ X0 hx hby hml hret hlk hown hnm hZ e0 => ?_
  refine own_entry (ef_13_RR m a1 a2) ?_
  have K0 := Keep.refl h0 [a1]
  refine own_to s₁ (mkF m 1 #[.val (.ref a1), .val (.ref a2)] [(.ref a1)]) (fun tq kq => XS.aloadN X0.here hx rfl (hb hby d13_0) rfl rfl kq) ?_
  obtain ⟨T1, X1, e1, st1⟩ := initO X0 hx hZ hown (own_w hw 59 rfl) (own_w hw 19 rfl) (own_w hw 20 rfl) e0 (g := (mkF m 1 #[.val (.ref a1), .val (.ref a2)] [(.ref a1)])) rfl (by rw [hml]; rfl) rfl (hb hby d13_1) (by decide) (W := 0) (by show 2 * 0 + _ ≤ _; exact Nat.le_of_eq rfl) (by decide)
  refine own_to T1 (mkF m 6 #[.val (.ref a1), .val (.ref a2)] [(.ref a2), (.ref a1)]) (fun tq kq => st1 _ (XS.aloadN X1.here hx rfl (hb hby d13_4) rfl rfl (XS.aloadN X1.here hx rfl (hb hby d13_5) rfl rfl kq))) ?_
  obtain ⟨T2, h2, X2, e2, W2, st2⟩ := putF X1 hx hZ hown (host := "") (Or.inl (own_w hw 60 rfl)) Via.refl e1 Fv1 Ea1 (Or.inr ⟨(own_w hw 61 rfl), rfl, hnm⟩) (own_w hw 6 rfl) (ty := (.object "java/lang/String")) (by decide) rfl rfl (g := (mkF m 6 #[.val (.ref a1), .val (.ref a2)] [(.ref a2), (.ref a1)])) rfl rfl (hb hby d13_6)
  have f3 := Ea1.wr W2
  have f4 := Fp1.other W2 (Or.inr (sn_position_value hw))
  have f5 := Fv1.same W2
  have N2 := Fr.snoc X2 (Fr.nil n0) g_a1
  have Zs2 : n0 ≤ h2.size := by rw [W2.size]; exact Z0
  have K2 := K0.wr W2 (Or.inl (List.mem_of_getElem? (i := 0) rfl))
  refine own_to T2 (mkF m 9 #[.val (.ref a1), .val (.ref a2)] []) (fun tq kq => st2 _ kq) ?_
  exact own_retV X2 hx hret hlk (hb hby d13_9) (by decide) (by decide) (by rw [e2]; exact ⟨rfl, N2, K2, f3, f5, f4⟩)
theorem d38_0 : decode prog_11_method_2_code 0 = .ok (.aload_n 0, 1) := by decide +kernel
theorem d38_1 : decode prog_11_method_2_code 1 = .ok (.getfield 13, 3) := by decide +kernel
theorem d38_4 : decode prog_11_method_2_code 4 = .ok (.aload_n 0, 1) := by decide +kernel
theorem d38_5 : decode prog_11_method_2_code 5 = .ok (.getfield 7, 3) := by decide +kernel
theorem d38_8 : decode prog_11_method_2_code 8 = .ok (.invokevirtual 17, 3) := by decide +kernel
theorem d38_11 : decode prog_11_method_2_code 11 = .ok (.if_icmp .lt 7, 3) := by decide +kernel
theorem d38_14 : decode prog_11_method_2_code 14 = .ok (.iconst 1, 1) := by decide +kernel
theorem d38_15 : decode prog_11_method_2_code 15 = .ok (.goto 4, 3) := by decide +kernel
theorem d38_18 : decode prog_11_method_2_code 18 = .ok (.iconst 0, 1) := by decide +kernel
theorem d38_19 : decode prog_11_method_2_code 19 = .ok (.ireturn, 1) := by decide +kernel
theorem ef_38_R (m : MethodId) (x0 : Addr) : entryFrame m #[(.ref x0)] 1 = mkF m 0 #[.val (.ref x0)] [] := by first | (simp [entryFrame, mkF, argsToLocals, Value.category]; done) | rfl
def Q_rmEnd (Z : State) (a1 a2 t2 : Addr) (q : Nat) (f cc : Nat → Int32) (G1 : Int32) (h0 : Heap) (n0 : Nat) (v : Option Value) (h : Heap) (L : List Loc) : Prop := v = some (.int (own_end q 7)) ∧ Fr n0 L ∧ h = h0
set_option maxRecDepth 65536 in
set_option maxHeartbeats 40000000 in
theorem rmEnd (l : Launch) (Z : State) (a0 : Array Value) (hw : ∀ d ∈ tables_1, d.before a0 Z = true) (ws : List Jvm.Cond) (a1 a2 t2 : Addr) (q : Nat) (f cc : Nat → Int32) (G1 : Int32) (h0 : Heap) (n0 : Nat) (Z0 : n0 ≤ h0.size) (O2 : Sta Z h0 "java/lang/String" "COMPACT_STRINGS" "Z" (.int G1)) (hG : ¬ G1 = (0 : Int32)) (Fv1 : Fld Z h0 a1 "com/example/wayline/wayline/HeaderReader" "value" "Ljava/lang/String;" (.ref a2)) (Fp1 : Fld Z h0 a1 "com/example/wayline/wayline/HeaderReader" "position" "I" (.int (Int32.ofNat q))) (Ea2 : Exa Z h0 a2 "java/lang/String") (Fa2 : Fld Z h0 a2 "java/lang/String" "value" "[B" (.ref t2)) (Ca2 : Fld Z h0 a2 "java/lang/String" "coder" "B" (.int (1 : Int32))) (Aa2 : BArr Z h0 t2 14 f) (hu : own_U f 7 14 cc) (hq' : q < 100) :
    MetFree l (⟨"com/example/wayline/wayline/HeaderReader", "atEnd", "()Z"⟩ : MethodName) (head1 (Jvm.Cond.code (⟨"com/example/wayline/wayline/HeaderReader", "atEnd", "()Z"⟩ : MethodName) prog_11_method_2_code 1 (some .boolean) :: ws) ({ frames := 2, cells := 0, slots := 0, locals := 26 } : Room)) (fun a U => a = #[(.ref a1)] ∧ Z.Warmed39 U.vm ∧ U.heap = h0) (fun _ _ _ _ _ => True) (fun _ U o U' => ∃ v L, o = .returned v ∧ Q_rmEnd Z a1 a2 t2 q f cc G1 h0 n0 v U'.heap L ∧ FrameEnd U o U' L ({ frames := 2, cells := 0, slots := 0, locals := 26 } : Room).cells ({ frames := 2, cells := 0, slots := 0, locals := 26 } : Room).slots) := by
  refine own_met (y := (⟨"com/example/wayline/wayline/HeaderReader", "atEnd", "()Z"⟩ : MethodName)) (Q := (Q_rmEnd Z a1 a2 t2 q f cc G1 h0 n0)) (plainFor_of_name pn_13) fun p e s m below meth c s₁ X0 hx hby hml hret hlk hown hnm hZ e0 => ?_
  refine own_entry (ef_38_R m a1) ?_
  refine own_to s₁ (mkF m 1 #[.val (.ref a1)] [(.ref a1)]) (fun tq kq => XS.aloadN X0.here hx rfl (hb hby d38_0) rfl rfl kq) ?_
  obtain ⟨T1, X1, e1, st1⟩ := getF X0 hx hZ hown (host := "") (Or.inl (own_w hw 67 rfl)) Via.refl e0 Fp1 (g := (mkF m 1 #[.val (.ref a1)] [(.ref a1)])) rfl rfl (hb hby d38_1)
  refine own_to T1 (mkF m 5 #[.val (.ref a1)] [(.ref a1), (.int (Int32.ofNat q))]) (fun tq kq => st1 _ (XS.aloadN X1.here hx rfl (hb hby d38_4) rfl rfl kq)) ?_
  obtain ⟨T2, X2, e2, st2⟩ := getF X1 hx hZ hown (host := "") (Or.inl (own_w hw 60 rfl)) Via.refl e1 Fv1 (g := (mkF m 5 #[.val (.ref a1)] [(.ref a1), (.int (Int32.ofNat q))])) rfl rfl (hb hby d38_5)
  refine own_to T2 (mkF m 8 #[.val (.ref a1)] [(.ref a2), (.int (Int32.ofNat q))]) (fun tq kq => st2 _ kq) ?_
  obtain ⟨cq3, kq3, q3a, q3b, q3c⟩ := isOf hZ e2 Ea2
  obtain ⟨_, _, ⟨T3, L3, k3, n3⟩, -, X3, ⟨Lc3, hQ3, l3, y3, z3⟩, st3⟩ := X2.virtualBack hx (y := (⟨"java/lang/String", "length", "()I"⟩ : MethodName)) (z := (⟨"java/lang/String", "length", "()I"⟩ : MethodName)) hown (mvT hZ (own_w hw 164 rfl)) (mvT hZ (own_w hw 80 rfl)) (notFace_of_selects (args := #[]) (mvT hZ (own_w hw 82 rfl))) (mvT hZ (own_w hw 82 rfl)) (mvT hZ (own_w hw 81 rfl)) (by decide) (backOf (W := 1) (rmLen1 l Z a0 hw [] a2 t2 7 f G1 h0 n0 Z0 O2 hG Ea2 Fa2 Ca2 Aa2 (by decide)) hZ (own_w hw 83 rfl) (own_w hw 10 rfl) (by decide) (by decide)) q3a q3c (g := (mkF m 8 #[.val (.ref a1)] [(.ref a2), (.int (Int32.ofNat q))])) rfl (by rw [hml]; rfl) (Steps.refl _) (argsL := []) (rest := [(.int (Int32.ofNat q))]) (lenOf pd_15 rfl) rfl (by show 2 * 0 + _ ≤ _; exact Nat.le_of_eq rfl) (hb hby d38_8) (fun _ _ => ⟨rfl, e2, (by decide : 0 + 0 ≤ _), (by decide : 0 + 0 ≤ _)⟩)
  dsimp only [Pt.U, Pt.locs, Pt.cells, Pt.slots] at X3 l3 y3 z3 st3 hQ3
  have l3y := l3.symm
  clear l3
  subst l3y
  obtain rfl : k3 = 0 := y3
  obtain rfl : n3 = 0 := z3
  obtain ⟨rfl, N3q, e3⟩ := hQ3
  have N3 := Fr.app (Fr.nil n0) N3q
  refine own_to T3 (mkF m 11 #[.val (.ref a1)] [(.int (Int32.ofNat 7)), (.int (Int32.ofNat q))]) (fun tq kq => st3.trans kq) ?_
  by_cases c11 : (Int32.ofNat q) < (Int32.ofNat 7)
  · skip
    refine own_to T3 (mkF m 19 #[.val (.ref a1)] [(.int (0 : Int32))]) (fun tq kq => XS.icmpYes X3.here hx rfl (pc0 := 11) (pc' := 18) rfl (hb hby d38_11) rfl (tlt c11).1 (by decide) (by decide) (XS.iconst X3.here hx rfl (hb hby d38_18) kq)) ?_
    exact own_retZ X3 hx hret hlk (hb hby d38_19) (by decide) (by decide) (Or.inl rfl) ⟨congrArg (fun z => some (Value.int z)) (show own_end q 7 = (0 : Int32) from if_pos ((own_ltn (by omega) (by omega)).mp c11)).symm, N3, e3⟩
  · skip
    refine own_to T3 (mkF m 19 #[.val (.ref a1)] [(.int (1 : Int32))]) (fun tq kq => XS.icmpNo X3.here hx rfl (hb hby d38_11) rfl (flt c11).1 (XS.iconst X3.here hx rfl (hb hby d38_14) (XS.goto X3.here hx rfl (pc0 := 15) (pc' := 19) rfl (hb hby d38_15) (by decide) (by decide) kq))) ?_
    exact own_retZ X3 hx hret hlk (hb hby d38_19) (by decide) (by decide) (Or.inr rfl) ⟨congrArg (fun z => some (Value.int z)) (show own_end q 7 = (1 : Int32) from if_neg (mt (own_ltn (by omega) (by omega)).mpr c11)).symm, N3, e3⟩
theorem d37_0 : decode prog_11_method_14_code 0 = .ok (.aload_n 0, 1) := by decide +kernel
theorem d37_1 : decode prog_11_method_14_code 1 = .ok (.invokevirtual 30, 3) := by decide +kernel
theorem d37_4 : decode prog_11_method_14_code 4 = .ok (.ifCond .ne 48, 3) := by decide +kernel
theorem d37_7 : decode prog_11_method_14_code 7 = .ok (.aload_n 0, 1) := by decide +kernel
theorem d37_8 : decode prog_11_method_14_code 8 = .ok (.getfield 7, 3) := by decide +kernel
theorem d37_11 : decode prog_11_method_14_code 11 = .ok (.aload_n 0, 1) := by decide +kernel
theorem d37_12 : decode prog_11_method_14_code 12 = .ok (.getfield 13, 3) := by decide +kernel
theorem d37_15 : decode prog_11_method_14_code 15 = .ok (.invokevirtual 34, 3) := by decide +kernel
theorem d37_18 : decode prog_11_method_14_code 18 = .ok (.bipush 32, 2) := by decide +kernel
theorem d37_20 : decode prog_11_method_14_code 20 = .ok (.if_icmp .eq 19, 3) := by decide +kernel
theorem d37_23 : decode prog_11_method_14_code 23 = .ok (.aload_n 0, 1) := by decide +kernel
theorem d37_24 : decode prog_11_method_14_code 24 = .ok (.getfield 7, 3) := by decide +kernel
theorem d37_27 : decode prog_11_method_14_code 27 = .ok (.aload_n 0, 1) := by decide +kernel
theorem d37_28 : decode prog_11_method_14_code 28 = .ok (.getfield 13, 3) := by decide +kernel
theorem d37_31 : decode prog_11_method_14_code 31 = .ok (.invokevirtual 34, 3) := by decide +kernel
theorem d37_34 : decode prog_11_method_14_code 34 = .ok (.bipush 9, 2) := by decide +kernel
theorem d37_36 : decode prog_11_method_14_code 36 = .ok (.if_icmp .ne 16, 3) := by decide +kernel
theorem d37_39 : decode prog_11_method_14_code 39 = .ok (.aload_n 0, 1) := by decide +kernel
theorem d37_40 : decode prog_11_method_14_code 40 = .ok (.dup, 1) := by decide +kernel
theorem d37_41 : decode prog_11_method_14_code 41 = .ok (.getfield 13, 3) := by decide +kernel
theorem d37_44 : decode prog_11_method_14_code 44 = .ok (.iconst 1, 1) := by decide +kernel
theorem d37_45 : decode prog_11_method_14_code 45 = .ok (.iadd, 1) := by decide +kernel
theorem d37_46 : decode prog_11_method_14_code 46 = .ok (.putfield 13, 3) := by decide +kernel
theorem d37_49 : decode prog_11_method_14_code 49 = .ok (.goto (-49), 3) := by decide +kernel
theorem d37_52 : decode prog_11_method_14_code 52 = .ok (.return_, 1) := by decide +kernel
theorem ef_37_R (m : MethodId) (x0 : Addr) : entryFrame m #[(.ref x0)] 1 = mkF m 0 #[.val (.ref x0)] [] := by first | (simp [entryFrame, mkF, argsToLocals, Value.category]; done) | rfl
def Q_rmSkip (Z : State) (a1 a2 t2 : Addr) (q : Nat) (f cc : Nat → Int32) (G1 : Int32) (vF : Value) (h0 : Heap) (n0 : Nat) (v : Option Value) (h : Heap) (L : List Loc) : Prop := v = none ∧ Fr n0 L ∧ Keep h0 h [a1] ∧ Exa Z h a1 "com/example/wayline/wayline/HeaderReader" ∧ Fld Z h a1 "com/example/wayline/wayline/HeaderReader" "value" "Ljava/lang/String;" (.ref a2) ∧ ∃ q', q ≤ q' ∧ q' ≤ 7 ∧ Fld Z h a1 "com/example/wayline/wayline/HeaderReader" "position" "I" (.int (Int32.ofNat q')) ∧ (∀ i, q ≤ i → i < q' → own_ws (cc i)) ∧ (q' < 7 → ¬ own_ws (cc q'))
theorem pd_0 : parseMethodDescriptor "(I)C" = some ⟨[.int], some .char⟩ := by decide +kernel
theorem sn_value_position {Z : State} {a0 : Array Value} (hw : ∀ d ∈ tables_1, d.before a0 Z = true) : Jvm.RoadKit.slotOf Z "com/example/wayline/wayline/HeaderReader" "value" "Ljava/lang/String;" ≠ Jvm.RoadKit.slotOf Z "com/example/wayline/wayline/HeaderReader" "position" "I" := Jvm.RoadKit.slot_ne (a0 := a0) (Or.inr (own_w hw 61 rfl)) (Or.inl (own_w hw 68 rfl)) (by decide) (t := (.object "java/lang/String")) (t' := .int) (by decide) (by decide)
set_option maxRecDepth 65536 in
set_option maxHeartbeats 40000000 in
theorem rmSkip (l : Launch) (Z : State) (a0 : Array Value) (hw : ∀ d ∈ tables_1, d.before a0 Z = true) (ws : List Jvm.Cond) (a1 a2 t2 : Addr) (q : Nat) (f cc : Nat → Int32) (G1 : Int32) (vF : Value) (h0 : Heap) (n0 : Nat) (Z0 : n0 ≤ h0.size) (O2 : Sta Z h0 "java/lang/String" "COMPACT_STRINGS" "Z" (.int G1)) (hG : ¬ G1 = (0 : Int32)) (O4 : Sta Z h0 "jdk/internal/util/Preconditions" "SIOOBE_FORMATTER" "Ljava/util/function/BiFunction;" vF) (hvF : vF.isRef = true) (OA : Sta Z h0 "java/lang/StringUTF16" "$assertionsDisabled" "Z" (.int (1 : Int32))) (OH : Sta Z h0 "java/lang/StringUTF16" "HI_BYTE_SHIFT" "I" (.int (0 : Int32))) (OL : Sta Z h0 "java/lang/StringUTF16" "LO_BYTE_SHIFT" "I" (.int (8 : Int32))) (Ea1 : Exa Z h0 a1 "com/example/wayline/wayline/HeaderReader") (Fv1 : Fld Z h0 a1 "com/example/wayline/wayline/HeaderReader" "value" "Ljava/lang/String;" (.ref a2)) (Fp1 : Fld Z h0 a1 "com/example/wayline/wayline/HeaderReader" "position" "I" (.int (Int32.ofNat q))) (Ea2 : Exa Z h0 a2 "java/lang/String") (Fa2 : Fld Z h0 a2 "java/lang/String" "value" "[B" (.ref t2)) (Ca2 : Fld Z h0 a2 "java/lang/String" "coder" "B" (.int (1 : Int32))) (Aa2 : BArr Z h0 t2 14 f) (hu : own_U f 7 14 cc) (hqn : q ≤ 7) (ne2 : a1 ≠ a2) (net : a1 ≠ t2) (g_a1 : n0 ≤ a1) :
    MetFree l (⟨"com/example/wayline/wayline/HeaderReader", "skipWhiteSpace", "()V"⟩ : MethodName) (head1 (Jvm.Cond.code (⟨"com/example/wayline/wayline/HeaderReader", "skipWhiteSpace", "()V"⟩ : MethodName) prog_11_method_14_code 1 none :: ws) ({ frames := 5, cells := 0, slots := 0, locals := 90 } : Room)) (fun a U => a = #[(.ref a1)] ∧ Z.Warmed39 U.vm ∧ U.heap = h0) (fun _ _ _ _ _ => True) (fun _ U o U' => ∃ v L, o = .returned v ∧ Q_rmSkip Z a1 a2 t2 q f cc G1 vF h0 n0 v U'.heap L ∧ FrameEnd U o U' L ({ frames := 5, cells := 0, slots := 0, locals := 90 } : Room).cells ({ frames := 5, cells := 0, slots := 0, locals := 90 } : Room).slots) := by
  refine own_met (y := (⟨"com/example/wayline/wayline/HeaderReader", "skipWhiteSpace", "()V"⟩ : MethodName)) (Q := (Q_rmSkip Z a1 a2 t2 q f cc G1 vF h0 n0)) (plainFor_of_name pn_13) fun p e s m below meth c s₁ X0 hx hby hml hret hlk hown hnm hZ e0 => ?_
  refine own_entry (ef_37_R m a1) ?_
  have loop : ∀ (k1 q1 : Nat) (T1 : State) (h1 : Heap) (L1 : List Loc), q1 + k1 = 7 → q ≤ q1 → (∀ i, q ≤ i → i < q1 → own_ws (cc i)) → Stand p l e ({ frames := 5, cells := 0, slots := 0, locals := 90 } : Room) s m #[(.ref a1)] below meth c T1 L1 0 0 → T1.heap = h1 → Fr n0 L1 → n0 ≤ h1.size → Keep h0 h1 [a1] → Exa Z h1 a1 "com/example/wayline/wayline/HeaderReader" → Fld Z h1 a1 "com/example/wayline/wayline/HeaderReader" "value" "Ljava/lang/String;" (.ref a2) → Fld Z h1 a1 "com/example/wayline/wayline/HeaderReader" "position" "I" (.int (Int32.ofNat q1)) → Exa Z h1 a2 "java/lang/String" → Fld Z h1 a2 "java/lang/String" "value" "[B" (.ref t2) → Fld Z h1 a2 "java/lang/String" "coder" "B" (.int (1 : Int32)) → BArr Z h1 t2 14 f → Sta Z h1 "java/lang/String" "COMPACT_STRINGS" "Z" (.int G1) → Sta Z h1 "jdk/internal/util/Preconditions" "SIOOBE_FORMATTER" "Ljava/util/function/BiFunction;" vF → Sta Z h1 "java/lang/StringUTF16" "$assertionsDisabled" "Z" (.int (1 : Int32)) → Sta Z h1 "java/lang/StringUTF16" "HI_BYTE_SHIFT" "I" (.int (0 : Int32)) → Sta Z h1 "java/lang/StringUTF16" "LO_BYTE_SHIFT" "I" (.int (8 : Int32)) → Own p e below s ({ frames := 5, cells := 0, slots := 0, locals := 90 } : Room).cells ({ frames := 5, cells := 0, slots := 0, locals := 90 } : Room).slots (Q_rmSkip Z a1 a2 t2 q f cc G1 vF h0 n0) T1 (mkF m 0 #[.val (.ref a1)] []) := by
    intro k1
    induction k1 with
    | zero =>
      intro q1 T1 h1 L1 hqk hle hall X1 e1 N1 Z1 K1 Ea1' Fv1' Fp1' Ea2' Fa2' Ca2' Aa2' O2' O4' OA' OH' OL'
      refine own_to T1 (mkF m 1 #[.val (.ref a1)] [(.ref a1)]) (fun tq kq => XS.aloadN X1.here hx rfl (hb hby d37_0) rfl rfl kq) ?_
      obtain ⟨cq1, kq1, q1a, q1b, q1c⟩ := isOf hZ e1 Ea1'
      obtain ⟨_, _, ⟨T1, L1, k1, n1⟩, -, X1, ⟨Lc1, hQ1, l1, y1, z1⟩, st1⟩ := X1.virtualBack hx (y := (⟨"com/example/wayline/wayline/HeaderReader", "atEnd", "()Z"⟩ : MethodName)) (z := (⟨"com/example/wayline/wayline/HeaderReader", "atEnd", "()Z"⟩ : MethodName)) hown (mvT hZ (own_w hw 159 rfl)) (mvT hZ (own_w hw 160 rfl)) (notFace_of_selects (args := #[]) (mvT hZ (own_w hw 162 rfl))) (mvT hZ (own_w hw 162 rfl)) (mvT hZ (own_w hw 161 rfl)) (by decide) (backOf (W := 0) (rmEnd l Z a0 hw [] a1 a2 t2 q1 f cc G1 h1 n0 Z1 O2' hG Fv1' Fp1' Ea2' Fa2' Ca2' Aa2' hu (by omega)) hZ (own_w hw 163 rfl) (own_w hw 7 rfl) (by decide) (by decide)) q1a q1c (g := (mkF m 1 #[.val (.ref a1)] [(.ref a1)])) rfl (by rw [hml]; rfl) (Steps.refl _) (argsL := []) (rest := []) (lenOf pd_14 rfl) rfl (by show 2 * 0 + _ ≤ _; exact Nat.le_of_eq rfl) (hb hby d37_1) (fun _ _ => ⟨rfl, e1, (by decide : 0 + 0 ≤ _), (by decide : 0 + 0 ≤ _)⟩)
      dsimp only [Pt.U, Pt.locs, Pt.cells, Pt.slots] at X1 l1 y1 z1 st1 hQ1
      have l1y := l1.symm
      clear l1
      subst l1y
      obtain rfl : k1 = 0 := y1
      obtain rfl : n1 = 0 := z1
      obtain ⟨rfl, N1q, e1⟩ := hQ1
      have N1 := Fr.app N1 N1q
      refine own_to T1 (mkF m 4 #[.val (.ref a1)] [(.int (own_end q1 7))]) (fun tq kq => st1.trans kq) ?_
      rw [show own_end q1 7 = (1 : Int32) from if_neg (by omega)]
      refine own_to T1 (mkF m 52 #[.val (.ref a1)] []) (fun tq kq => XS.ifYes X1.here hx rfl (pc0 := 4) (pc' := 52) rfl (hb hby d37_4) rfl ((if0 _ _).trans (feq (by decide : ¬ ((1 : Int32) = (0 : Int32)))).2) (by decide) (by decide) kq) ?_
      exact own_retV X1 hx hret hlk (hb hby d37_52) (by decide) (by decide) (by rw [e1]; exact ⟨rfl, N1, K1, Ea1', Fv1', q1, hle, (by omega), Fp1', (fun i h1 h2 => hall i h1 h2), (fun z => absurd z (by omega))⟩)
    | succ k1 ih =>
      intro q1 T1 h1 L1 hqk hle hall X1 e1 N1 Z1 K1 Ea1' Fv1' Fp1' Ea2' Fa2' Ca2' Aa2' O2' O4' OA' OH' OL'
      refine own_to T1 (mkF m 1 #[.val (.ref a1)] [(.ref a1)]) (fun tq kq => XS.aloadN X1.here hx rfl (hb hby d37_0) rfl rfl kq) ?_
      obtain ⟨cq2, kq2, q2a, q2b, q2c⟩ := isOf hZ e1 Ea1'
      obtain ⟨_, _, ⟨T2, L2, k2, n2⟩, -, X2, ⟨Lc2, hQ2, l2, y2, z2⟩, st2⟩ := X1.virtualBack hx (y := (⟨"com/example/wayline/wayline/HeaderReader", "atEnd", "()Z"⟩ : MethodName)) (z := (⟨"com/example/wayline/wayline/HeaderReader", "atEnd", "()Z"⟩ : MethodName)) hown (mvT hZ (own_w hw 159 rfl)) (mvT hZ (own_w hw 160 rfl)) (notFace_of_selects (args := #[]) (mvT hZ (own_w hw 162 rfl))) (mvT hZ (own_w hw 162 rfl)) (mvT hZ (own_w hw 161 rfl)) (by decide) (backOf (W := 0) (rmEnd l Z a0 hw [] a1 a2 t2 q1 f cc G1 h1 n0 Z1 O2' hG Fv1' Fp1' Ea2' Fa2' Ca2' Aa2' hu (by omega)) hZ (own_w hw 163 rfl) (own_w hw 7 rfl) (by decide) (by decide)) q2a q2c (g := (mkF m 1 #[.val (.ref a1)] [(.ref a1)])) rfl (by rw [hml]; rfl) (Steps.refl _) (argsL := []) (rest := []) (lenOf pd_14 rfl) rfl (by show 2 * 0 + _ ≤ _; exact Nat.le_of_eq rfl) (hb hby d37_1) (fun _ _ => ⟨rfl, e1, (by decide : 0 + 0 ≤ _), (by decide : 0 + 0 ≤ _)⟩)
      dsimp only [Pt.U, Pt.locs, Pt.cells, Pt.slots] at X2 l2 y2 z2 st2 hQ2
      have l2y := l2.symm
      clear l2
      subst l2y
      obtain rfl : k2 = 0 := y2
      obtain rfl : n2 = 0 := z2
      obtain ⟨rfl, N2q, e2⟩ := hQ2
      have N2 := Fr.app N1 N2q
      refine own_to T2 (mkF m 4 #[.val (.ref a1)] [(.int (own_end q1 7))]) (fun tq kq => st2.trans kq) ?_
      rw [show own_end q1 7 = (0 : Int32) from if_pos (by omega)]
      refine own_to T2 (mkF m 8 #[.val (.ref a1)] [(.ref a1)]) (fun tq kq => XS.ifNo X2.here hx rfl (hb hby d37_4) rfl ((if0 _ _).trans (teq (by decide : (0 : Int32) = (0 : Int32))).2) (XS.aloadN X2.here hx rfl (hb hby d37_7) rfl rfl kq)) ?_
      obtain ⟨T3, X3, e3, st3⟩ := getF X2 hx hZ hown (host := "") (Or.inl (own_w hw 60 rfl)) Via.refl e2 Fv1' (g := (mkF m 8 #[.val (.ref a1)] [(.ref a1)])) rfl rfl (hb hby d37_8)
      refine own_to T3 (mkF m 12 #[.val (.ref a1)] [(.ref a1), (.ref a2)]) (fun tq kq => st3 _ (XS.aloadN X3.here hx rfl (hb hby d37_11) rfl rfl kq)) ?_
      obtain ⟨T4, X4, e4, st4⟩ := getF X3 hx hZ hown (host := "") (Or.inl (own_w hw 67 rfl)) Via.refl e3 Fp1' (g := (mkF m 12 #[.val (.ref a1)] [(.ref a1), (.ref a2)])) rfl rfl (hb hby d37_12)
      refine own_to T4 (mkF m 15 #[.val (.ref a1)] [(.int (Int32.ofNat q1)), (.ref a2)]) (fun tq kq => st4 _ kq) ?_
      obtain ⟨cq5, kq5, q5a, q5b, q5c⟩ := isOf hZ e4 Ea2'
      obtain ⟨_, _, ⟨T5, L5, k5, n5⟩, -, X5, ⟨Lc5, hQ5, l5, y5, z5⟩, st5⟩ := X4.virtualBack hx (y := (⟨"java/lang/String", "charAt", "(I)C"⟩ : MethodName)) (z := (⟨"java/lang/String", "charAt", "(I)C"⟩ : MethodName)) hown (mvT hZ (own_w hw 165 rfl)) (mvT hZ (own_w hw 166 rfl)) (notFace_of_selects (args := #[]) (mvT hZ (own_w hw 168 rfl))) (mvT hZ (own_w hw 168 rfl)) (mvT hZ (own_w hw 167 rfl)) (by decide) (backOf (W := 0) (rmCh1 l Z a0 hw [] a2 t2 q1 f cc G1 vF h1 n0 Z1 O2' hG O4' hvF OA' OH' OL' Ea2' Fa2' Ca2' Aa2' hu (by omega)) hZ (own_w hw 169 rfl) (own_w hw 10 rfl) (by decide) (by decide)) q5a q5c (g := (mkF m 15 #[.val (.ref a1)] [(.int (Int32.ofNat q1)), (.ref a2)])) rfl (by rw [hml]; rfl) (Steps.refl _) (argsL := [(.int (Int32.ofNat q1))]) (rest := []) (lenOf pd_0 rfl) rfl (by show 2 * 0 + _ ≤ _; exact Nat.le_of_eq rfl) (hb hby d37_15) (fun _ _ => ⟨rfl, e4, (by decide : 0 + 0 ≤ _), (by decide : 0 + 0 ≤ _)⟩)
      dsimp only [Pt.U, Pt.locs, Pt.cells, Pt.slots] at X5 l5 y5 z5 st5 hQ5
      have l5y := l5.symm
      clear l5
      subst l5y
      obtain rfl : k5 = 0 := y5
      obtain rfl : n5 = 0 := z5
      obtain ⟨rfl, N5q, e5⟩ := hQ5
      have N5 := Fr.app N2 N5q
      refine own_to T5 (mkF m 20 #[.val (.ref a1)] [(.int (32 : Int32)), (.int (cc q1))]) (fun tq kq => st5.trans (XS.bipush X5.here hx rfl (hb hby d37_18) kq)) ?_
      by_cases c20 : (cc q1) = (32 : Int32)
      · skip
        refine own_to T5 (mkF m 41 #[.val (.ref a1)] [(.ref a1), (.ref a1)]) (fun tq kq => XS.icmpYes X5.here hx rfl (pc0 := 20) (pc' := 39) rfl (hb hby d37_20) rfl (teq c20).1 (by decide) (by decide) (XS.aloadN X5.here hx rfl (hb hby d37_39) rfl rfl (XS.dup X5.here hx rfl (hb hby d37_40) rfl rfl kq))) ?_
        obtain ⟨T6, X6, e6, st6⟩ := getF X5 hx hZ hown (host := "") (Or.inl (own_w hw 67 rfl)) Via.refl e5 Fp1' (g := (mkF m 41 #[.val (.ref a1)] [(.ref a1), (.ref a1)])) rfl rfl (hb hby d37_41)
        refine own_to T6 (mkF m 46 #[.val (.ref a1)] [(.int ((Int32.ofNat q1) + (1 : Int32))), (.ref a1)]) (fun tq kq => st6 _ (XS.iconst X6.here hx rfl (hb hby d37_44) (XS.iadd X6.here hx rfl (hb hby d37_45) rfl kq))) ?_
        rw [show ((Int32.ofNat q1) + (1 : Int32)) = (Int32.ofNat (q1 + 1)) from own_addn q1 1 (by omega) (by decide)]
        obtain ⟨T7, h7, X7, e7, W7, st7⟩ := putF X6 hx hZ hown (host := "") (Or.inl (own_w hw 67 rfl)) Via.refl e6 Fp1' Ea1' (Or.inl (own_w hw 68 rfl)) (own_w hw 6 rfl) (ty := .int) (by decide) rfl rfl (g := (mkF m 46 #[.val (.ref a1)] [(.int (Int32.ofNat (q1 + 1))), (.ref a1)])) rfl rfl (hb hby d37_46)
        have f8 := Ea1'.wr W7
        have f9 := Fv1'.other W7 (Or.inr (sn_value_position hw))
        have f10 := O2'.wr W7
        have f11 := O4'.wr W7
        have f12 := OA'.wr W7
        have f13 := OH'.wr W7
        have f14 := OL'.wr W7
        have f15 := Ea2'.wr W7
        have f16 := Fa2'.other W7 (Or.inl (Ne.symm ne2))
        have f17 := Ca2'.other W7 (Or.inl (Ne.symm ne2))
        have f18 := Aa2'.other W7 (Ne.symm net)
        have f19 := Fp1'.same W7
        have N7 := Fr.snoc X7 N5 g_a1
        have Zs7 : n0 ≤ h7.size := by rw [W7.size]; exact Z1
        have K7 := K1.wr W7 (Or.inl (List.mem_of_getElem? (i := 0) rfl))
        refine own_to T7 (mkF m 0 #[.val (.ref a1)] []) (fun tq kq => st7 _ (XS.goto X7.here hx rfl (pc0 := 49) (pc' := 0) rfl (hb hby d37_49) (by decide) (by decide) kq)) ?_
        refine ih (q1 + 1) _ _ _ (by omega) (by omega) (fun i h1 h2 => ?_) X7 e7 N7 Zs7 K7 f8 f9 f19 f15 f16 f17 f18 f10 f11 f12 f13 f14
        by_cases hiq : i = q1
        · subst hiq; exact (Or.inl c20)
        · exact hall i h1 (by omega)
      · skip
        refine own_to T5 (mkF m 24 #[.val (.ref a1)] [(.ref a1)]) (fun tq kq => XS.icmpNo X5.here hx rfl (hb hby d37_20) rfl (feq c20).1 (XS.aloadN X5.here hx rfl (hb hby d37_23) rfl rfl kq)) ?_
        obtain ⟨T20, X20, e20, st20⟩ := getF X5 hx hZ hown (host := "") (Or.inl (own_w hw 60 rfl)) Via.refl e5 Fv1' (g := (mkF m 24 #[.val (.ref a1)] [(.ref a1)])) rfl rfl (hb hby d37_24)
        refine own_to T20 (mkF m 28 #[.val (.ref a1)] [(.ref a1), (.ref a2)]) (fun tq kq => st20 _ (XS.aloadN X20.here hx rfl (hb hby d37_27) rfl rfl kq)) ?_
        obtain ⟨T21, X21, e21, st21⟩ := getF X20 hx hZ hown (host := "") (Or.inl (own_w hw 67 rfl)) Via.refl e20 Fp1' (g := (mkF m 28 #[.val (.ref a1)] [(.ref a1), (.ref a2)])) rfl rfl (hb hby d37_28)
        refine own_to T21 (mkF m 31 #[.val (.ref a1)] [(.int (Int32.ofNat q1)), (.ref a2)]) (fun tq kq => st21 _ kq) ?_
        obtain ⟨cq22, kq22, q22a, q22b, q22c⟩ := isOf hZ e21 Ea2'
        obtain ⟨_, _, ⟨T22, L22, k22, n22⟩, -, X22, ⟨Lc22, hQ22, l22, y22, z22⟩, st22⟩ := X21.virtualBack hx (y := (⟨"java/lang/String", "charAt", "(I)C"⟩ : MethodName)) (z := (⟨"java/lang/String", "charAt", "(I)C"⟩ : MethodName)) hown (mvT hZ (own_w hw 165 rfl)) (mvT hZ (own_w hw 166 rfl)) (notFace_of_selects (args := #[]) (mvT hZ (own_w hw 168 rfl))) (mvT hZ (own_w hw 168 rfl)) (mvT hZ (own_w hw 167 rfl)) (by decide) (backOf (W := 0) (rmCh1 l Z a0 hw [] a2 t2 q1 f cc G1 vF h1 n0 Z1 O2' hG O4' hvF OA' OH' OL' Ea2' Fa2' Ca2' Aa2' hu (by omega)) hZ (own_w hw 169 rfl) (own_w hw 10 rfl) (by decide) (by decide)) q22a q22c (g := (mkF m 31 #[.val (.ref a1)] [(.int (Int32.ofNat q1)), (.ref a2)])) rfl (by rw [hml]; rfl) (Steps.refl _) (argsL := [(.int (Int32.ofNat q1))]) (rest := []) (lenOf pd_0 rfl) rfl (by show 2 * 0 + _ ≤ _; exact Nat.le_of_eq rfl) (hb hby d37_31) (fun _ _ => ⟨rfl, e21, (by decide : 0 + 0 ≤ _), (by decide : 0 + 0 ≤ _)⟩)
        dsimp only [Pt.U, Pt.locs, Pt.cells, Pt.slots] at X22 l22 y22 z22 st22 hQ22
        have l22y := l22.symm
        clear l22
        subst l22y
        obtain rfl : k22 = 0 := y22
        obtain rfl : n22 = 0 := z22
        obtain ⟨rfl, N22q, e22⟩ := hQ22
        have N22 := Fr.app N5 N22q
        refine own_to T22 (mkF m 36 #[.val (.ref a1)] [(.int (9 : Int32)), (.int (cc q1))]) (fun tq kq => st22.trans (XS.bipush X22.here hx rfl (hb hby d37_34) kq)) ?_
        by_cases c36 : (cc q1) = (9 : Int32)
        · skip
          refine own_to T22 (mkF m 41 #[.val (.ref a1)] [(.ref a1), (.ref a1)]) (fun tq kq => XS.icmpNo X22.here hx rfl (hb hby d37_36) rfl (teq c36).2 (XS.aloadN X22.here hx rfl (hb hby d37_39) rfl rfl (XS.dup X22.here hx rfl (hb hby d37_40) rfl rfl kq))) ?_
          obtain ⟨T23, X23, e23, st23⟩ := getF X22 hx hZ hown (host := "") (Or.inl (own_w hw 67 rfl)) Via.refl e22 Fp1' (g := (mkF m 41 #[.val (.ref a1)] [(.ref a1), (.ref a1)])) rfl rfl (hb hby d37_41)
          refine own_to T23 (mkF m 46 #[.val (.ref a1)] [(.int ((Int32.ofNat q1) + (1 : Int32))), (.ref a1)]) (fun tq kq => st23 _ (XS.iconst X23.here hx rfl (hb hby d37_44) (XS.iadd X23.here hx rfl (hb hby d37_45) rfl kq))) ?_
          rw [show ((Int32.ofNat q1) + (1 : Int32)) = (Int32.ofNat (q1 + 1)) from own_addn q1 1 (by omega) (by decide)]
          obtain ⟨T24, h24, X24, e24, W24, st24⟩ := putF X23 hx hZ hown (host := "") (Or.inl (own_w hw 67 rfl)) Via.refl e23 Fp1' Ea1' (Or.inl (own_w hw 68 rfl)) (own_w hw 6 rfl) (ty := .int) (by decide) rfl rfl (g := (mkF m 46 #[.val (.ref a1)] [(.int (Int32.ofNat (q1 + 1))), (.ref a1)])) rfl rfl (hb hby d37_46)
          have f25 := Ea1'.wr W24
          have f26 := Fv1'.other W24 (Or.inr (sn_value_position hw))
          have f27 := O2'.wr W24
          have f28 := O4'.wr W24
          have f29 := OA'.wr W24
          have f30 := OH'.wr W24
          have f31 := OL'.wr W24
          have f32 := Ea2'.wr W24
          have f33 := Fa2'.other W24 (Or.inl (Ne.symm ne2))
          have f34 := Ca2'.other W24 (Or.inl (Ne.symm ne2))
          have f35 := Aa2'.other W24 (Ne.symm net)
          have f36 := Fp1'.same W24
          have N24 := Fr.snoc X24 N22 g_a1
          have Zs24 : n0 ≤ h24.size := by rw [W24.size]; exact Z1
          have K24 := K1.wr W24 (Or.inl (List.mem_of_getElem? (i := 0) rfl))
          refine own_to T24 (mkF m 0 #[.val (.ref a1)] []) (fun tq kq => st24 _ (XS.goto X24.here hx rfl (pc0 := 49) (pc' := 0) rfl (hb hby d37_49) (by decide) (by decide) kq)) ?_
          refine ih (q1 + 1) _ _ _ (by omega) (by omega) (fun i h1 h2 => ?_) X24 e24 N24 Zs24 K24 f25 f26 f36 f32 f33 f34 f35 f27 f28 f29 f30 f31
          by_cases hiq : i = q1
          · subst hiq; exact (Or.inr c36)
          · exact hall i h1 (by omega)
        · skip
          refine own_to T22 (mkF m 52 #[.val (.ref a1)] []) (fun tq kq => XS.icmpYes X22.here hx rfl (pc0 := 36) (pc' := 52) rfl (hb hby d37_36) rfl (feq c36).2 (by decide) (by decide) kq) ?_
          exact own_retV X22 hx hret hlk (hb hby d37_52) (by decide) (by decide) (by rw [e22]; exact ⟨rfl, N22, K1, Ea1', Fv1', q1, hle, (by omega), Fp1', (fun i h1 h2 => hall i h1 h2), (fun _ z => z.elim c20 c36)⟩)
  exact loop (7 - q) q s₁ h0 [] (by omega) (Nat.le_refl _) (fun i h1 h2 => absurd h2 (by omega)) X0 e0 (Fr.nil n0) Z0 (Keep.refl h0 [a1]) Ea1 Fv1 Fp1 Ea2 Fa2 Ca2 Aa2 O2 O4 OA OH OL
theorem d14_0 : decode prog_11_method_11_code 0 = .ok (.aload_n 0, 1) := by decide +kernel
theorem d14_1 : decode prog_11_method_11_code 1 = .ok (.getfield 7, 3) := by decide +kernel
theorem d14_4 : decode prog_11_method_11_code 4 = .ok (.iload_n 1, 1) := by decide +kernel
theorem d14_5 : decode prog_11_method_11_code 5 = .ok (.aload_n 0, 1) := by decide +kernel
theorem d14_6 : decode prog_11_method_11_code 6 = .ok (.getfield 13, 3) := by decide +kernel
theorem d14_9 : decode prog_11_method_11_code 9 = .ok (.invokevirtual 77, 3) := by decide +kernel
theorem d14_12 : decode prog_11_method_11_code 12 = .ok (.istore_n 2, 1) := by decide +kernel
theorem d14_13 : decode prog_11_method_11_code 13 = .ok (.iload_n 2, 1) := by decide +kernel
theorem d14_14 : decode prog_11_method_11_code 14 = .ok (.ifCond .ge 18, 3) := by decide +kernel
theorem d14_17 : decode prog_11_method_11_code 17 = .ok (.aload_n 0, 1) := by decide +kernel
theorem d14_18 : decode prog_11_method_11_code 18 = .ok (.iload_n 1, 1) := by decide +kernel
theorem d14_19 : decode prog_11_method_11_code 19 = .ok (.aload_n 0, 1) := by decide +kernel
theorem d14_20 : decode prog_11_method_11_code 20 = .ok (.getfield 13, 3) := by decide +kernel
theorem d14_28 : decode prog_11_method_11_code 28 = .ok (.invokevirtual 49, 3) := by decide +kernel
theorem d14_32 : decode prog_11_method_11_code 32 = .ok (.aload_n 0, 1) := by decide +kernel
theorem d14_33 : decode prog_11_method_11_code 33 = .ok (.getfield 7, 3) := by decide +kernel
theorem d14_36 : decode prog_11_method_11_code 36 = .ok (.aload_n 0, 1) := by decide +kernel
theorem d14_37 : decode prog_11_method_11_code 37 = .ok (.getfield 13, 3) := by decide +kernel
theorem d14_40 : decode prog_11_method_11_code 40 = .ok (.iload_n 2, 1) := by decide +kernel
theorem d14_41 : decode prog_11_method_11_code 41 = .ok (.invokevirtual 59, 3) := by decide +kernel
theorem d14_44 : decode prog_11_method_11_code 44 = .ok (.astore_n 3, 1) := by decide +kernel
theorem d14_45 : decode prog_11_method_11_code 45 = .ok (.aload_n 0, 1) := by decide +kernel
theorem d14_46 : decode prog_11_method_11_code 46 = .ok (.iload_n 2, 1) := by decide +kernel
theorem d14_47 : decode prog_11_method_11_code 47 = .ok (.iconst 1, 1) := by decide +kernel
theorem d14_48 : decode prog_11_method_11_code 48 = .ok (.iadd, 1) := by decide +kernel
theorem d14_49 : decode prog_11_method_11_code 49 = .ok (.putfield 13, 3) := by decide +kernel
theorem d14_52 : decode prog_11_method_11_code 52 = .ok (.aload_n 3, 1) := by decide +kernel
theorem d14_53 : decode prog_11_method_11_code 53 = .ok (.areturn, 1) := by decide +kernel
theorem own_neA {Z : State} {h : Heap} {a b : Addr} {cl : Cell} {K : String} {a0 : Array Value} {k : Nat} (A : Arr Z h a cl .byte) (E : Exa Z h b K) (w : (Cond.instantiable K k).before a0 Z = true) : a ≠ b := fun q => by
  subst q
  obtain ⟨c2, k2, e1, e2, e3, -⟩ := E
  obtain ⟨A1, ⟨-, k3, e4, comp, e5⟩, -⟩ := A
  cases A1.symm.trans e1
  cases e4.symm.trans e3
  simp only [Cond.before, Cond.holds, Cond.value, e2, Option.bind_some, e3, Option.map_some] at w
  have ho : k2.kind = .ordinary := by
    simp only [beq_iff_eq, Option.some.injEq, Bool.and_eq_true, decide_eq_true_eq] at w; exact w.1.1.1
  rw [ho] at e5
  cases e5
theorem ef_14_RI (m : MethodId) (x0 : Addr) (x1 : Int32) : entryFrame m #[(.ref x0), (.int x1)] 4 = mkF m 0 #[.val (.ref x0), .val (.int x1), .unset, .unset] [] := by first | (simp [entryFrame, mkF, argsToLocals, Value.category]; done) | rfl
def Q_rmTB (Z : State) (a1 a2 t2 : Addr) (q j : Nat) (f cc : Nat → Int32) (ch G1 : Int32) (vF : Value) (h0 : Heap) (n0 : Nat) (v : Option Value) (h : Heap) (L : List Loc) : Prop := ∃ b t N g, v = some (.ref b) ∧ Fr n0 L ∧ Keep h0 h [a1] ∧ Exa Z h a1 "com/example/wayline/wayline/HeaderReader" ∧ Fld Z h a1 "com/example/wayline/wayline/HeaderReader" "value" "Ljava/lang/String;" (.ref a2) ∧ Fld Z h a1 "com/example/wayline/wayline/HeaderReader" "position" "I" (.int (Int32.ofNat (j + 1))) ∧ Exa Z h b "java/lang/String" ∧ Fld Z h b "java/lang/String" "value" "[B" (.ref t) ∧ BArr Z h t N g ∧ ((Fld Z h b "java/lang/String" "coder" "B" (.int (0 : Int32)) ∧ N = j - q) ∨ (Fld Z h b "java/lang/String" "coder" "B" (.int (1 : Int32)) ∧ N = 2 * (j - q)))
theorem pd_22 : parseMethodDescriptor "(II)Ljava/lang/String;" = some ⟨[.int, .int], some (.object "java/lang/String")⟩ := by decide +kernel
set_option maxRecDepth 65536 in
set_option maxHeartbeats 40000000 in
theorem rmTB (l : Launch) (Z : State) (a0 : Array Value) (hw : ∀ d ∈ tables_1, d.before a0 Z = true) (ws : List Jvm.Cond) (a1 a2 t2 : Addr) (q j : Nat) (f cc : Nat → Int32) (ch G1 : Int32) (vF : Value) (h0 : Heap) (n0 : Nat) (Z0 : n0 ≤ h0.size) (O2 : Sta Z h0 "java/lang/String" "COMPACT_STRINGS" "Z" (.int G1)) (hG : ¬ G1 = (0 : Int32)) (O4 : Sta Z h0 "jdk/internal/util/Preconditions" "SIOOBE_FORMATTER" "Ljava/util/function/BiFunction;" vF) (hvF : vF.isRef = true) (OA : Sta Z h0 "java/lang/StringUTF16" "$assertionsDisabled" "Z" (.int (1 : Int32))) (OH : Sta Z h0 "java/lang/StringUTF16" "HI_BYTE_SHIFT" "I" (.int (0 : Int32))) (OL : Sta Z h0 "java/lang/StringUTF16" "LO_BYTE_SHIFT" "I" (.int (8 : Int32))) (Ea1 : Exa Z h0 a1 "com/example/wayline/wayline/HeaderReader") (Fv1 : Fld Z h0 a1 "com/example/wayline/wayline/HeaderReader" "value" "Ljava/lang/String;" (.ref a2)) (Fp1 : Fld Z h0 a1 "com/example/wayline/wayline/HeaderReader" "position" "I" (.int (Int32.ofNat q))) (Ea2 : Exa Z h0 a2 "java/lang/String") (Fa2 : Fld Z h0 a2 "java/lang/String" "value" "[B" (.ref t2)) (Ca2 : Fld Z h0 a2 "java/lang/String" "coder" "B" (.int (1 : Int32))) (Aa2 : BArr Z h0 t2 14 f) (hu : own_U f 7 14 cc) (hch : ch < (65536 : Int32)) (hj : q ≤ j) (hjn : j ≤ 6) (hfj : cc j = ch) (hff : ∀ i, q ≤ i → i < j → ¬ cc i = ch) (g_a1 : n0 ≤ a1) (hEL : EW Z a0 consts_1) :
    MetFree l (⟨"com/example/wayline/wayline/HeaderReader", "textBefore", "(C)Ljava/lang/String;"⟩ : MethodName) (head1 (Jvm.Cond.code (⟨"com/example/wayline/wayline/HeaderReader", "textBefore", "(C)Ljava/lang/String;"⟩ : MethodName) prog_11_method_11_code 4 (some (.object "java/lang/String")) :: ws) ({ frames := 7, cells := 3, slots := 24, locals := 215 } : Room)) (fun a U => a = #[(.ref a1), (.int ch)] ∧ Z.Warmed39 U.vm ∧ U.heap = h0 ∧ CHv Z consts_1 U.vm h0) (fun _ _ _ _ _ => True) (fun _ U o U' => ∃ v L, o = .returned v ∧ Q_rmTB Z a1 a2 t2 q j f cc ch G1 vF h0 n0 v U'.heap L ∧ CHr Z consts_1 U.vm U.heap U'.vm U'.heap ∧ ReturnedEndW U o U' L ({ frames := 7, cells := 3, slots := 24, locals := 215 } : Room).cells ({ frames := 7, cells := 3, slots := 24, locals := 215 } : Room).slots) := by
  refine own_metH (EL := consts_1) (y := (⟨"com/example/wayline/wayline/HeaderReader", "textBefore", "(C)Ljava/lang/String;"⟩ : MethodName)) (Q := (Q_rmTB Z a1 a2 t2 q j f cc ch G1 vF h0 n0)) (plainFor_of_name pn_13) fun p e s m below meth c s₁ X0 hx hby hml hret hlk hown hnm hZ e0 hS C0 => ?_
  have hk := Nat.le_refl h0.size
  refine own_entryH (ef_14_RI m a1 ch) ?_
  have K0 := Keep.refl h0 [a1]
  refine own_toH s₁ (mkF m 1 #[.val (.ref a1), .val (.int ch), .unset, .unset] [(.ref a1)]) (fun tq kq => XS.aloadN X0.here hx rfl (hb hby d14_0) rfl rfl kq) ?_
  obtain ⟨T1, X1, e1, st1⟩ := getF X0 hx hZ hown (host := "") (Or.inl (own_w hw 60 rfl)) Via.refl e0 Fv1 (g := (mkF m 1 #[.val (.ref a1), .val (.int ch), .unset, .unset] [(.ref a1)])) rfl rfl (hb hby d14_1)
  refine own_toH T1 (mkF m 6 #[.val (.ref a1), .val (.int ch), .unset, .unset] [(.ref a1), (.int ch), (.ref a2)]) (fun tq kq => st1 _ (XS.iloadN X1.here hx rfl (hb hby d14_4) rfl (XS.aloadN X1.here hx rfl (hb hby d14_5) rfl rfl kq))) ?_
  obtain ⟨T2, X2, e2, st2⟩ := getF X1 hx hZ hown (host := "") (Or.inl (own_w hw 67 rfl)) Via.refl e1 Fp1 (g := (mkF m 6 #[.val (.ref a1), .val (.int ch), .unset, .unset] [(.ref a1), (.int ch), (.ref a2)])) rfl rfl (hb hby d14_6)
  refine own_toH T2 (mkF m 9 #[.val (.ref a1), .val (.int ch), .unset, .unset] [(.int (Int32.ofNat q)), (.int ch), (.ref a2)]) (fun tq kq => st2 _ kq) ?_
  obtain ⟨cq3, kq3, q3a, q3b, q3c⟩ := isOf hZ e2 Ea2
  obtain ⟨_, _, ⟨T3, L3, k3, n3⟩, -, X3, ⟨Lc3, hQ3, l3, y3, z3⟩, st3⟩ := X2.virtualBack hx (y := (⟨"java/lang/String", "indexOf", "(II)I"⟩ : MethodName)) (z := (⟨"java/lang/String", "indexOf", "(II)I"⟩ : MethodName)) hown (mvT hZ (own_w hw 69 rfl)) (mvT hZ (own_w hw 70 rfl)) (notFace_of_selects (args := #[]) (mvT hZ (own_w hw 72 rfl))) (mvT hZ (own_w hw 72 rfl)) (mvT hZ (own_w hw 71 rfl)) (by decide) (backOf (W := 0) (rmIx l Z a0 hw [] a2 t2 G1 vF q j f cc ch h0 n0 Z0 O2 hG O4 hvF OA OH OL Ea2 Fa2 Ca2 Aa2 hu hch hj (by omega) hfj hff) hZ (own_w hw 73 rfl) (own_w hw 10 rfl) (by decide) (by decide)) q3a q3c (g := (mkF m 9 #[.val (.ref a1), .val (.int ch), .unset, .unset] [(.int (Int32.ofNat q)), (.int ch), (.ref a2)])) rfl (by rw [hml]; rfl) (Steps.refl _) (argsL := [(.int ch), (.int (Int32.ofNat q))]) (rest := []) (lenOf pd_13 rfl) rfl (by show 2 * 0 + _ ≤ _; exact Nat.le_of_eq rfl) (hb hby d14_9) (fun _ _ => ⟨rfl, e2, (by decide : 0 + 0 ≤ _), (by decide : 0 + 0 ≤ _)⟩)
  dsimp only [Pt.U, Pt.locs, Pt.cells, Pt.slots] at X3 l3 y3 z3 st3 hQ3
  have l3y := l3.symm
  clear l3
  subst l3y
  obtain rfl : k3 = 0 := y3
  obtain rfl : n3 = 0 := z3
  obtain ⟨rfl, N3q, e3⟩ := hQ3
  have N3 := Fr.app (Fr.nil n0) N3q
  refine own_toH T3 (mkF m 33 #[.val (.ref a1), .val (.int ch), .val (.int (Int32.ofNat j)), .unset] [(.ref a1)]) (fun tq kq => st3.trans (XS.istoreN X3.here hx rfl (hb hby d14_12) rfl (l' := #[.val (.ref a1), .val (.int ch), .val (.int (Int32.ofNat j)), .unset]) rfl (XS.iloadN X3.here hx rfl (hb hby d14_13) rfl (XS.ifYes X3.here hx rfl (pc0 := 14) (pc' := 32) rfl (hb hby d14_14) rfl ((if0 _ _).trans (flt (own_nonneg (by omega))).2.1) (by decide) (by decide) (XS.aloadN X3.here hx rfl (hb hby d14_32) rfl rfl kq))))) ?_
  obtain ⟨T4, X4, e4, st4⟩ := getF X3 hx hZ hown (host := "") (Or.inl (own_w hw 60 rfl)) Via.refl e3 Fv1 (g := (mkF m 33 #[.val (.ref a1), .val (.int ch), .val (.int (Int32.ofNat j)), .unset] [(.ref a1)])) rfl rfl (hb hby d14_33)
  refine own_toH T4 (mkF m 37 #[.val (.ref a1), .val (.int ch), .val (.int (Int32.ofNat j)), .unset] [(.ref a1), (.ref a2)]) (fun tq kq => st4 _ (XS.aloadN X4.here hx rfl (hb hby d14_36) rfl rfl kq)) ?_
  obtain ⟨T5, X5, e5, st5⟩ := getF X4 hx hZ hown (host := "") (Or.inl (own_w hw 67 rfl)) Via.refl e4 Fp1 (g := (mkF m 37 #[.val (.ref a1), .val (.int ch), .val (.int (Int32.ofNat j)), .unset] [(.ref a1), (.ref a2)])) rfl rfl (hb hby d14_37)
  refine own_toH T5 (mkF m 41 #[.val (.ref a1), .val (.int ch), .val (.int (Int32.ofNat j)), .unset] [(.int (Int32.ofNat j)), (.int (Int32.ofNat q)), (.ref a2)]) (fun tq kq => st5 _ (XS.iloadN X5.here hx rfl (hb hby d14_40) rfl kq)) ?_
  obtain ⟨cq6, kq6, q6a, q6b, q6c⟩ := isOf hZ e5 Ea2
  obtain ⟨_, _, ⟨T6, L6, k6, n6⟩, -, X6, hS6, hgr6, ⟨Lc6, hQ6, l6, y6, z6, hC6⟩, st6⟩ := X5.virtualBackS hx (y := (⟨"java/lang/String", "substring", "(II)Ljava/lang/String;"⟩ : MethodName)) (z := (⟨"java/lang/String", "substring", "(II)Ljava/lang/String;"⟩ : MethodName)) hown (mvT hZ (own_w hw 120 rfl)) (mvT hZ (own_w hw 121 rfl)) (notFace_of_selects (args := #[]) (mvT hZ (own_w hw 123 rfl))) (mvT hZ (own_w hw 123 rfl)) (mvT hZ (own_w hw 122 rfl)) (by decide) (backOfSH (W := 0) (rmUSub l Z a0 hw [] a2 t2 q j f cc G1 vF h0 n0 Z0 O2 hG O4 hvF OA OH OL Ea2 Fa2 Ca2 Aa2 hu hj hjn hEL) hZ (own_w hw 124 rfl) (own_w hw 10 rfl) (by decide) (by decide) hEL C0.1) q6a q6c (g := (mkF m 41 #[.val (.ref a1), .val (.int ch), .val (.int (Int32.ofNat j)), .unset] [(.int (Int32.ofNat j)), (.int (Int32.ofNat q)), (.ref a2)])) rfl (by rw [hml]; rfl) (Steps.refl _) (argsL := [(.int (Int32.ofNat q)), (.int (Int32.ofNat j))]) (rest := []) (lenOf pd_22 rfl) rfl (by show 2 * 0 + _ ≤ _; exact Nat.le_of_eq rfl) (hb hby d14_41) (fun _ _ => ⟨rfl, e5, (by decide : 0 + 3 ≤ _), (by decide : 0 + 24 ≤ _)⟩)
  dsimp only [Pt.U, Pt.locs, Pt.cells, Pt.slots] at X6 l6 y6 z6 st6 hQ6
  have l6y := l6.symm
  clear l6
  subst l6y
  obtain rfl : k6 = 3 := y6
  obtain rfl : n6 = 24 := z6
  dsimp only [Pt.U, Pt.locs, Pt.cells, Pt.slots] at hS6 hgr6 hC6
  have C6 := C0.trans hC6
  obtain ⟨X6, hS, hZ, hown⟩ := rebS hS hk X6 hS6 (by rw [← e5]; exact hgr6) hZ hown
  have hk := Nat.le_refl T6.heap.size
  obtain ⟨b6, t6, nn6, gg6, rfl, N6q, K6q, Er6, Vr6, Ar6, or6⟩ := hQ6
  have N6 := Fr.app N3 N6q
  have f7 := Ea1.keep K6q
  have f8 := Fv1.keep K6q nin0
  have f9 := Fp1.keep K6q nin0
  have Zs6 : n0 ≤ T6.heap.size := Nat.le_trans Z0 K6q.1
  have KK6 := K0.trans K6q all0
  refine own_toH T6 (mkF m 49 #[.val (.ref a1), .val (.int ch), .val (.int (Int32.ofNat j)), .val (.ref b6)] [(.int ((Int32.ofNat j) + (1 : Int32))), (.ref a1)]) (fun tq kq => st6.trans (XS.astoreN X6.here hx rfl (hb hby d14_44) rfl rfl (l' := #[.val (.ref a1), .val (.int ch), .val (.int (Int32.ofNat j)), .val (.ref b6)]) rfl (XS.aloadN X6.here hx rfl (hb hby d14_45) rfl rfl (XS.iloadN X6.here hx rfl (hb hby d14_46) rfl (XS.iconst X6.here hx rfl (hb hby d14_47) (XS.iadd X6.here hx rfl (hb hby d14_48) rfl kq)))))) ?_
  rw [show ((Int32.ofNat j) + (1 : Int32)) = (Int32.ofNat (j + 1)) from own_addn j 1 (by omega) (by decide)]
  obtain ⟨T10, h10, X10, e10, W10, st10⟩ := putF X6 hx hZ hown (host := "") (Or.inl (own_w hw 67 rfl)) Via.refl rfl f9 f7 (Or.inl (own_w hw 68 rfl)) (own_w hw 6 rfl) (ty := .int) (by decide) rfl rfl (g := (mkF m 49 #[.val (.ref a1), .val (.int ch), .val (.int (Int32.ofNat j)), .val (.ref b6)] [(.int (Int32.ofNat (j + 1))), (.ref a1)])) rfl rfl (hb hby d14_49)
  have f11 := f7.wr W10
  have f12 := f8.other W10 (Or.inr (sn_value_position hw))
  have f13 := f9.same W10
  have N10 := Fr.snoc X10 N6 g_a1
  have Zs10 : n0 ≤ h10.size := by rw [W10.size]; exact Zs6
  have K10 := KK6.wr W10 (Or.inl (List.mem_of_getElem? (i := 0) rfl))
  have hk := Nat.le_trans hk (Nat.le_of_eq W10.size.symm)
  have C10 := C6.trans (CHr.wr W10 (Safe.exa hZ.alike f7 (by decide) (by decide)) C6.1)
  refine own_toH T10 (mkF m 52 #[.val (.ref a1), .val (.int ch), .val (.int (Int32.ofNat j)), .val (.ref b6)] []) (fun tq kq => st10 _ kq) ?_
  have na6 := Er6.ne f7 (by decide)
  obtain ⟨cy6, Ay6, sy6, uy6⟩ := id Ar6
  have nt6 : t6 ≠ a1 := own_neA Ay6 f7 (own_w hw 6 rfl)
  have Er6' := Er6.wr W10
  have Vr6' := Vr6.other W10 (Or.inl na6)
  have Ar6' := Ar6.other W10 nt6
  have or6' := or6.imp (fun z => And.intro (z.1.other W10 (Or.inl na6)) z.2) (fun z => And.intro (z.1.other W10 (Or.inl na6)) z.2)
  refine own_toH T10 (mkF m 53 #[.val (.ref a1), .val (.int ch), .val (.int (Int32.ofNat j)), .val (.ref b6)] [(.ref b6)]) (fun tq kq => XS.aloadN X10.here hx rfl (hb hby d14_52) rfl rfl kq) ?_
  exact own_retAH X10 hS (by rw [e10]; exact hk) hZ hEL (by rw [e10]; exact C10) hx hret hlk rfl rfl (hb hby d14_53) (by decide) (by decide) (by rw [e10]; exact ⟨b6, t6, nn6, gg6, rfl, N10, K10, f11, f12, f13, Er6', Vr6', Ar6', or6'⟩)
theorem own_chr (x : Int32) : ¬ ((x &&& (255 : Int32)).toUInt32.toUInt16.toUInt32.toInt32) < (0 : Int32) ∧ ¬ (255 : Int32) < ((x &&& (255 : Int32)).toUInt32.toUInt16.toUInt32.toInt32) := by
  rw [i2c_mask]
  have b := c_and x (255 : Int32) (by decide)
  have z : (255 : Int32).toInt = 255 := by decide
  have z0 : (0 : Int32).toInt = 0 := by decide
  rw [Int32.lt_iff_toInt_lt, Int32.lt_iff_toInt_lt]
  omega
theorem d1_0 : decode method_2_code 0 = .ok (.iload_n 0, 1) := by decide +kernel
theorem d1_1 : decode method_2_code 1 = .ok (.iconst 3, 1) := by decide +kernel
theorem d1_2 : decode method_2_code 2 = .ok (.iand, 1) := by decide +kernel
theorem d1_3 : decode method_2_code 3 = .ok (.istore_n 1, 1) := by decide +kernel
theorem d1_4 : decode method_2_code 4 = .ok (.iload_n 1, 1) := by decide +kernel
theorem d1_5 : decode method_2_code 5 = .ok (.ifCond .ne 6, 3) := by decide +kernel
theorem d1_8 : decode method_2_code 8 = .ok (.bipush 32, 2) := by decide +kernel
theorem d1_10 : decode method_2_code 10 = .ok (.ireturn, 1) := by decide +kernel
theorem d1_11 : decode method_2_code 11 = .ok (.iload_n 1, 1) := by decide +kernel
theorem d1_12 : decode method_2_code 12 = .ok (.iconst 1, 1) := by decide +kernel
theorem d1_13 : decode method_2_code 13 = .ok (.if_icmp .ne 6, 3) := by decide +kernel
theorem d1_16 : decode method_2_code 16 = .ok (.bipush 9, 2) := by decide +kernel
theorem d1_18 : decode method_2_code 18 = .ok (.ireturn, 1) := by decide +kernel
theorem d1_19 : decode method_2_code 19 = .ok (.iload_n 0, 1) := by decide +kernel
theorem d1_20 : decode method_2_code 20 = .ok (.iconst 2, 1) := by decide +kernel
theorem d1_21 : decode method_2_code 21 = .ok (.iushr, 1) := by decide +kernel
theorem d1_22 : decode method_2_code 22 = .ok (.sipush 255, 3) := by decide +kernel
theorem d1_25 : decode method_2_code 25 = .ok (.iand, 1) := by decide +kernel
theorem d1_26 : decode method_2_code 26 = .ok (.i2c, 1) := by decide +kernel
theorem d1_27 : decode method_2_code 27 = .ok (.ireturn, 1) := by decide +kernel
theorem pn_1 : plainName "com/example/wayline/wayline/HeaderReaderSkipWhiteSpacePinLaw" = true := by first | (simp [plainName, overriddenIn]; done) | decide +kernel
theorem ef_1_I (m : MethodId) (x0 : Int32) : entryFrame m #[(.int x0)] 2 = mkF m 0 #[.val (.int x0), .unset] [] := by first | (simp [entryFrame, mkF, argsToLocals, Value.category]; done) | rfl
def Q_rmDraw (Z : State) (x0 : Int32) (h0 : Heap) (n0 : Nat) (v : Option Value) (h : Heap) (L : List Loc) : Prop := ∃ y, v = some (.int y) ∧ (¬ y < (0 : Int32) ∧ ¬ (255 : Int32) < y) ∧ Fr n0 L ∧ h = h0
set_option maxRecDepth 65536 in
set_option maxHeartbeats 40000000 in
theorem rmDraw (l : Launch) (Z : State) (a0 : Array Value) (hw : ∀ d ∈ tables_1, d.before a0 Z = true) (ws : List Jvm.Cond) (x0 : Int32) (h0 : Heap) (n0 : Nat) (Z0 : n0 ≤ h0.size)  :
    MetFree l (⟨"com/example/wayline/wayline/HeaderReaderSkipWhiteSpacePinLaw", "draw", "(I)C"⟩ : MethodName) (head1 (Jvm.Cond.code (⟨"com/example/wayline/wayline/HeaderReaderSkipWhiteSpacePinLaw", "draw", "(I)C"⟩ : MethodName) method_2_code 2 (some .char) :: ws) ({ frames := 0, cells := 0, slots := 0, locals := 0 } : Room)) (fun a U => a = #[(.int x0)] ∧ Z.Warmed39 U.vm ∧ U.heap = h0) (fun _ _ _ _ _ => True) (fun _ U o U' => ∃ v L, o = .returned v ∧ Q_rmDraw Z x0 h0 n0 v U'.heap L ∧ FrameEnd U o U' L ({ frames := 0, cells := 0, slots := 0, locals := 0 } : Room).cells ({ frames := 0, cells := 0, slots := 0, locals := 0 } : Room).slots) := by
  refine own_met (y := (⟨"com/example/wayline/wayline/HeaderReaderSkipWhiteSpacePinLaw", "draw", "(I)C"⟩ : MethodName)) (Q := (Q_rmDraw Z x0 h0 n0)) (plainFor_of_name pn_1) fun p e s m below meth c s₁ X0 hx hby hml hret hlk hown hnm hZ e0 => ?_
  refine own_entry (ef_1_I m x0) ?_
  refine own_to s₁ (mkF m 5 #[.val (.int x0), .val (.int (x0 &&& (3 : Int32)))] [(.int (x0 &&& (3 : Int32)))]) (fun tq kq => XS.iloadN X0.here hx rfl (hb hby d1_0) rfl (XS.iconst X0.here hx rfl (hb hby d1_1) (XS.iand X0.here hx rfl (hb hby d1_2) rfl (XS.istoreN X0.here hx rfl (hb hby d1_3) rfl (l' := #[.val (.int x0), .val (.int (x0 &&& (3 : Int32)))]) rfl (XS.iloadN X0.here hx rfl (hb hby d1_4) rfl kq))))) ?_
  by_cases c5 : (x0 &&& (3 : Int32)) = (0 : Int32)
  · skip
    refine own_to s₁ (mkF m 10 #[.val (.int x0), .val (.int (x0 &&& (3 : Int32)))] [(.int (32 : Int32))]) (fun tq kq => XS.ifNo X0.here hx rfl (hb hby d1_5) rfl ((if0 _ _).trans (teq c5).2) (XS.bipush X0.here hx rfl (hb hby d1_8) kq)) ?_
    exact own_retC X0 hx hret hlk (hb hby d1_10) (by decide) (by decide) (by decide) ⟨(32 : Int32), rfl, ⟨by decide, by decide⟩, (Fr.nil n0), e0⟩
  · skip
    refine own_to s₁ (mkF m 13 #[.val (.int x0), .val (.int (x0 &&& (3 : Int32)))] [(.int (1 : Int32)), (.int (x0 &&& (3 : Int32)))]) (fun tq kq => XS.ifYes X0.here hx rfl (pc0 := 5) (pc' := 11) rfl (hb hby d1_5) rfl ((if0 _ _).trans (feq c5).2) (by decide) (by decide) (XS.iloadN X0.here hx rfl (hb hby d1_11) rfl (XS.iconst X0.here hx rfl (hb hby d1_12) kq))) ?_
    by_cases c13 : (x0 &&& (3 : Int32)) = (1 : Int32)
    · skip
      refine own_to s₁ (mkF m 18 #[.val (.int x0), .val (.int (x0 &&& (3 : Int32)))] [(.int (9 : Int32))]) (fun tq kq => XS.icmpNo X0.here hx rfl (hb hby d1_13) rfl (teq c13).2 (XS.bipush X0.here hx rfl (hb hby d1_16) kq)) ?_
      exact own_retC X0 hx hret hlk (hb hby d1_18) (by decide) (by decide) (by decide) ⟨(9 : Int32), rfl, ⟨by decide, by decide⟩, (Fr.nil n0), e0⟩
    · skip
      refine own_to s₁ (mkF m 27 #[.val (.int x0), .val (.int (x0 &&& (3 : Int32)))] [(.int ((((x0.toUInt32 >>> ((2 : Int32) &&& 31).toUInt32).toInt32) &&& (255 : Int32)).toUInt32.toUInt16.toUInt32.toInt32))]) (fun tq kq => XS.icmpYes X0.here hx rfl (pc0 := 13) (pc' := 19) rfl (hb hby d1_13) rfl (feq c13).2 (by decide) (by decide) (XS.iloadN X0.here hx rfl (hb hby d1_19) rfl (XS.iconst X0.here hx rfl (hb hby d1_20) (XS.iushr X0.here hx rfl (hb hby d1_21) rfl (XS.sipush X0.here hx rfl (hb hby d1_22) (XS.iand X0.here hx rfl (hb hby d1_25) rfl (XS.i2c X0.here hx rfl (hb hby d1_26) rfl kq))))))) ?_
      exact own_retC X0 hx hret hlk (hb hby d1_27) (by decide) (by decide) (own_i2cc rfl) ⟨((((x0.toUInt32 >>> ((2 : Int32) &&& 31).toUInt32).toInt32) &&& (255 : Int32)).toUInt32.toUInt16.toUInt32.toInt32), rfl, (own_chr _), (Fr.nil n0), e0⟩
theorem d36_0 : decode method_3_code 0 = .ok (.iload_n 0, 1) := by decide +kernel
theorem d36_1 : decode method_3_code 1 = .ok (.bipush 32, 2) := by decide +kernel
theorem d36_3 : decode method_3_code 3 = .ok (.if_icmp .eq 9, 3) := by decide +kernel
theorem d36_6 : decode method_3_code 6 = .ok (.iload_n 0, 1) := by decide +kernel
theorem d36_7 : decode method_3_code 7 = .ok (.bipush 9, 2) := by decide +kernel
theorem d36_9 : decode method_3_code 9 = .ok (.if_icmp .ne 7, 3) := by decide +kernel
theorem d36_12 : decode method_3_code 12 = .ok (.iconst 1, 1) := by decide +kernel
theorem d36_13 : decode method_3_code 13 = .ok (.goto 4, 3) := by decide +kernel
theorem d36_16 : decode method_3_code 16 = .ok (.iconst 0, 1) := by decide +kernel
theorem d36_17 : decode method_3_code 17 = .ok (.ireturn, 1) := by decide +kernel
theorem ef_36_I (m : MethodId) (x0 : Int32) : entryFrame m #[(.int x0)] 1 = mkF m 0 #[.val (.int x0)] [] := by first | (simp [entryFrame, mkF, argsToLocals, Value.category]; done) | rfl
def Q_rmWs1 (Z : State) (y : Int32) (h0 : Heap) (n0 : Nat) (v : Option Value) (h : Heap) (L : List Loc) : Prop := v = some (.int (1 : Int32)) ∧ Fr n0 L ∧ h = h0
set_option maxRecDepth 65536 in
set_option maxHeartbeats 40000000 in
theorem rmWs1 (l : Launch) (Z : State) (a0 : Array Value) (hw : ∀ d ∈ tables_1, d.before a0 Z = true) (ws : List Jvm.Cond) (y : Int32) (h0 : Heap) (n0 : Nat) (Z0 : n0 ≤ h0.size) (hy : own_ws y) :
    MetFree l (⟨"com/example/wayline/wayline/HeaderReaderSkipWhiteSpacePinLaw", "ws", "(C)Z"⟩ : MethodName) (head1 (Jvm.Cond.code (⟨"com/example/wayline/wayline/HeaderReaderSkipWhiteSpacePinLaw", "ws", "(C)Z"⟩ : MethodName) method_3_code 1 (some .boolean) :: ws) ({ frames := 0, cells := 0, slots := 0, locals := 0 } : Room)) (fun a U => a = #[(.int y)] ∧ Z.Warmed39 U.vm ∧ U.heap = h0) (fun _ _ _ _ _ => True) (fun _ U o U' => ∃ v L, o = .returned v ∧ Q_rmWs1 Z y h0 n0 v U'.heap L ∧ FrameEnd U o U' L ({ frames := 0, cells := 0, slots := 0, locals := 0 } : Room).cells ({ frames := 0, cells := 0, slots := 0, locals := 0 } : Room).slots) := by
  refine own_met (y := (⟨"com/example/wayline/wayline/HeaderReaderSkipWhiteSpacePinLaw", "ws", "(C)Z"⟩ : MethodName)) (Q := (Q_rmWs1 Z y h0 n0)) (plainFor_of_name pn_1) fun p e s m below meth c s₁ X0 hx hby hml hret hlk hown hnm hZ e0 => ?_
  refine own_entry (ef_36_I m y) ?_
  rcases hy with rfl | rfl
  · skip
    refine own_to s₁ (mkF m 17 #[.val (.int (32 : Int32))] [(.int (1 : Int32))]) (fun tq kq => XS.iloadN X0.here hx rfl (hb hby d36_0) rfl (XS.bipush X0.here hx rfl (hb hby d36_1) (XS.icmpYes X0.here hx rfl (pc0 := 3) (pc' := 12) rfl (hb hby d36_3) rfl (teq (by decide : (32 : Int32) = (32 : Int32))).1 (by decide) (by decide) (XS.iconst X0.here hx rfl (hb hby d36_12) (XS.goto X0.here hx rfl (pc0 := 13) (pc' := 17) rfl (hb hby d36_13) (by decide) (by decide) kq))))) ?_
    exact own_retZ X0 hx hret hlk (hb hby d36_17) (by decide) (by decide) (Or.inr rfl) ⟨rfl, (Fr.nil n0), e0⟩
  · skip
    refine own_to s₁ (mkF m 17 #[.val (.int (9 : Int32))] [(.int (1 : Int32))]) (fun tq kq => XS.iloadN X0.here hx rfl (hb hby d36_0) rfl (XS.bipush X0.here hx rfl (hb hby d36_1) (XS.icmpNo X0.here hx rfl (hb hby d36_3) rfl (feq (by decide : ¬ ((9 : Int32) = (32 : Int32)))).1 (XS.iloadN X0.here hx rfl (hb hby d36_6) rfl (XS.bipush X0.here hx rfl (hb hby d36_7) (XS.icmpNo X0.here hx rfl (hb hby d36_9) rfl (teq (by decide : (9 : Int32) = (9 : Int32))).2 (XS.iconst X0.here hx rfl (hb hby d36_12) (XS.goto X0.here hx rfl (pc0 := 13) (pc' := 17) rfl (hb hby d36_13) (by decide) (by decide) kq)))))))) ?_
    exact own_retZ X0 hx hret hlk (hb hby d36_17) (by decide) (by decide) (Or.inr rfl) ⟨rfl, (Fr.nil n0), e0⟩
def Q_rmWs0 (Z : State) (y : Int32) (h0 : Heap) (n0 : Nat) (v : Option Value) (h : Heap) (L : List Loc) : Prop := v = some (.int (0 : Int32)) ∧ Fr n0 L ∧ h = h0
set_option maxRecDepth 65536 in
set_option maxHeartbeats 40000000 in
theorem rmWs0 (l : Launch) (Z : State) (a0 : Array Value) (hw : ∀ d ∈ tables_1, d.before a0 Z = true) (ws : List Jvm.Cond) (y : Int32) (h0 : Heap) (n0 : Nat) (Z0 : n0 ≤ h0.size) (hy : ¬ own_ws y) :
    MetFree l (⟨"com/example/wayline/wayline/HeaderReaderSkipWhiteSpacePinLaw", "ws", "(C)Z"⟩ : MethodName) (head1 (Jvm.Cond.code (⟨"com/example/wayline/wayline/HeaderReaderSkipWhiteSpacePinLaw", "ws", "(C)Z"⟩ : MethodName) method_3_code 1 (some .boolean) :: ws) ({ frames := 0, cells := 0, slots := 0, locals := 0 } : Room)) (fun a U => a = #[(.int y)] ∧ Z.Warmed39 U.vm ∧ U.heap = h0) (fun _ _ _ _ _ => True) (fun _ U o U' => ∃ v L, o = .returned v ∧ Q_rmWs0 Z y h0 n0 v U'.heap L ∧ FrameEnd U o U' L ({ frames := 0, cells := 0, slots := 0, locals := 0 } : Room).cells ({ frames := 0, cells := 0, slots := 0, locals := 0 } : Room).slots) := by
  refine own_met (y := (⟨"com/example/wayline/wayline/HeaderReaderSkipWhiteSpacePinLaw", "ws", "(C)Z"⟩ : MethodName)) (Q := (Q_rmWs0 Z y h0 n0)) (plainFor_of_name pn_1) fun p e s m below meth c s₁ X0 hx hby hml hret hlk hown hnm hZ e0 => ?_
  refine own_entry (ef_36_I m y) ?_
  refine own_to s₁ (mkF m 17 #[.val (.int y)] [(.int (0 : Int32))]) (fun tq kq => XS.iloadN X0.here hx rfl (hb hby d36_0) rfl (XS.bipush X0.here hx rfl (hb hby d36_1) (XS.icmpNo X0.here hx rfl (hb hby d36_3) rfl (feq (fun z => hy (Or.inl z))).1 (XS.iloadN X0.here hx rfl (hb hby d36_6) rfl (XS.bipush X0.here hx rfl (hb hby d36_7) (XS.icmpYes X0.here hx rfl (pc0 := 9) (pc' := 16) rfl (hb hby d36_9) rfl (feq (fun z => hy (Or.inr z))).2 (by decide) (by decide) (XS.iconst X0.here hx rfl (hb hby d36_16) kq))))))) ?_
  exact own_retZ X0 hx hret hlk (hb hby d36_17) (by decide) (by decide) (Or.inl rfl) ⟨rfl, (Fr.nil n0), e0⟩
theorem own_n256 {va vb vc vd ve : Int32} (hcva : ¬ va < (0 : Int32) ∧ ¬ (255 : Int32) < va) (hcvb : ¬ vb < (0 : Int32) ∧ ¬ (255 : Int32) < vb) (hcvc : ¬ vc < (0 : Int32) ∧ ¬ (255 : Int32) < vc) (hcvd : ¬ vd < (0 : Int32) ∧ ¬ (255 : Int32) < vd) (hcve : ¬ ve < (0 : Int32) ∧ ¬ (255 : Int32) < ve) {i : Nat} (hi : i < 6) : ¬ own_c7 va vb vc vd ve i = (256 : Int32) := by
  have h3 : i = 0 ∨ i = 1 ∨ i = 2 ∨ i = 3 ∨ i = 4 ∨ i = 5 := by omega
  rcases h3 with rfl | rfl | rfl | rfl | rfl | rfl
  · exact fun z => hcva.2 ((show va = (256 : Int32) from z) ▸ (by decide))
  · exact fun z => absurd (show (257 : Int32) = 256 from z) (by decide)
  · exact fun z => hcvb.2 ((show vb = (256 : Int32) from z) ▸ (by decide))
  · exact fun z => hcvc.2 ((show vc = (256 : Int32) from z) ▸ (by decide))
  · exact fun z => hcvd.2 ((show vd = (256 : Int32) from z) ▸ (by decide))
  · exact fun z => hcve.2 ((show ve = (256 : Int32) from z) ▸ (by decide))
theorem own_n257 {va vb vc vd ve : Int32} (hcva : ¬ va < (0 : Int32) ∧ ¬ (255 : Int32) < va) (hcvb : ¬ vb < (0 : Int32) ∧ ¬ (255 : Int32) < vb) (hcvc : ¬ vc < (0 : Int32) ∧ ¬ (255 : Int32) < vc) (hcvd : ¬ vd < (0 : Int32) ∧ ¬ (255 : Int32) < vd) (hcve : ¬ ve < (0 : Int32) ∧ ¬ (255 : Int32) < ve) {i : Nat} (hi : i < 1) : ¬ own_c7 va vb vc vd ve i = (257 : Int32) := by
  obtain rfl : i = 0 := by omega
  exact fun z => hcva.2 ((show va = (257 : Int32) from z) ▸ (by decide))
theorem own_w256 : ¬ own_ws (256 : Int32) := fun z => z.elim (by decide) (by decide)
theorem own_w257 : ¬ own_ws (257 : Int32) := fun z => z.elim (by decide) (by decide)
theorem ef_0_IIIIII (m : MethodId) (x0 : Int32) (x1 : Int32) (x2 : Int32) (x3 : Int32) (x4 : Int32) (x5 : Int32) : entryFrame m #[(.int x0), (.int x1), (.int x2), (.int x3), (.int x4), (.int x5)] maxLocals = mkF m 0 #[.val (.int x0), .val (.int x1), .val (.int x2), .val (.int x3), .val (.int x4), .val (.int x5), .unset, .unset, .unset, .unset, .unset, .unset, .unset, .unset, .unset, .unset, .unset, .unset] [] := by first | (simp [entryFrame, mkF, argsToLocals, Value.category, maxLocals]; done) | rfl
def Q_rm0 (Z : State) (i0 i1 i2 i3 i4 i5 G1 : Int32) (vF : Value) (h0 : Heap) (n0 : Nat) (v : Option Value) (h : Heap) (L : List Loc) : Prop := v = some (.int 1) ∧ Fr n0 L
theorem pd_1 : parseMethodDescriptor "([C)V" = some ⟨[(.array .char)], none⟩ := by decide +kernel
theorem pd_11 : parseMethodDescriptor "(Ljava/lang/String;)V" = some ⟨[(.object "java/lang/String")], none⟩ := by decide +kernel
theorem pd_28 : parseMethodDescriptor "(C)Z" = some ⟨[.char], some .boolean⟩ := by decide +kernel
theorem pd_3 : parseMethodDescriptor "()V" = some ⟨[], none⟩ := by decide +kernel
theorem pd_12 : parseMethodDescriptor "(C)Ljava/lang/String;" = some ⟨[.char], some (.object "java/lang/String")⟩ := by decide +kernel
set_option maxRecDepth 65536 in
set_option maxHeartbeats 40000000 in
theorem rm0 (l : Launch) (Z : State) (a0 : Array Value) (hw : ∀ d ∈ tables_1, d.before a0 Z = true) (ws : List Jvm.Cond) (i0 i1 i2 i3 i4 i5 G1 : Int32) (vF : Value) (h0 : Heap) (n0 : Nat) (Z0 : n0 ≤ h0.size) (O2 : Sta Z h0 "java/lang/String" "COMPACT_STRINGS" "Z" (.int G1)) (hG : ¬ G1 = (0 : Int32)) (O4 : Sta Z h0 "jdk/internal/util/Preconditions" "SIOOBE_FORMATTER" "Ljava/util/function/BiFunction;" vF) (hvF : vF.isRef = true) (OA : Sta Z h0 "java/lang/StringUTF16" "$assertionsDisabled" "Z" (.int (1 : Int32))) (OH : Sta Z h0 "java/lang/StringUTF16" "HI_BYTE_SHIFT" "I" (.int (0 : Int32))) (OL : Sta Z h0 "java/lang/StringUTF16" "LO_BYTE_SHIFT" "I" (.int (8 : Int32))) (hEL : EW Z a0 consts_1) :
    MetFree l x (head1 (Jvm.Cond.code x code maxLocals ret :: ws) room_1) (fun a U => a = #[(.int i0), (.int i1), (.int i2), (.int i3), (.int i4), (.int i5)] ∧ Z.Warmed39 U.vm ∧ U.heap = h0 ∧ CHv Z consts_1 U.vm h0) (fun _ _ _ _ _ => True) (fun _ U o U' => ∃ v L, o = .returned v ∧ Q_rm0 Z i0 i1 i2 i3 i4 i5 G1 vF h0 n0 v U'.heap L ∧ CHr Z consts_1 U.vm U.heap U'.vm U'.heap ∧ ReturnedEndW U o U' L room_1.cells room_1.slots) := by
  refine own_metH (EL := consts_1) (y := x) (Q := (Q_rm0 Z i0 i1 i2 i3 i4 i5 G1 vF h0 n0)) (plainFor_of_name pn_1) fun p e s m below meth c s₁ X0 hx hby hml hret hlk hown hnm hZ e0 hS C0 => ?_
  have hk := Nat.le_refl h0.size
  refine own_entryH (ef_0_IIIIII m i0 i1 i2 i3 i4 i5) ?_
  refine own_toH s₁ (mkF m 1 #[.val (.int i0), .val (.int i1), .val (.int i2), .val (.int i3), .val (.int i4), .val (.int i5), .unset, .unset, .unset, .unset, .unset, .unset, .unset, .unset, .unset, .unset, .unset, .unset] [(.int i0)]) (fun tq kq => XS.iloadN X0.here hx rfl (hb hby at_0) rfl kq) ?_
  obtain ⟨_, _, ⟨T1, L1, k1, n1⟩, -, X1, ⟨Lc1, hQ1, l1, y1, z1⟩, st1⟩ := Jvm.LawKit.callS X0 hx (y := (⟨"com/example/wayline/wayline/HeaderReaderSkipWhiteSpacePinLaw", "draw", "(I)C"⟩ : MethodName)) hown (mvT hZ (own_w hw 0 rfl)) (mvT hZ (own_w hw 1 rfl)) (mvT hZ (own_w hw 2 rfl)) (mvT hZ (own_w hw 3 rfl)) (by decide) (backOf (W := 0) (rmDraw l Z a0 hw [] i0 h0 n0 Z0) hZ (own_w hw 3 rfl) (own_w hw 2 rfl) (by decide) (by decide)) (g := (mkF m 1 #[.val (.int i0), .val (.int i1), .val (.int i2), .val (.int i3), .val (.int i4), .val (.int i5), .unset, .unset, .unset, .unset, .unset, .unset, .unset, .unset, .unset, .unset, .unset, .unset] [(.int i0)])) rfl (by rw [hml]; rfl) (argsL := [(.int i0)]) (rest := []) (lenOf pd_0 rfl) rfl (by show 2 * 0 + _ ≤ _; exact Nat.le_of_eq rfl) (hb hby at_1) (fun _ _ => ⟨rfl, e0, (by decide : 0 + 0 ≤ _), (by decide : 0 + 0 ≤ _)⟩)
  dsimp only [Pt.U, Pt.locs, Pt.cells, Pt.slots] at X1 l1 y1 z1 st1 hQ1
  have l1y := l1.symm
  clear l1
  subst l1y
  obtain rfl : k1 = 0 := y1
  obtain rfl : n1 = 0 := z1
  obtain ⟨va, rfl, hcva, N1q, e1⟩ := hQ1
  have N1 := Fr.app (Fr.nil n0) N1q
  refine own_toH T1 (mkF m 7 #[.val (.int i0), .val (.int i1), .val (.int i2), .val (.int i3), .val (.int i4), .val (.int i5), .val (.int va), .unset, .unset, .unset, .unset, .unset, .unset, .unset, .unset, .unset, .unset, .unset] [(.int i1)]) (fun tq kq => st1 _ (XS.istore X1.here hx rfl (hb hby at_4) rfl (l' := #[.val (.int i0), .val (.int i1), .val (.int i2), .val (.int i3), .val (.int i4), .val (.int i5), .val (.int va), .unset, .unset, .unset, .unset, .unset, .unset, .unset, .unset, .unset, .unset, .unset]) rfl (XS.iloadN X1.here hx rfl (hb hby at_6) rfl kq))) ?_
  obtain ⟨_, _, ⟨T2, L2, k2, n2⟩, -, X2, ⟨Lc2, hQ2, l2, y2, z2⟩, st2⟩ := Jvm.LawKit.callS X1 hx (y := (⟨"com/example/wayline/wayline/HeaderReaderSkipWhiteSpacePinLaw", "draw", "(I)C"⟩ : MethodName)) hown (mvT hZ (own_w hw 0 rfl)) (mvT hZ (own_w hw 1 rfl)) (mvT hZ (own_w hw 2 rfl)) (mvT hZ (own_w hw 3 rfl)) (by decide) (backOf (W := 0) (rmDraw l Z a0 hw [] i1 h0 n0 Z0) hZ (own_w hw 3 rfl) (own_w hw 2 rfl) (by decide) (by decide)) (g := (mkF m 7 #[.val (.int i0), .val (.int i1), .val (.int i2), .val (.int i3), .val (.int i4), .val (.int i5), .val (.int va), .unset, .unset, .unset, .unset, .unset, .unset, .unset, .unset, .unset, .unset, .unset] [(.int i1)])) rfl (by rw [hml]; rfl) (argsL := [(.int i1)]) (rest := []) (lenOf pd_0 rfl) rfl (by show 2 * 0 + _ ≤ _; exact Nat.le_of_eq rfl) (hb hby at_7) (fun _ _ => ⟨rfl, e1, (by decide : 0 + 0 ≤ _), (by decide : 0 + 0 ≤ _)⟩)
  dsimp only [Pt.U, Pt.locs, Pt.cells, Pt.slots] at X2 l2 y2 z2 st2 hQ2
  have l2y := l2.symm
  clear l2
  subst l2y
  obtain rfl : k2 = 0 := y2
  obtain rfl : n2 = 0 := z2
  obtain ⟨vb, rfl, hcvb, N2q, e2⟩ := hQ2
  have N2 := Fr.app N1 N2q
  refine own_toH T2 (mkF m 13 #[.val (.int i0), .val (.int i1), .val (.int i2), .val (.int i3), .val (.int i4), .val (.int i5), .val (.int va), .val (.int vb), .unset, .unset, .unset, .unset, .unset, .unset, .unset, .unset, .unset, .unset] [(.int i2)]) (fun tq kq => st2 _ (XS.istore X2.here hx rfl (hb hby at_10) rfl (l' := #[.val (.int i0), .val (.int i1), .val (.int i2), .val (.int i3), .val (.int i4), .val (.int i5), .val (.int va), .val (.int vb), .unset, .unset, .unset, .unset, .unset, .unset, .unset, .unset, .unset, .unset]) rfl (XS.iloadN X2.here hx rfl (hb hby at_12) rfl kq))) ?_
  obtain ⟨_, _, ⟨T3, L3, k3, n3⟩, -, X3, ⟨Lc3, hQ3, l3, y3, z3⟩, st3⟩ := Jvm.LawKit.callS X2 hx (y := (⟨"com/example/wayline/wayline/HeaderReaderSkipWhiteSpacePinLaw", "draw", "(I)C"⟩ : MethodName)) hown (mvT hZ (own_w hw 0 rfl)) (mvT hZ (own_w hw 1 rfl)) (mvT hZ (own_w hw 2 rfl)) (mvT hZ (own_w hw 3 rfl)) (by decide) (backOf (W := 0) (rmDraw l Z a0 hw [] i2 h0 n0 Z0) hZ (own_w hw 3 rfl) (own_w hw 2 rfl) (by decide) (by decide)) (g := (mkF m 13 #[.val (.int i0), .val (.int i1), .val (.int i2), .val (.int i3), .val (.int i4), .val (.int i5), .val (.int va), .val (.int vb), .unset, .unset, .unset, .unset, .unset, .unset, .unset, .unset, .unset, .unset] [(.int i2)])) rfl (by rw [hml]; rfl) (argsL := [(.int i2)]) (rest := []) (lenOf pd_0 rfl) rfl (by show 2 * 0 + _ ≤ _; exact Nat.le_of_eq rfl) (hb hby at_13) (fun _ _ => ⟨rfl, e2, (by decide : 0 + 0 ≤ _), (by decide : 0 + 0 ≤ _)⟩)
  dsimp only [Pt.U, Pt.locs, Pt.cells, Pt.slots] at X3 l3 y3 z3 st3 hQ3
  have l3y := l3.symm
  clear l3
  subst l3y
  obtain rfl : k3 = 0 := y3
  obtain rfl : n3 = 0 := z3
  obtain ⟨vc, rfl, hcvc, N3q, e3⟩ := hQ3
  have N3 := Fr.app N2 N3q
  refine own_toH T3 (mkF m 19 #[.val (.int i0), .val (.int i1), .val (.int i2), .val (.int i3), .val (.int i4), .val (.int i5), .val (.int va), .val (.int vb), .val (.int vc), .unset, .unset, .unset, .unset, .unset, .unset, .unset, .unset, .unset] [(.int i3)]) (fun tq kq => st3 _ (XS.istore X3.here hx rfl (hb hby at_16) rfl (l' := #[.val (.int i0), .val (.int i1), .val (.int i2), .val (.int i3), .val (.int i4), .val (.int i5), .val (.int va), .val (.int vb), .val (.int vc), .unset, .unset, .unset, .unset, .unset, .unset, .unset, .unset, .unset]) rfl (XS.iloadN X3.here hx rfl (hb hby at_18) rfl kq))) ?_
  obtain ⟨_, _, ⟨T4, L4, k4, n4⟩, -, X4, ⟨Lc4, hQ4, l4, y4, z4⟩, st4⟩ := Jvm.LawKit.callS X3 hx (y := (⟨"com/example/wayline/wayline/HeaderReaderSkipWhiteSpacePinLaw", "draw", "(I)C"⟩ : MethodName)) hown (mvT hZ (own_w hw 0 rfl)) (mvT hZ (own_w hw 1 rfl)) (mvT hZ (own_w hw 2 rfl)) (mvT hZ (own_w hw 3 rfl)) (by decide) (backOf (W := 0) (rmDraw l Z a0 hw [] i3 h0 n0 Z0) hZ (own_w hw 3 rfl) (own_w hw 2 rfl) (by decide) (by decide)) (g := (mkF m 19 #[.val (.int i0), .val (.int i1), .val (.int i2), .val (.int i3), .val (.int i4), .val (.int i5), .val (.int va), .val (.int vb), .val (.int vc), .unset, .unset, .unset, .unset, .unset, .unset, .unset, .unset, .unset] [(.int i3)])) rfl (by rw [hml]; rfl) (argsL := [(.int i3)]) (rest := []) (lenOf pd_0 rfl) rfl (by show 2 * 0 + _ ≤ _; exact Nat.le_of_eq rfl) (hb hby at_19) (fun _ _ => ⟨rfl, e3, (by decide : 0 + 0 ≤ _), (by decide : 0 + 0 ≤ _)⟩)
  dsimp only [Pt.U, Pt.locs, Pt.cells, Pt.slots] at X4 l4 y4 z4 st4 hQ4
  have l4y := l4.symm
  clear l4
  subst l4y
  obtain rfl : k4 = 0 := y4
  obtain rfl : n4 = 0 := z4
  obtain ⟨vd, rfl, hcvd, N4q, e4⟩ := hQ4
  have N4 := Fr.app N3 N4q
  refine own_toH T4 (mkF m 26 #[.val (.int i0), .val (.int i1), .val (.int i2), .val (.int i3), .val (.int i4), .val (.int i5), .val (.int va), .val (.int vb), .val (.int vc), .val (.int vd), .unset, .unset, .unset, .unset, .unset, .unset, .unset, .unset] [(.int i4)]) (fun tq kq => st4 _ (XS.istore X4.here hx rfl (hb hby at_22) rfl (l' := #[.val (.int i0), .val (.int i1), .val (.int i2), .val (.int i3), .val (.int i4), .val (.int i5), .val (.int va), .val (.int vb), .val (.int vc), .val (.int vd), .unset, .unset, .unset, .unset, .unset, .unset, .unset, .unset]) rfl (XS.iload X4.here hx rfl (hb hby at_24) rfl kq))) ?_
  obtain ⟨_, _, ⟨T5, L5, k5, n5⟩, -, X5, ⟨Lc5, hQ5, l5, y5, z5⟩, st5⟩ := Jvm.LawKit.callS X4 hx (y := (⟨"com/example/wayline/wayline/HeaderReaderSkipWhiteSpacePinLaw", "draw", "(I)C"⟩ : MethodName)) hown (mvT hZ (own_w hw 0 rfl)) (mvT hZ (own_w hw 1 rfl)) (mvT hZ (own_w hw 2 rfl)) (mvT hZ (own_w hw 3 rfl)) (by decide) (backOf (W := 0) (rmDraw l Z a0 hw [] i4 h0 n0 Z0) hZ (own_w hw 3 rfl) (own_w hw 2 rfl) (by decide) (by decide)) (g := (mkF m 26 #[.val (.int i0), .val (.int i1), .val (.int i2), .val (.int i3), .val (.int i4), .val (.int i5), .val (.int va), .val (.int vb), .val (.int vc), .val (.int vd), .unset, .unset, .unset, .unset, .unset, .unset, .unset, .unset] [(.int i4)])) rfl (by rw [hml]; rfl) (argsL := [(.int i4)]) (rest := []) (lenOf pd_0 rfl) rfl (by show 2 * 0 + _ ≤ _; exact Nat.le_of_eq rfl) (hb hby at_26) (fun _ _ => ⟨rfl, e4, (by decide : 0 + 0 ≤ _), (by decide : 0 + 0 ≤ _)⟩)
  dsimp only [Pt.U, Pt.locs, Pt.cells, Pt.slots] at X5 l5 y5 z5 st5 hQ5
  have l5y := l5.symm
  clear l5
  subst l5y
  obtain rfl : k5 = 0 := y5
  obtain rfl : n5 = 0 := z5
  obtain ⟨ve, rfl, hcve, N5q, e5⟩ := hQ5
  have N5 := Fr.app N4 N5q
  refine own_toH T5 (mkF m 43 #[.val (.int i0), .val (.int i1), .val (.int i2), .val (.int i3), .val (.int i4), .val (.int i5), .val (.int va), .val (.int vb), .val (.int vc), .val (.int vd), .val (.int ve), .val (.int (257 : Int32)), .val (.int (256 : Int32)), .unset, .unset, .unset, .unset, .unset] [(.int (7 : Int32))]) (fun tq kq => st5 _ (XS.istore X5.here hx rfl (hb hby at_29) rfl (l' := #[.val (.int i0), .val (.int i1), .val (.int i2), .val (.int i3), .val (.int i4), .val (.int i5), .val (.int va), .val (.int vb), .val (.int vc), .val (.int vd), .val (.int ve), .unset, .unset, .unset, .unset, .unset, .unset, .unset]) rfl (XS.sipush X5.here hx rfl (hb hby at_31) (XS.istore X5.here hx rfl (hb hby at_34) rfl (l' := #[.val (.int i0), .val (.int i1), .val (.int i2), .val (.int i3), .val (.int i4), .val (.int i5), .val (.int va), .val (.int vb), .val (.int vc), .val (.int vd), .val (.int ve), .val (.int (257 : Int32)), .unset, .unset, .unset, .unset, .unset, .unset]) rfl (XS.sipush X5.here hx rfl (hb hby at_36) (XS.istore X5.here hx rfl (hb hby at_39) rfl (l' := #[.val (.int i0), .val (.int i1), .val (.int i2), .val (.int i3), .val (.int i4), .val (.int i5), .val (.int va), .val (.int vb), .val (.int vc), .val (.int vd), .val (.int ve), .val (.int (257 : Int32)), .val (.int (256 : Int32)), .unset, .unset, .unset, .unset, .unset]) rfl (XS.bipush X5.here hx rfl (hb hby at_41) kq))))))) ?_
  obtain ⟨T6, h6, k6, X6, e6, E6, A6, st6⟩ := newP X5 hx hZ (own_w hw 4 rfl) e5 (g := (mkF m 43 #[.val (.int i0), .val (.int i1), .val (.int i2), .val (.int i3), .val (.int i4), .val (.int i5), .val (.int va), .val (.int vb), .val (.int vc), .val (.int vd), .val (.int ve), .val (.int (257 : Int32)), .val (.int (256 : Int32)), .unset, .unset, .unset, .unset, .unset] [(.int (7 : Int32))])) rfl (hb hby at_43) rfl (by decide) (cap := 7) (by decide) (by decide) (by decide) (by decide)
  obtain ⟨b6, g6⟩ : ∃ z, z = h0.size := ⟨_, rfl⟩
  rw [← g6] at A6 st6
  have f7 := OA.ext E6
  have f8 := OH.ext E6
  have f9 := OL.ext E6
  have f10 := O2.ext E6
  have f11 := O4.ext E6
  have Sf6 := Safe.ext (x := b6) E6 C0.1 (Safe.new (Nat.le_of_eq g6.symm))
  have C6 := C0.trans (CHr.ext E6 C0.1)
  have sz6 : n0 ≤ b6 := Nat.le_trans Z0 (Nat.le_of_eq g6.symm)
  have Zs6 : n0 ≤ h6.size := Nat.le_trans Z0 E6.1
  have hk := Nat.le_trans hk E6.1
  have V6 : Arv Z h6 b6 k6 .char (7 : Int32) [] (.int (0 : Int32)) := Arv.new A6 (by decide)
  refine own_toH T6 (mkF m 49 #[.val (.int i0), .val (.int i1), .val (.int i2), .val (.int i3), .val (.int i4), .val (.int i5), .val (.int va), .val (.int vb), .val (.int vc), .val (.int vd), .val (.int ve), .val (.int (257 : Int32)), .val (.int (256 : Int32)), .unset, .unset, .unset, .unset, .unset] [(.int va), (.int (0 : Int32)), (.ref b6), (.ref b6)]) (fun tq kq => st6 _ (XS.dup X6.here hx rfl (hb hby at_45) rfl rfl (XS.iconst X6.here hx rfl (hb hby at_46) (XS.iload X6.here hx rfl (hb hby at_47) rfl kq)))) ?_
  have Po13 := V6.pad (pad_rep [] (.int (0 : Int32)) 1)
  obtain ⟨co13, Aro13, qo13, So13, Mo13, Ho13, Uo13⟩ := Po13
  obtain ⟨T12, h12, X12, e12, W12, st12⟩ := stC X6 hx hZ e6 Aro13 (j := (0 : Int32)) (inb_of So13 ⟨by decide, by decide⟩) (g := (mkF m 49 #[.val (.int i0), .val (.int i1), .val (.int i2), .val (.int i3), .val (.int i4), .val (.int i5), .val (.int va), .val (.int vb), .val (.int vc), .val (.int vd), .val (.int ve), .val (.int (257 : Int32)), .val (.int (256 : Int32)), .unset, .unset, .unset, .unset, .unset] [(.int va), (.int (0 : Int32)), (.ref b6), (.ref b6)])) rfl rfl (hb hby at_49)
  have f14 := f7.wr W12
  have f15 := f8.wr W12
  have f16 := f9.wr W12
  have f17 := f10.wr W12
  have f18 := f11.wr W12
  have f19 := Safe.wr W12 Sf6 C6.1 Sf6
  have N12 := Fr.snoc X12 N5 sz6
  have Zs12 : n0 ≤ h12.size := by rw [W12.size]; exact Zs6
  have hk := Nat.le_trans hk (Nat.le_of_eq W12.size.symm)
  have C12 := C6.trans (CHr.wr W12 Sf6 C6.1)
  have V12 := Arv.set Aro13 qo13 So13 Mo13 Ho13 Uo13 (fits_nar_char _) W12 0 rfl (Nat.le_of_ble_eq_true rfl)
  rw [own_nar7 (v := va) (own_257 hcva)] at V12
  have V12 : Arv Z h12 b6 k6 .char (7 : Int32) [(.int va)] (.int (0 : Int32)) := V12
  refine own_toH T12 (mkF m 54 #[.val (.int i0), .val (.int i1), .val (.int i2), .val (.int i3), .val (.int i4), .val (.int i5), .val (.int va), .val (.int vb), .val (.int vc), .val (.int vd), .val (.int ve), .val (.int (257 : Int32)), .val (.int (256 : Int32)), .unset, .unset, .unset, .unset, .unset] [(.int (257 : Int32)), (.int (1 : Int32)), (.ref b6), (.ref b6)]) (fun tq kq => st12 _ (XS.dup X12.here hx rfl (hb hby at_50) rfl rfl (XS.iconst X12.here hx rfl (hb hby at_51) (XS.iload X12.here hx rfl (hb hby at_52) rfl kq)))) ?_
  have Po21 := V12.pad (pad_rep [(.int va)] (.int (0 : Int32)) 1)
  obtain ⟨co21, Aro21, qo21, So21, Mo21, Ho21, Uo21⟩ := Po21
  obtain ⟨T20, h20, X20, e20, W20, st20⟩ := stC X12 hx hZ e12 Aro21 (j := (1 : Int32)) (inb_of So21 ⟨by decide, by decide⟩) (g := (mkF m 54 #[.val (.int i0), .val (.int i1), .val (.int i2), .val (.int i3), .val (.int i4), .val (.int i5), .val (.int va), .val (.int vb), .val (.int vc), .val (.int vd), .val (.int ve), .val (.int (257 : Int32)), .val (.int (256 : Int32)), .unset, .unset, .unset, .unset, .unset] [(.int (257 : Int32)), (.int (1 : Int32)), (.ref b6), (.ref b6)])) rfl rfl (hb hby at_54)
  have f22 := f14.wr W20
  have f23 := f15.wr W20
  have f24 := f16.wr W20
  have f25 := f17.wr W20
  have f26 := f18.wr W20
  have f27 := Safe.wr W20 f19 C12.1 f19
  have N20 := Fr.snoc X20 N12 sz6
  have Zs20 : n0 ≤ h20.size := by rw [W20.size]; exact Zs12
  have hk := Nat.le_trans hk (Nat.le_of_eq W20.size.symm)
  have C20 := C12.trans (CHr.wr W20 f19 C12.1)
  have V20 := Arv.set Aro21 qo21 So21 Mo21 Ho21 Uo21 (fits_nar_char _) W20 1 rfl (Nat.le_of_ble_eq_true rfl)
  rw [own_nar7 (v := (257 : Int32)) ⟨by decide, by decide⟩] at V20
  have V20 : Arv Z h20 b6 k6 .char (7 : Int32) [(.int va), (.int (257 : Int32))] (.int (0 : Int32)) := V20
  refine own_toH T20 (mkF m 59 #[.val (.int i0), .val (.int i1), .val (.int i2), .val (.int i3), .val (.int i4), .val (.int i5), .val (.int va), .val (.int vb), .val (.int vc), .val (.int vd), .val (.int ve), .val (.int (257 : Int32)), .val (.int (256 : Int32)), .unset, .unset, .unset, .unset, .unset] [(.int vb), (.int (2 : Int32)), (.ref b6), (.ref b6)]) (fun tq kq => st20 _ (XS.dup X20.here hx rfl (hb hby at_55) rfl rfl (XS.iconst X20.here hx rfl (hb hby at_56) (XS.iload X20.here hx rfl (hb hby at_57) rfl kq)))) ?_
  have Po29 := V20.pad (pad_rep [(.int va), (.int (257 : Int32))] (.int (0 : Int32)) 1)
  obtain ⟨co29, Aro29, qo29, So29, Mo29, Ho29, Uo29⟩ := Po29
  obtain ⟨T28, h28, X28, e28, W28, st28⟩ := stC X20 hx hZ e20 Aro29 (j := (2 : Int32)) (inb_of So29 ⟨by decide, by decide⟩) (g := (mkF m 59 #[.val (.int i0), .val (.int i1), .val (.int i2), .val (.int i3), .val (.int i4), .val (.int i5), .val (.int va), .val (.int vb), .val (.int vc), .val (.int vd), .val (.int ve), .val (.int (257 : Int32)), .val (.int (256 : Int32)), .unset, .unset, .unset, .unset, .unset] [(.int vb), (.int (2 : Int32)), (.ref b6), (.ref b6)])) rfl rfl (hb hby at_59)
  have f30 := f22.wr W28
  have f31 := f23.wr W28
  have f32 := f24.wr W28
  have f33 := f25.wr W28
  have f34 := f26.wr W28
  have f35 := Safe.wr W28 f27 C20.1 f27
  have N28 := Fr.snoc X28 N20 sz6
  have Zs28 : n0 ≤ h28.size := by rw [W28.size]; exact Zs20
  have hk := Nat.le_trans hk (Nat.le_of_eq W28.size.symm)
  have C28 := C20.trans (CHr.wr W28 f27 C20.1)
  have V28 := Arv.set Aro29 qo29 So29 Mo29 Ho29 Uo29 (fits_nar_char _) W28 2 rfl (Nat.le_of_ble_eq_true rfl)
  rw [own_nar7 (v := vb) (own_257 hcvb)] at V28
  have V28 : Arv Z h28 b6 k6 .char (7 : Int32) [(.int va), (.int (257 : Int32)), (.int vb)] (.int (0 : Int32)) := V28
  refine own_toH T28 (mkF m 64 #[.val (.int i0), .val (.int i1), .val (.int i2), .val (.int i3), .val (.int i4), .val (.int i5), .val (.int va), .val (.int vb), .val (.int vc), .val (.int vd), .val (.int ve), .val (.int (257 : Int32)), .val (.int (256 : Int32)), .unset, .unset, .unset, .unset, .unset] [(.int vc), (.int (3 : Int32)), (.ref b6), (.ref b6)]) (fun tq kq => st28 _ (XS.dup X28.here hx rfl (hb hby at_60) rfl rfl (XS.iconst X28.here hx rfl (hb hby at_61) (XS.iload X28.here hx rfl (hb hby at_62) rfl kq)))) ?_
  have Po37 := V28.pad (pad_rep [(.int va), (.int (257 : Int32)), (.int vb)] (.int (0 : Int32)) 1)
  obtain ⟨co37, Aro37, qo37, So37, Mo37, Ho37, Uo37⟩ := Po37
  obtain ⟨T36, h36, X36, e36, W36, st36⟩ := stC X28 hx hZ e28 Aro37 (j := (3 : Int32)) (inb_of So37 ⟨by decide, by decide⟩) (g := (mkF m 64 #[.val (.int i0), .val (.int i1), .val (.int i2), .val (.int i3), .val (.int i4), .val (.int i5), .val (.int va), .val (.int vb), .val (.int vc), .val (.int vd), .val (.int ve), .val (.int (257 : Int32)), .val (.int (256 : Int32)), .unset, .unset, .unset, .unset, .unset] [(.int vc), (.int (3 : Int32)), (.ref b6), (.ref b6)])) rfl rfl (hb hby at_64)
  have f38 := f30.wr W36
  have f39 := f31.wr W36
  have f40 := f32.wr W36
  have f41 := f33.wr W36
  have f42 := f34.wr W36
  have f43 := Safe.wr W36 f35 C28.1 f35
  have N36 := Fr.snoc X36 N28 sz6
  have Zs36 : n0 ≤ h36.size := by rw [W36.size]; exact Zs28
  have hk := Nat.le_trans hk (Nat.le_of_eq W36.size.symm)
  have C36 := C28.trans (CHr.wr W36 f35 C28.1)
  have V36 := Arv.set Aro37 qo37 So37 Mo37 Ho37 Uo37 (fits_nar_char _) W36 3 rfl (Nat.le_of_ble_eq_true rfl)
  rw [own_nar7 (v := vc) (own_257 hcvc)] at V36
  have V36 : Arv Z h36 b6 k6 .char (7 : Int32) [(.int va), (.int (257 : Int32)), (.int vb), (.int vc)] (.int (0 : Int32)) := V36
  refine own_toH T36 (mkF m 69 #[.val (.int i0), .val (.int i1), .val (.int i2), .val (.int i3), .val (.int i4), .val (.int i5), .val (.int va), .val (.int vb), .val (.int vc), .val (.int vd), .val (.int ve), .val (.int (257 : Int32)), .val (.int (256 : Int32)), .unset, .unset, .unset, .unset, .unset] [(.int vd), (.int (4 : Int32)), (.ref b6), (.ref b6)]) (fun tq kq => st36 _ (XS.dup X36.here hx rfl (hb hby at_65) rfl rfl (XS.iconst X36.here hx rfl (hb hby at_66) (XS.iload X36.here hx rfl (hb hby at_67) rfl kq)))) ?_
  have Po45 := V36.pad (pad_rep [(.int va), (.int (257 : Int32)), (.int vb), (.int vc)] (.int (0 : Int32)) 1)
  obtain ⟨co45, Aro45, qo45, So45, Mo45, Ho45, Uo45⟩ := Po45
  obtain ⟨T44, h44, X44, e44, W44, st44⟩ := stC X36 hx hZ e36 Aro45 (j := (4 : Int32)) (inb_of So45 ⟨by decide, by decide⟩) (g := (mkF m 69 #[.val (.int i0), .val (.int i1), .val (.int i2), .val (.int i3), .val (.int i4), .val (.int i5), .val (.int va), .val (.int vb), .val (.int vc), .val (.int vd), .val (.int ve), .val (.int (257 : Int32)), .val (.int (256 : Int32)), .unset, .unset, .unset, .unset, .unset] [(.int vd), (.int (4 : Int32)), (.ref b6), (.ref b6)])) rfl rfl (hb hby at_69)
  have f46 := f38.wr W44
  have f47 := f39.wr W44
  have f48 := f40.wr W44
  have f49 := f41.wr W44
  have f50 := f42.wr W44
  have f51 := Safe.wr W44 f43 C36.1 f43
  have N44 := Fr.snoc X44 N36 sz6
  have Zs44 : n0 ≤ h44.size := by rw [W44.size]; exact Zs36
  have hk := Nat.le_trans hk (Nat.le_of_eq W44.size.symm)
  have C44 := C36.trans (CHr.wr W44 f43 C36.1)
  have V44 := Arv.set Aro45 qo45 So45 Mo45 Ho45 Uo45 (fits_nar_char _) W44 4 rfl (Nat.le_of_ble_eq_true rfl)
  rw [own_nar7 (v := vd) (own_257 hcvd)] at V44
  have V44 : Arv Z h44 b6 k6 .char (7 : Int32) [(.int va), (.int (257 : Int32)), (.int vb), (.int vc), (.int vd)] (.int (0 : Int32)) := V44
  refine own_toH T44 (mkF m 74 #[.val (.int i0), .val (.int i1), .val (.int i2), .val (.int i3), .val (.int i4), .val (.int i5), .val (.int va), .val (.int vb), .val (.int vc), .val (.int vd), .val (.int ve), .val (.int (257 : Int32)), .val (.int (256 : Int32)), .unset, .unset, .unset, .unset, .unset] [(.int ve), (.int (5 : Int32)), (.ref b6), (.ref b6)]) (fun tq kq => st44 _ (XS.dup X44.here hx rfl (hb hby at_70) rfl rfl (XS.iconst X44.here hx rfl (hb hby at_71) (XS.iload X44.here hx rfl (hb hby at_72) rfl kq)))) ?_
  have Po53 := V44.pad (pad_rep [(.int va), (.int (257 : Int32)), (.int vb), (.int vc), (.int vd)] (.int (0 : Int32)) 1)
  obtain ⟨co53, Aro53, qo53, So53, Mo53, Ho53, Uo53⟩ := Po53
  obtain ⟨T52, h52, X52, e52, W52, st52⟩ := stC X44 hx hZ e44 Aro53 (j := (5 : Int32)) (inb_of So53 ⟨by decide, by decide⟩) (g := (mkF m 74 #[.val (.int i0), .val (.int i1), .val (.int i2), .val (.int i3), .val (.int i4), .val (.int i5), .val (.int va), .val (.int vb), .val (.int vc), .val (.int vd), .val (.int ve), .val (.int (257 : Int32)), .val (.int (256 : Int32)), .unset, .unset, .unset, .unset, .unset] [(.int ve), (.int (5 : Int32)), (.ref b6), (.ref b6)])) rfl rfl (hb hby at_74)
  have f54 := f46.wr W52
  have f55 := f47.wr W52
  have f56 := f48.wr W52
  have f57 := f49.wr W52
  have f58 := f50.wr W52
  have f59 := Safe.wr W52 f51 C44.1 f51
  have N52 := Fr.snoc X52 N44 sz6
  have Zs52 : n0 ≤ h52.size := by rw [W52.size]; exact Zs44
  have hk := Nat.le_trans hk (Nat.le_of_eq W52.size.symm)
  have C52 := C44.trans (CHr.wr W52 f51 C44.1)
  have V52 := Arv.set Aro53 qo53 So53 Mo53 Ho53 Uo53 (fits_nar_char _) W52 5 rfl (Nat.le_of_ble_eq_true rfl)
  rw [own_nar7 (v := ve) (own_257 hcve)] at V52
  have V52 : Arv Z h52 b6 k6 .char (7 : Int32) [(.int va), (.int (257 : Int32)), (.int vb), (.int vc), (.int vd), (.int ve)] (.int (0 : Int32)) := V52
  refine own_toH T52 (mkF m 80 #[.val (.int i0), .val (.int i1), .val (.int i2), .val (.int i3), .val (.int i4), .val (.int i5), .val (.int va), .val (.int vb), .val (.int vc), .val (.int vd), .val (.int ve), .val (.int (257 : Int32)), .val (.int (256 : Int32)), .unset, .unset, .unset, .unset, .unset] [(.int (256 : Int32)), (.int (6 : Int32)), (.ref b6), (.ref b6)]) (fun tq kq => st52 _ (XS.dup X52.here hx rfl (hb hby at_75) rfl rfl (XS.bipush X52.here hx rfl (hb hby at_76) (XS.iload X52.here hx rfl (hb hby at_78) rfl kq)))) ?_
  have Po61 := V52.pad (pad_rep [(.int va), (.int (257 : Int32)), (.int vb), (.int vc), (.int vd), (.int ve)] (.int (0 : Int32)) 1)
  obtain ⟨co61, Aro61, qo61, So61, Mo61, Ho61, Uo61⟩ := Po61
  obtain ⟨T60, h60, X60, e60, W60, st60⟩ := stC X52 hx hZ e52 Aro61 (j := (6 : Int32)) (inb_of So61 ⟨by decide, by decide⟩) (g := (mkF m 80 #[.val (.int i0), .val (.int i1), .val (.int i2), .val (.int i3), .val (.int i4), .val (.int i5), .val (.int va), .val (.int vb), .val (.int vc), .val (.int vd), .val (.int ve), .val (.int (257 : Int32)), .val (.int (256 : Int32)), .unset, .unset, .unset, .unset, .unset] [(.int (256 : Int32)), (.int (6 : Int32)), (.ref b6), (.ref b6)])) rfl rfl (hb hby at_80)
  have f62 := f54.wr W60
  have f63 := f55.wr W60
  have f64 := f56.wr W60
  have f65 := f57.wr W60
  have f66 := f58.wr W60
  have f67 := Safe.wr W60 f59 C52.1 f59
  have N60 := Fr.snoc X60 N52 sz6
  have Zs60 : n0 ≤ h60.size := by rw [W60.size]; exact Zs52
  have hk := Nat.le_trans hk (Nat.le_of_eq W60.size.symm)
  have C60 := C52.trans (CHr.wr W60 f59 C52.1)
  have V60 := Arv.set Aro61 qo61 So61 Mo61 Ho61 Uo61 (fits_nar_char _) W60 6 rfl (Nat.le_of_ble_eq_true rfl)
  rw [own_nar7 (v := (256 : Int32)) ⟨by decide, by decide⟩] at V60
  have V60 : Arv Z h60 b6 k6 .char (7 : Int32) [(.int va), (.int (257 : Int32)), (.int vb), (.int vc), (.int vd), (.int ve), (.int (256 : Int32))] (.int (0 : Int32)) := V60
  refine own_toH T60 (mkF m 83 #[.val (.int i0), .val (.int i1), .val (.int i2), .val (.int i3), .val (.int i4), .val (.int i5), .val (.int va), .val (.int vb), .val (.int vc), .val (.int vd), .val (.int ve), .val (.int (257 : Int32)), .val (.int (256 : Int32)), .val (.ref b6), .unset, .unset, .unset, .unset] []) (fun tq kq => st60 _ (XS.astore X60.here hx rfl (hb hby at_81) rfl rfl (l' := #[.val (.int i0), .val (.int i1), .val (.int i2), .val (.int i3), .val (.int i4), .val (.int i5), .val (.int va), .val (.int vb), .val (.int vc), .val (.int vd), .val (.int ve), .val (.int (257 : Int32)), .val (.int (256 : Int32)), .val (.ref b6), .unset, .unset, .unset, .unset]) rfl kq)) ?_
  obtain ⟨T68, h68, X68, e68, E68, A68, D68, -, st68⟩ := newO X60 hx hZ hown (own_w hw 5 rfl) (own_w hw 6 rfl) (own_w hw 7 rfl) e60 (g := (mkF m 83 #[.val (.int i0), .val (.int i1), .val (.int i2), .val (.int i3), .val (.int i4), .val (.int i5), .val (.int va), .val (.int vb), .val (.int vc), .val (.int vd), .val (.int ve), .val (.int (257 : Int32)), .val (.int (256 : Int32)), .val (.ref b6), .unset, .unset, .unset, .unset] [])) rfl (hb hby at_83) (by decide) (by decide)
  obtain ⟨b68, g68⟩ : ∃ z, z = h60.size := ⟨_, rfl⟩
  rw [← g68] at A68 D68 st68
  have ne_b6_b68 : own_ne b6 b68 := Nat.ne_of_lt (Nat.lt_of_lt_of_le V60.lt (Nat.le_of_eq g68.symm))
  have f69 := f62.ext E68
  have f70 := f63.ext E68
  have f71 := f64.ext E68
  have f72 := f65.ext E68
  have f73 := f66.ext E68
  have f74 := Safe.ext E68 C60.1 f67
  have f75 := V60.ext E68
  have Sf68 := Safe.ext (x := b68) E68 C60.1 (Safe.new (Nat.le_of_eq g68.symm))
  have C68 := C60.trans (CHr.ext E68 C60.1)
  have sz68 : n0 ≤ b68 := Nat.le_trans Zs60 (Nat.le_of_eq g68.symm)
  have Zs68 : n0 ≤ h68.size := Nat.le_trans Zs60 E68.1
  have hk := Nat.le_trans hk E68.1
  have F68_value : Fld Z h68 b68 "com/example/wayline/wayline/HeaderReader" "value" "Ljava/lang/String;" .null := D68 (Or.inr (own_w hw 61 rfl)) (ty := (.object "java/lang/String")) (by decide)
  have F68_position : Fld Z h68 b68 "com/example/wayline/wayline/HeaderReader" "position" "I" (.int (0 : Int32)) := D68 (Or.inl (own_w hw 68 rfl)) (ty := .int) (by decide)
  refine own_toH T68 (mkF m 87 #[.val (.int i0), .val (.int i1), .val (.int i2), .val (.int i3), .val (.int i4), .val (.int i5), .val (.int va), .val (.int vb), .val (.int vc), .val (.int vd), .val (.int ve), .val (.int (257 : Int32)), .val (.int (256 : Int32)), .val (.ref b6), .unset, .unset, .unset, .unset] [(.ref b68), (.ref b68)]) (fun tq kq => st68 _ (XS.dup X68.here hx rfl (hb hby at_86) rfl rfl kq)) ?_
  obtain ⟨T76, h76, X76, e76, E76, A76, D76, -, st76⟩ := newO X68 hx hZ hown (own_w hw 8 rfl) (own_w hw 9 rfl) (own_w hw 10 rfl) e68 (g := (mkF m 87 #[.val (.int i0), .val (.int i1), .val (.int i2), .val (.int i3), .val (.int i4), .val (.int i5), .val (.int va), .val (.int vb), .val (.int vc), .val (.int vd), .val (.int ve), .val (.int (257 : Int32)), .val (.int (256 : Int32)), .val (.ref b6), .unset, .unset, .unset, .unset] [(.ref b68), (.ref b68)])) rfl (hb hby at_87) (by decide) (by decide)
  obtain ⟨b76, g76⟩ : ∃ z, z = h68.size := ⟨_, rfl⟩
  rw [← g76] at A76 D76 st76
  have ne_b6_b76 : own_ne b6 b76 := Nat.ne_of_lt (Nat.lt_of_lt_of_le f75.lt (Nat.le_of_eq g76.symm))
  have ne_b68_b76 : own_ne b68 b76 := Nat.ne_of_lt (Nat.lt_of_lt_of_le A68.lt (Nat.le_of_eq g76.symm))
  have f77 := f69.ext E76
  have f78 := f70.ext E76
  have f79 := f71.ext E76
  have f80 := f72.ext E76
  have f81 := f73.ext E76
  have f82 := Safe.ext E76 C68.1 f74
  have f83 := f75.ext E76
  have f84 := Safe.ext E76 C68.1 Sf68
  have f85 := A68.ext E76
  have f86 := F68_value.ext E76
  have f87 := F68_position.ext E76
  have Sf76 := Safe.ext (x := b76) E76 C68.1 (Safe.new (Nat.le_of_eq g76.symm))
  have C76 := C68.trans (CHr.ext E76 C68.1)
  have sz76 : n0 ≤ b76 := Nat.le_trans Zs68 (Nat.le_of_eq g76.symm)
  have Zs76 : n0 ≤ h76.size := Nat.le_trans Zs68 E76.1
  have hk := Nat.le_trans hk E76.1
  have F76_coder : Fld Z h76 b76 "java/lang/String" "coder" "B" (.int (0 : Int32)) := D76 (Or.inr (own_w hw 53 rfl)) (ty := .byte) (by decide)
  have F76_value : Fld Z h76 b76 "java/lang/String" "value" "[B" .null := D76 (Or.inr (own_w hw 55 rfl)) (ty := (.array .byte)) (by decide)
  refine own_toH T76 (mkF m 93 #[.val (.int i0), .val (.int i1), .val (.int i2), .val (.int i3), .val (.int i4), .val (.int i5), .val (.int va), .val (.int vb), .val (.int vc), .val (.int vd), .val (.int ve), .val (.int (257 : Int32)), .val (.int (256 : Int32)), .val (.ref b6), .unset, .unset, .unset, .unset] [(.ref b6), (.ref b76), (.ref b76), (.ref b68), (.ref b68)]) (fun tq kq => st76 _ (XS.dup X76.here hx rfl (hb hby at_90) rfl rfl (XS.aload X76.here hx rfl (hb hby at_91) rfl rfl kq))) ?_
  obtain ⟨_, _, ⟨T88, L88, k88, n88⟩, -, X88, ⟨Lc88, hQ88, l88, y88, z88⟩, st88⟩ := X76.specialBack hx (y := (⟨"java/lang/String", "<init>", "([C)V"⟩ : MethodName)) rfl hown (mvT hZ (own_w hw 11 rfl)) (mvT hZ (own_w hw 12 rfl)) (mvT hZ (own_w hw 13 rfl)) (by decide) (backOf (W := 3) (rmN1 l Z a0 hw [] b76 G1 b6 k6 va vb vc vd ve h76 n0 Zs76 f80 hG f77 f78 f79 A76 F76_value F76_coder sz76 f83 ne_b6_b76 hcva hcvb hcvc hcvd hcve) hZ (own_w hw 13 rfl) (own_w hw 10 rfl) (by decide) (by decide)) (g := (mkF m 93 #[.val (.int i0), .val (.int i1), .val (.int i2), .val (.int i3), .val (.int i4), .val (.int i5), .val (.int va), .val (.int vb), .val (.int vc), .val (.int vd), .val (.int ve), .val (.int (257 : Int32)), .val (.int (256 : Int32)), .val (.ref b6), .unset, .unset, .unset, .unset] [(.ref b6), (.ref b76), (.ref b76), (.ref b68), (.ref b68)])) rfl (by rw [hml]; rfl) (Steps.refl _) (a := b76) (argsL := [(.ref b6)]) (rest := [(.ref b76), (.ref b68), (.ref b68)]) (lenOf pd_1 rfl) rfl (by show 2 * 0 + _ ≤ _; exact Nat.le_of_eq rfl) (hb hby at_93) (fun _ _ => ⟨rfl, e76, (by decide : 3 + 2 ≤ _), (by decide : 13 + 21 ≤ _)⟩)
  dsimp only [Pt.U, Pt.locs, Pt.cells, Pt.slots] at X88 l88 y88 z88 st88 hQ88
  have l88y := l88.symm
  clear l88
  subst l88y
  obtain rfl : k88 = 5 := y88
  obtain rfl : n88 = 34 := z88
  obtain ⟨rfl, N88q, K88q, E88q, C88q, t88, ff88, V88q, hsr88, A88q, U88q⟩ := hQ88
  have N88 := Fr.app N60 N88q
  have ne_b68_t88 : own_ne b68 t88 := Nat.ne_of_lt (Nat.lt_of_lt_of_le f85.lt hsr88)
  have f89 := own_staX f77 K88q A76
  have f90 := own_staX f78 K88q A76
  have f91 := own_staX f79 K88q A76
  have f92 := own_staX f80 K88q A76
  have f93 := own_staX f81 K88q A76
  have f94 := Safe.keep K88q (allS Sf76 all0) C76.1 f82
  have f95 := Safe.keep K88q (allS Sf76 all0) C76.1 f84
  have f96 := f85.keep K88q
  have f97 := f86.keep K88q (ninS ne_b68_b76 nin0)
  have f98 := f87.keep K88q (ninS ne_b68_b76 nin0)
  have f99 := Safe.keep K88q (allS Sf76 all0) C76.1 Sf76
  have f100 := A76.keep K88q
  have Zs88 : n0 ≤ T88.heap.size := Nat.le_trans Zs76 K88q.1
  have hk := Nat.le_trans hk K88q.1
  have C88 := C76.trans (CHr.keep K88q (allS Sf76 all0) C76.1)
  refine own_toH T88 (mkF m 96 #[.val (.int i0), .val (.int i1), .val (.int i2), .val (.int i3), .val (.int i4), .val (.int i5), .val (.int va), .val (.int vb), .val (.int vc), .val (.int vd), .val (.int ve), .val (.int (257 : Int32)), .val (.int (256 : Int32)), .val (.ref b6), .unset, .unset, .unset, .unset] [(.ref b76), (.ref b68), (.ref b68)]) (fun tq kq => st88.trans kq) ?_
  obtain ⟨_, _, ⟨T101, L101, k101, n101⟩, -, X101, ⟨Lc101, hQ101, l101, y101, z101⟩, st101⟩ := X88.specialBack hx (y := (⟨"com/example/wayline/wayline/HeaderReader", "<init>", "(Ljava/lang/String;)V"⟩ : MethodName)) rfl hown (mvT hZ (own_w hw 56 rfl)) (mvT hZ (own_w hw 57 rfl)) (mvT hZ (own_w hw 58 rfl)) (by decide) (backOf (W := 1) (rmHI l Z a0 hw [] b68 b76 T88.heap n0 Zs88 f96 f97 f98 sz68) hZ (own_w hw 58 rfl) (own_w hw 7 rfl) (by decide) (by decide)) (g := (mkF m 96 #[.val (.int i0), .val (.int i1), .val (.int i2), .val (.int i3), .val (.int i4), .val (.int i5), .val (.int va), .val (.int vb), .val (.int vc), .val (.int vd), .val (.int ve), .val (.int (257 : Int32)), .val (.int (256 : Int32)), .val (.ref b6), .unset, .unset, .unset, .unset] [(.ref b76), (.ref b68), (.ref b68)])) rfl (by rw [hml]; rfl) (Steps.refl _) (a := b68) (argsL := [(.ref b76)]) (rest := [(.ref b68)]) (lenOf pd_11 rfl) rfl (by show 2 * 0 + _ ≤ _; exact Nat.le_of_eq rfl) (hb hby at_96) (fun _ _ => ⟨rfl, rfl, (by decide : 5 + 0 ≤ _), (by decide : 34 + 0 ≤ _)⟩)
  dsimp only [Pt.U, Pt.locs, Pt.cells, Pt.slots] at X101 l101 y101 z101 st101 hQ101
  have l101y := l101.symm
  clear l101
  subst l101y
  obtain rfl : k101 = 5 := y101
  obtain rfl : n101 = 34 := z101
  obtain ⟨rfl, N101q, K101q, E101q, V101q, P101q⟩ := hQ101
  have N101 := Fr.app N88 N101q
  have f102 := own_staX f89 K101q f96
  have f103 := own_staX f90 K101q f96
  have f104 := own_staX f91 K101q f96
  have f105 := own_staX f92 K101q f96
  have f106 := own_staX f93 K101q f96
  have f107 := Safe.keep K101q (allS f95 all0) C88.1 f94
  have f108 := Safe.keep K101q (allS f95 all0) C88.1 f95
  have f109 := f96.keep K101q
  have f110 := Safe.keep K101q (allS f95 all0) C88.1 f99
  have f111 := E88q.keep K101q
  have f112 := V88q.keep K101q (ninS (Ne.symm ne_b68_b76) nin0)
  have f113 := C88q.keep K101q (ninS (Ne.symm ne_b68_b76) nin0)
  have f114 := A88q.keep K101q (ninS (Ne.symm ne_b68_t88) nin0)
  have Zs101 : n0 ≤ T101.heap.size := Nat.le_trans Zs88 K101q.1
  have hk := Nat.le_trans hk K101q.1
  have C101 := C88.trans (CHr.keep K101q (allS f95 all0) C88.1)
  refine own_toH T101 (mkF m 105 #[.val (.int i0), .val (.int i1), .val (.int i2), .val (.int i3), .val (.int i4), .val (.int i5), .val (.int va), .val (.int vb), .val (.int vc), .val (.int vd), .val (.int ve), .val (.int (257 : Int32)), .val (.int (256 : Int32)), .val (.ref b6), .val (.ref b68), .unset, .unset, .unset] [(.int (i5 &&& (1 : Int32)))]) (fun tq kq => st101.trans (XS.astore X101.here hx rfl (hb hby at_99) rfl rfl (l' := #[.val (.int i0), .val (.int i1), .val (.int i2), .val (.int i3), .val (.int i4), .val (.int i5), .val (.int va), .val (.int vb), .val (.int vc), .val (.int vd), .val (.int ve), .val (.int (257 : Int32)), .val (.int (256 : Int32)), .val (.ref b6), .val (.ref b68), .unset, .unset, .unset]) rfl (XS.iload X101.here hx rfl (hb hby at_101) rfl (XS.iconst X101.here hx rfl (hb hby at_103) (XS.iand X101.here hx rfl (hb hby at_104) rfl kq))))) ?_
  by_cases c105 : (i5 &&& (1 : Int32)) = (0 : Int32)
  · skip
    refine own_toH T101 (mkF m 205 #[.val (.int i0), .val (.int i1), .val (.int i2), .val (.int i3), .val (.int i4), .val (.int i5), .val (.int va), .val (.int vb), .val (.int vc), .val (.int vd), .val (.int ve), .val (.int (257 : Int32)), .val (.int (256 : Int32)), .val (.ref b6), .val (.ref b68), .val (.int (0 : Int32)), .unset, .unset] [(.int va)]) (fun tq kq => XS.ifYes X101.here hx rfl (pc0 := 105) (pc' := 112) rfl (hb hby at_105) rfl ((if0 _ _).trans (teq c105).1) (by decide) (by decide) (XS.iconst X101.here hx rfl (hb hby at_112) (XS.istore X101.here hx rfl (hb hby at_113) rfl (l' := #[.val (.int i0), .val (.int i1), .val (.int i2), .val (.int i3), .val (.int i4), .val (.int i5), .val (.int va), .val (.int vb), .val (.int vc), .val (.int vd), .val (.int ve), .val (.int (257 : Int32)), .val (.int (256 : Int32)), .val (.ref b6), .val (.ref b68), .val (.int (0 : Int32)), .unset, .unset]) rfl (XS.iload X101.here hx rfl (hb hby at_115) rfl (XS.ifYes X101.here hx rfl (pc0 := 117) (pc' := 203) rfl (hb hby at_117) rfl ((if0 _ _).trans (teq (by decide : (0 : Int32) = (0 : Int32))).1) (by decide) (by decide) (XS.iload X101.here hx rfl (hb hby at_203) rfl kq)))))) ?_
    by_cases hw0 : own_ws va
    · skip
      obtain ⟨_, _, ⟨T115, L115, k115, n115⟩, -, X115, ⟨Lc115, hQ115, l115, y115, z115⟩, st115⟩ := Jvm.LawKit.callS X101 hx (y := (⟨"com/example/wayline/wayline/HeaderReaderSkipWhiteSpacePinLaw", "ws", "(C)Z"⟩ : MethodName)) hown (mvT hZ (own_w hw 151 rfl)) (mvT hZ (own_w hw 152 rfl)) (mvT hZ (own_w hw 2 rfl)) (mvT hZ (own_w hw 153 rfl)) (by decide) (backOf (W := 0) (rmWs1 l Z a0 hw [] va T101.heap n0 Zs101 hw0) hZ (own_w hw 153 rfl) (own_w hw 2 rfl) (by decide) (by decide)) (g := (mkF m 205 #[.val (.int i0), .val (.int i1), .val (.int i2), .val (.int i3), .val (.int i4), .val (.int i5), .val (.int va), .val (.int vb), .val (.int vc), .val (.int vd), .val (.int ve), .val (.int (257 : Int32)), .val (.int (256 : Int32)), .val (.ref b6), .val (.ref b68), .val (.int (0 : Int32)), .unset, .unset] [(.int va)])) rfl (by rw [hml]; rfl) (argsL := [(.int va)]) (rest := []) (lenOf pd_28 rfl) rfl (by show 2 * 0 + _ ≤ _; exact Nat.le_of_eq rfl) (hb hby at_205) (fun _ _ => ⟨rfl, rfl, (by decide : 5 + 0 ≤ _), (by decide : 34 + 0 ≤ _)⟩)
      dsimp only [Pt.U, Pt.locs, Pt.cells, Pt.slots] at X115 l115 y115 z115 st115 hQ115
      have l115y := l115.symm
      clear l115
      subst l115y
      obtain rfl : k115 = 5 := y115
      obtain rfl : n115 = 34 := z115
      obtain ⟨rfl, N115q, e115⟩ := hQ115
      have N115 := Fr.app N101 N115q
      refine own_toH T115 (mkF m 222 #[.val (.int i0), .val (.int i1), .val (.int i2), .val (.int i3), .val (.int i4), .val (.int i5), .val (.int va), .val (.int vb), .val (.int vc), .val (.int vd), .val (.int ve), .val (.int (257 : Int32)), .val (.int (256 : Int32)), .val (.ref b6), .val (.ref b68), .val (.int (0 : Int32)), .val (.int (1 : Int32)), .unset] [(.ref b68)]) (fun tq kq => st115 _ (XS.ifYes X115.here hx rfl (pc0 := 208) (pc' := 217) rfl (hb hby at_208) rfl ((if0 _ _).trans (feq (by decide : ¬ ((1 : Int32) = (0 : Int32)))).2) (by decide) (by decide) (XS.iconst X115.here hx rfl (hb hby at_217) (XS.istore X115.here hx rfl (hb hby at_218) rfl (l' := #[.val (.int i0), .val (.int i1), .val (.int i2), .val (.int i3), .val (.int i4), .val (.int i5), .val (.int va), .val (.int vb), .val (.int vc), .val (.int vd), .val (.int ve), .val (.int (257 : Int32)), .val (.int (256 : Int32)), .val (.ref b6), .val (.ref b68), .val (.int (0 : Int32)), .val (.int (1 : Int32)), .unset]) rfl (XS.aload X115.here hx rfl (hb hby at_220) rfl rfl kq))))) ?_
      obtain ⟨cq116, kq116, q116a, q116b, q116c⟩ := isOf hZ e115 E101q
      obtain ⟨_, _, ⟨T116, L116, k116, n116⟩, -, X116, ⟨Lc116, hQ116, l116, y116, z116⟩, st116⟩ := X115.virtualBack hx (y := (⟨"com/example/wayline/wayline/HeaderReader", "skipWhiteSpace", "()V"⟩ : MethodName)) (z := (⟨"com/example/wayline/wayline/HeaderReader", "skipWhiteSpace", "()V"⟩ : MethodName)) hown (mvT hZ (own_w hw 154 rfl)) (mvT hZ (own_w hw 155 rfl)) (notFace_of_selects (args := #[]) (mvT hZ (own_w hw 157 rfl))) (mvT hZ (own_w hw 157 rfl)) (mvT hZ (own_w hw 156 rfl)) (by decide) (backOf (W := 0) (rmSkip l Z a0 hw [] b68 b76 t88 0 ff88 (own_c7 va vb vc vd ve) G1 vF T101.heap n0 Zs101 f105 hG f106 hvF f102 f103 f104 E101q V101q P101q f111 f112 f113 f114 U88q (by omega) ne_b68_b76 ne_b68_t88 sz68) hZ (own_w hw 158 rfl) (own_w hw 7 rfl) (by decide) (by decide)) q116a q116c (g := (mkF m 222 #[.val (.int i0), .val (.int i1), .val (.int i2), .val (.int i3), .val (.int i4), .val (.int i5), .val (.int va), .val (.int vb), .val (.int vc), .val (.int vd), .val (.int ve), .val (.int (257 : Int32)), .val (.int (256 : Int32)), .val (.ref b6), .val (.ref b68), .val (.int (0 : Int32)), .val (.int (1 : Int32)), .unset] [(.ref b68)])) rfl (by rw [hml]; rfl) (Steps.refl _) (argsL := []) (rest := []) (lenOf pd_3 rfl) rfl (by show 2 * 0 + _ ≤ _; exact Nat.le_of_eq rfl) (hb hby at_222) (fun _ _ => ⟨rfl, e115, (by decide : 5 + 0 ≤ _), (by decide : 34 + 0 ≤ _)⟩)
      dsimp only [Pt.U, Pt.locs, Pt.cells, Pt.slots] at X116 l116 y116 z116 st116 hQ116
      have l116y := l116.symm
      clear l116
      subst l116y
      obtain rfl : k116 = 5 := y116
      obtain rfl : n116 = 34 := z116
      obtain ⟨rfl, N116q, K116q, E116q, V116q, q1, hq0, hqn, P116q, hall, hstop⟩ := hQ116
      have N116 := Fr.app N115 N116q
      have hle1 : ¬ 1 < q1 := (fun z => own_w257 (hall 1 (by omega) z))
      have hge1 : ¬ q1 < 1 := fun z => by
        have h3 : q1 = 0 := (by omega)
        rcases h3 with rfl
        · exact hstop (by decide) hw0
      obtain rfl : q1 = 1 := (by omega)
      have f117 := own_staX f102 K116q E101q
      have f118 := own_staX f103 K116q E101q
      have f119 := own_staX f104 K116q E101q
      have f120 := own_staX f105 K116q E101q
      have f121 := own_staX f106 K116q E101q
      have f122 := Safe.keep K116q (allS f108 all0) C101.1 f107
      have f123 := Safe.keep K116q (allS f108 all0) C101.1 f108
      have f124 := E101q.keep K116q
      have f125 := Safe.keep K116q (allS f108 all0) C101.1 f110
      have f126 := f111.keep K116q
      have f127 := f112.keep K116q (ninS (Ne.symm ne_b68_b76) nin0)
      have f128 := f113.keep K116q (ninS (Ne.symm ne_b68_b76) nin0)
      have f129 := f114.keep K116q (ninS (Ne.symm ne_b68_t88) nin0)
      have Zs116 : n0 ≤ T116.heap.size := Nat.le_trans Zs101 K116q.1
      have hk := Nat.le_trans hk K116q.1
      have C116 := C101.trans (CHr.keep K116q (allS f108 all0) C101.1)
      refine own_toH T116 (mkF m 229 #[.val (.int i0), .val (.int i1), .val (.int i2), .val (.int i3), .val (.int i4), .val (.int i5), .val (.int va), .val (.int vb), .val (.int vc), .val (.int vd), .val (.int ve), .val (.int (257 : Int32)), .val (.int (256 : Int32)), .val (.ref b6), .val (.ref b68), .val (.int (0 : Int32)), .val (.int (1 : Int32)), .unset] [(.int (256 : Int32)), (.ref b68)]) (fun tq kq => st116.trans (XS.aload X116.here hx rfl (hb hby at_225) rfl rfl (XS.iload X116.here hx rfl (hb hby at_227) rfl kq))) ?_
      obtain ⟨cq130, kq130, q130a, q130b, q130c⟩ := isOf hZ rfl E116q
      obtain ⟨_, _, ⟨T130, L130, k130, n130⟩, -, X130, hS130, hgr130, ⟨Lc130, hQ130, l130, y130, z130, hC130⟩, st130⟩ := X116.virtualBackS hx (y := (⟨"com/example/wayline/wayline/HeaderReader", "textBefore", "(C)Ljava/lang/String;"⟩ : MethodName)) (z := (⟨"com/example/wayline/wayline/HeaderReader", "textBefore", "(C)Ljava/lang/String;"⟩ : MethodName)) hown (mvT hZ (own_w hw 62 rfl)) (mvT hZ (own_w hw 63 rfl)) (notFace_of_selects (args := #[]) (mvT hZ (own_w hw 65 rfl))) (mvT hZ (own_w hw 65 rfl)) (mvT hZ (own_w hw 64 rfl)) (by decide) (backOfSH (W := 0) (rmTB l Z a0 hw [] b68 b76 t88 1 6 ff88 (own_c7 va vb vc vd ve) (256 : Int32) G1 vF T116.heap n0 Zs116 f120 hG f121 hvF f117 f118 f119 E116q V116q P116q f126 f127 f128 f129 U88q (by decide) (by decide) (by decide) rfl (fun i h1 h2 => own_n256 hcva hcvb hcvc hcvd hcve h2) sz68 hEL) hZ (own_w hw 66 rfl) (own_w hw 7 rfl) (by decide) (by decide) hEL C116.1) q130a q130c (g := (mkF m 229 #[.val (.int i0), .val (.int i1), .val (.int i2), .val (.int i3), .val (.int i4), .val (.int i5), .val (.int va), .val (.int vb), .val (.int vc), .val (.int vd), .val (.int ve), .val (.int (257 : Int32)), .val (.int (256 : Int32)), .val (.ref b6), .val (.ref b68), .val (.int (0 : Int32)), .val (.int (1 : Int32)), .unset] [(.int (256 : Int32)), (.ref b68)])) rfl (by rw [hml]; rfl) (Steps.refl _) (argsL := [(.int (256 : Int32))]) (rest := []) (lenOf pd_12 rfl) rfl (by show 2 * 0 + _ ≤ _; exact Nat.le_of_eq rfl) (hb hby at_229) (fun _ _ => ⟨rfl, rfl, (by decide : 5 + 3 ≤ _), (by decide : 34 + 24 ≤ _)⟩)
      dsimp only [Pt.U, Pt.locs, Pt.cells, Pt.slots] at X130 l130 y130 z130 st130 hQ130
      have l130y := l130.symm
      clear l130
      subst l130y
      obtain rfl : k130 = 8 := y130
      obtain rfl : n130 = 58 := z130
      dsimp only [Pt.U, Pt.locs, Pt.cells, Pt.slots] at hS130 hgr130 hC130
      have C130 := C116.trans hC130
      obtain ⟨X130, hS, hZ, hown⟩ := rebS hS hk X130 hS130 hgr130 hZ hown
      have hk := Nat.le_refl T130.heap.size
      obtain ⟨b130, tb130, nn130, gg130, rfl, N130q, K130q, E130q, V130q, P130q, Er130, Vr130, Ar130, or130⟩ := hQ130
      have N130 := Fr.app N116 N130q
      have f131 := own_staX f117 K130q E116q
      have f132 := own_staX f118 K130q E116q
      have f133 := own_staX f119 K130q E116q
      have f134 := own_staX f120 K130q E116q
      have f135 := own_staX f121 K130q E116q
      have f136 := E116q.keep K130q
      have f137 := f126.keep K130q
      have f138 := f127.keep K130q (ninS (Ne.symm ne_b68_b76) nin0)
      have f139 := f128.keep K130q (ninS (Ne.symm ne_b68_b76) nin0)
      have f140 := f129.keep K130q (ninS (Ne.symm ne_b68_t88) nin0)
      have Zs130 : n0 ≤ T130.heap.size := Nat.le_trans Zs116 K130q.1
      refine own_toH T130 (mkF m 236 #[.val (.int i0), .val (.int i1), .val (.int i2), .val (.int i3), .val (.int i4), .val (.int i5), .val (.int va), .val (.int vb), .val (.int vc), .val (.int vd), .val (.int ve), .val (.int (257 : Int32)), .val (.int (256 : Int32)), .val (.ref b6), .val (.ref b68), .val (.int (0 : Int32)), .val (.int (1 : Int32)), .val (.ref b130)] [(.ref b130)]) (fun tq kq => st130.trans (XS.astore X130.here hx rfl (hb hby at_232) rfl rfl (l' := #[.val (.int i0), .val (.int i1), .val (.int i2), .val (.int i3), .val (.int i4), .val (.int i5), .val (.int va), .val (.int vb), .val (.int vc), .val (.int vd), .val (.int ve), .val (.int (257 : Int32)), .val (.int (256 : Int32)), .val (.ref b6), .val (.ref b68), .val (.int (0 : Int32)), .val (.int (1 : Int32)), .val (.ref b130)]) rfl (XS.aload X130.here hx rfl (hb hby at_234) rfl rfl kq))) ?_
      rcases or130 with or130 | or130
      · skip
        obtain ⟨cq141, kq141, q141a, q141b, q141c⟩ := isOf hZ rfl Er130
        obtain ⟨_, _, ⟨T141, L141, k141, n141⟩, -, X141, ⟨Lc141, hQ141, l141, y141, z141⟩, st141⟩ := X130.virtualBack hx (y := (⟨"java/lang/String", "length", "()I"⟩ : MethodName)) (z := (⟨"java/lang/String", "length", "()I"⟩ : MethodName)) hown (mvT hZ (own_w hw 150 rfl)) (mvT hZ (own_w hw 80 rfl)) (notFace_of_selects (args := #[]) (mvT hZ (own_w hw 82 rfl))) (mvT hZ (own_w hw 82 rfl)) (mvT hZ (own_w hw 81 rfl)) (by decide) (backOf (W := 0) (rmLen l Z a0 hw [] b130 tb130 (6 - 1) gg130 G1 T130.heap n0 Zs130 f134 hG Er130 Vr130 or130.1 (own_barreq Ar130 or130.2)) hZ (own_w hw 83 rfl) (own_w hw 10 rfl) (by decide) (by decide)) q141a q141c (g := (mkF m 236 #[.val (.int i0), .val (.int i1), .val (.int i2), .val (.int i3), .val (.int i4), .val (.int i5), .val (.int va), .val (.int vb), .val (.int vc), .val (.int vd), .val (.int ve), .val (.int (257 : Int32)), .val (.int (256 : Int32)), .val (.ref b6), .val (.ref b68), .val (.int (0 : Int32)), .val (.int (1 : Int32)), .val (.ref b130)] [(.ref b130)])) rfl (by rw [hml]; rfl) (Steps.refl _) (argsL := []) (rest := []) (lenOf pd_15 rfl) rfl (by show 2 * 0 + _ ≤ _; exact Nat.le_of_eq rfl) (hb hby at_236) (fun _ _ => ⟨rfl, rfl, (by decide : 8 + 0 ≤ _), (by decide : 58 + 0 ≤ _)⟩)
        dsimp only [Pt.U, Pt.locs, Pt.cells, Pt.slots] at X141 l141 y141 z141 st141 hQ141
        have l141y := l141.symm
        clear l141
        subst l141y
        obtain rfl : k141 = 8 := y141
        obtain rfl : n141 = 58 := z141
        obtain ⟨rfl, N141q, e141⟩ := hQ141
        have N141 := Fr.app N130 N141q
        refine own_toH T141 (mkF m 239 #[.val (.int i0), .val (.int i1), .val (.int i2), .val (.int i3), .val (.int i4), .val (.int i5), .val (.int va), .val (.int vb), .val (.int vc), .val (.int vd), .val (.int ve), .val (.int (257 : Int32)), .val (.int (256 : Int32)), .val (.ref b6), .val (.ref b68), .val (.int (0 : Int32)), .val (.int (1 : Int32)), .val (.ref b130)] [(.int (Int32.ofNat (6 - 1)))]) (fun tq kq => st141.trans kq) ?_
        rw [show (Int32.ofNat (6 - 1)) = (5 : Int32) from by decide]
        refine own_toH T141 (mkF m 244 #[.val (.int i0), .val (.int i1), .val (.int i2), .val (.int i3), .val (.int i4), .val (.int i5), .val (.int va), .val (.int vb), .val (.int vc), .val (.int vd), .val (.int ve), .val (.int (257 : Int32)), .val (.int (256 : Int32)), .val (.ref b6), .val (.ref b68), .val (.int (0 : Int32)), .val (.int (1 : Int32)), .val (.ref b130)] [(.int ((6 : Int32) - (1 : Int32))), (.int (5 : Int32))]) (fun tq kq => XS.bipush X141.here hx rfl (hb hby at_239) (XS.iload X141.here hx rfl (hb hby at_241) rfl (XS.isub X141.here hx rfl (hb hby at_243) rfl kq))) ?_
        rw [show ((6 : Int32) - (1 : Int32)) = (5 : Int32) from by decide]
        refine own_toH T141 (mkF m 252 #[.val (.int i0), .val (.int i1), .val (.int i2), .val (.int i3), .val (.int i4), .val (.int i5), .val (.int va), .val (.int vb), .val (.int vc), .val (.int vd), .val (.int ve), .val (.int (257 : Int32)), .val (.int (256 : Int32)), .val (.ref b6), .val (.ref b68), .val (.int (0 : Int32)), .val (.int (1 : Int32)), .val (.ref b130)] [(.int (1 : Int32))]) (fun tq kq => XS.icmpNo X141.here hx rfl (hb hby at_244) rfl (teq (by decide : (5 : Int32) = (5 : Int32))).2 (XS.iconst X141.here hx rfl (hb hby at_247) (XS.goto X141.here hx rfl (pc0 := 248) (pc' := 252) rfl (hb hby at_248) (by decide) (by decide) kq))) ?_
        exact own_retZH X141 hS (by rw [e141]; exact hk) hZ hEL (by rw [e141]; exact C130) hx hret hlk (hb hby at_252) (by decide) (by decide) (Or.inr rfl) ⟨rfl, N141⟩
      · skip
        obtain ⟨cq142, kq142, q142a, q142b, q142c⟩ := isOf hZ rfl Er130
        obtain ⟨_, _, ⟨T142, L142, k142, n142⟩, -, X142, ⟨Lc142, hQ142, l142, y142, z142⟩, st142⟩ := X130.virtualBack hx (y := (⟨"java/lang/String", "length", "()I"⟩ : MethodName)) (z := (⟨"java/lang/String", "length", "()I"⟩ : MethodName)) hown (mvT hZ (own_w hw 150 rfl)) (mvT hZ (own_w hw 80 rfl)) (notFace_of_selects (args := #[]) (mvT hZ (own_w hw 82 rfl))) (mvT hZ (own_w hw 82 rfl)) (mvT hZ (own_w hw 81 rfl)) (by decide) (backOf (W := 0) (rmLen1 l Z a0 hw [] b130 tb130 (6 - 1) gg130 G1 T130.heap n0 Zs130 f134 hG Er130 Vr130 or130.1 (own_barreq Ar130 or130.2) (by decide)) hZ (own_w hw 83 rfl) (own_w hw 10 rfl) (by decide) (by decide)) q142a q142c (g := (mkF m 236 #[.val (.int i0), .val (.int i1), .val (.int i2), .val (.int i3), .val (.int i4), .val (.int i5), .val (.int va), .val (.int vb), .val (.int vc), .val (.int vd), .val (.int ve), .val (.int (257 : Int32)), .val (.int (256 : Int32)), .val (.ref b6), .val (.ref b68), .val (.int (0 : Int32)), .val (.int (1 : Int32)), .val (.ref b130)] [(.ref b130)])) rfl (by rw [hml]; rfl) (Steps.refl _) (argsL := []) (rest := []) (lenOf pd_15 rfl) rfl (by show 2 * 0 + _ ≤ _; exact Nat.le_of_eq rfl) (hb hby at_236) (fun _ _ => ⟨rfl, rfl, (by decide : 8 + 0 ≤ _), (by decide : 58 + 0 ≤ _)⟩)
        dsimp only [Pt.U, Pt.locs, Pt.cells, Pt.slots] at X142 l142 y142 z142 st142 hQ142
        have l142y := l142.symm
        clear l142
        subst l142y
        obtain rfl : k142 = 8 := y142
        obtain rfl : n142 = 58 := z142
        obtain ⟨rfl, N142q, e142⟩ := hQ142
        have N142 := Fr.app N130 N142q
        refine own_toH T142 (mkF m 239 #[.val (.int i0), .val (.int i1), .val (.int i2), .val (.int i3), .val (.int i4), .val (.int i5), .val (.int va), .val (.int vb), .val (.int vc), .val (.int vd), .val (.int ve), .val (.int (257 : Int32)), .val (.int (256 : Int32)), .val (.ref b6), .val (.ref b68), .val (.int (0 : Int32)), .val (.int (1 : Int32)), .val (.ref b130)] [(.int (Int32.ofNat (6 - 1)))]) (fun tq kq => st142.trans kq) ?_
        rw [show (Int32.ofNat (6 - 1)) = (5 : Int32) from by decide]
        refine own_toH T142 (mkF m 244 #[.val (.int i0), .val (.int i1), .val (.int i2), .val (.int i3), .val (.int i4), .val (.int i5), .val (.int va), .val (.int vb), .val (.int vc), .val (.int vd), .val (.int ve), .val (.int (257 : Int32)), .val (.int (256 : Int32)), .val (.ref b6), .val (.ref b68), .val (.int (0 : Int32)), .val (.int (1 : Int32)), .val (.ref b130)] [(.int ((6 : Int32) - (1 : Int32))), (.int (5 : Int32))]) (fun tq kq => XS.bipush X142.here hx rfl (hb hby at_239) (XS.iload X142.here hx rfl (hb hby at_241) rfl (XS.isub X142.here hx rfl (hb hby at_243) rfl kq))) ?_
        rw [show ((6 : Int32) - (1 : Int32)) = (5 : Int32) from by decide]
        refine own_toH T142 (mkF m 252 #[.val (.int i0), .val (.int i1), .val (.int i2), .val (.int i3), .val (.int i4), .val (.int i5), .val (.int va), .val (.int vb), .val (.int vc), .val (.int vd), .val (.int ve), .val (.int (257 : Int32)), .val (.int (256 : Int32)), .val (.ref b6), .val (.ref b68), .val (.int (0 : Int32)), .val (.int (1 : Int32)), .val (.ref b130)] [(.int (1 : Int32))]) (fun tq kq => XS.icmpNo X142.here hx rfl (hb hby at_244) rfl (teq (by decide : (5 : Int32) = (5 : Int32))).2 (XS.iconst X142.here hx rfl (hb hby at_247) (XS.goto X142.here hx rfl (pc0 := 248) (pc' := 252) rfl (hb hby at_248) (by decide) (by decide) kq))) ?_
        exact own_retZH X142 hS (by rw [e142]; exact hk) hZ hEL (by rw [e142]; exact C130) hx hret hlk (hb hby at_252) (by decide) (by decide) (Or.inr rfl) ⟨rfl, N142⟩
    · skip
      obtain ⟨_, _, ⟨T143, L143, k143, n143⟩, -, X143, ⟨Lc143, hQ143, l143, y143, z143⟩, st143⟩ := Jvm.LawKit.callS X101 hx (y := (⟨"com/example/wayline/wayline/HeaderReaderSkipWhiteSpacePinLaw", "ws", "(C)Z"⟩ : MethodName)) hown (mvT hZ (own_w hw 151 rfl)) (mvT hZ (own_w hw 152 rfl)) (mvT hZ (own_w hw 2 rfl)) (mvT hZ (own_w hw 153 rfl)) (by decide) (backOf (W := 0) (rmWs0 l Z a0 hw [] va T101.heap n0 Zs101 hw0) hZ (own_w hw 153 rfl) (own_w hw 2 rfl) (by decide) (by decide)) (g := (mkF m 205 #[.val (.int i0), .val (.int i1), .val (.int i2), .val (.int i3), .val (.int i4), .val (.int i5), .val (.int va), .val (.int vb), .val (.int vc), .val (.int vd), .val (.int ve), .val (.int (257 : Int32)), .val (.int (256 : Int32)), .val (.ref b6), .val (.ref b68), .val (.int (0 : Int32)), .unset, .unset] [(.int va)])) rfl (by rw [hml]; rfl) (argsL := [(.int va)]) (rest := []) (lenOf pd_28 rfl) rfl (by show 2 * 0 + _ ≤ _; exact Nat.le_of_eq rfl) (hb hby at_205) (fun _ _ => ⟨rfl, rfl, (by decide : 5 + 0 ≤ _), (by decide : 34 + 0 ≤ _)⟩)
      dsimp only [Pt.U, Pt.locs, Pt.cells, Pt.slots] at X143 l143 y143 z143 st143 hQ143
      have l143y := l143.symm
      clear l143
      subst l143y
      obtain rfl : k143 = 5 := y143
      obtain rfl : n143 = 34 := z143
      obtain ⟨rfl, N143q, e143⟩ := hQ143
      have N143 := Fr.app N101 N143q
      refine own_toH T143 (mkF m 222 #[.val (.int i0), .val (.int i1), .val (.int i2), .val (.int i3), .val (.int i4), .val (.int i5), .val (.int va), .val (.int vb), .val (.int vc), .val (.int vd), .val (.int ve), .val (.int (257 : Int32)), .val (.int (256 : Int32)), .val (.ref b6), .val (.ref b68), .val (.int (0 : Int32)), .val (.int (0 : Int32)), .unset] [(.ref b68)]) (fun tq kq => st143 _ (XS.ifNo X143.here hx rfl (hb hby at_208) rfl ((if0 _ _).trans (teq (by decide : (0 : Int32) = (0 : Int32))).2) (XS.iconst X143.here hx rfl (hb hby at_211) (XS.istore X143.here hx rfl (hb hby at_212) rfl (l' := #[.val (.int i0), .val (.int i1), .val (.int i2), .val (.int i3), .val (.int i4), .val (.int i5), .val (.int va), .val (.int vb), .val (.int vc), .val (.int vd), .val (.int ve), .val (.int (257 : Int32)), .val (.int (256 : Int32)), .val (.ref b6), .val (.ref b68), .val (.int (0 : Int32)), .val (.int (0 : Int32)), .unset]) rfl (XS.goto X143.here hx rfl (pc0 := 214) (pc' := 220) rfl (hb hby at_214) (by decide) (by decide) (XS.aload X143.here hx rfl (hb hby at_220) rfl rfl kq)))))) ?_
      obtain ⟨cq144, kq144, q144a, q144b, q144c⟩ := isOf hZ e143 E101q
      obtain ⟨_, _, ⟨T144, L144, k144, n144⟩, -, X144, ⟨Lc144, hQ144, l144, y144, z144⟩, st144⟩ := X143.virtualBack hx (y := (⟨"com/example/wayline/wayline/HeaderReader", "skipWhiteSpace", "()V"⟩ : MethodName)) (z := (⟨"com/example/wayline/wayline/HeaderReader", "skipWhiteSpace", "()V"⟩ : MethodName)) hown (mvT hZ (own_w hw 154 rfl)) (mvT hZ (own_w hw 155 rfl)) (notFace_of_selects (args := #[]) (mvT hZ (own_w hw 157 rfl))) (mvT hZ (own_w hw 157 rfl)) (mvT hZ (own_w hw 156 rfl)) (by decide) (backOf (W := 0) (rmSkip l Z a0 hw [] b68 b76 t88 0 ff88 (own_c7 va vb vc vd ve) G1 vF T101.heap n0 Zs101 f105 hG f106 hvF f102 f103 f104 E101q V101q P101q f111 f112 f113 f114 U88q (by omega) ne_b68_b76 ne_b68_t88 sz68) hZ (own_w hw 158 rfl) (own_w hw 7 rfl) (by decide) (by decide)) q144a q144c (g := (mkF m 222 #[.val (.int i0), .val (.int i1), .val (.int i2), .val (.int i3), .val (.int i4), .val (.int i5), .val (.int va), .val (.int vb), .val (.int vc), .val (.int vd), .val (.int ve), .val (.int (257 : Int32)), .val (.int (256 : Int32)), .val (.ref b6), .val (.ref b68), .val (.int (0 : Int32)), .val (.int (0 : Int32)), .unset] [(.ref b68)])) rfl (by rw [hml]; rfl) (Steps.refl _) (argsL := []) (rest := []) (lenOf pd_3 rfl) rfl (by show 2 * 0 + _ ≤ _; exact Nat.le_of_eq rfl) (hb hby at_222) (fun _ _ => ⟨rfl, e143, (by decide : 5 + 0 ≤ _), (by decide : 34 + 0 ≤ _)⟩)
      dsimp only [Pt.U, Pt.locs, Pt.cells, Pt.slots] at X144 l144 y144 z144 st144 hQ144
      have l144y := l144.symm
      clear l144
      subst l144y
      obtain rfl : k144 = 5 := y144
      obtain rfl : n144 = 34 := z144
      obtain ⟨rfl, N144q, K144q, E144q, V144q, q1, hq0, hqn, P144q, hall, hstop⟩ := hQ144
      have N144 := Fr.app N143 N144q
      have hle1 : ¬ 0 < q1 := (fun z => hw0 (hall 0 (by omega) z))
      obtain rfl : q1 = 0 := (by omega)
      have f145 := own_staX f102 K144q E101q
      have f146 := own_staX f103 K144q E101q
      have f147 := own_staX f104 K144q E101q
      have f148 := own_staX f105 K144q E101q
      have f149 := own_staX f106 K144q E101q
      have f150 := Safe.keep K144q (allS f108 all0) C101.1 f107
      have f151 := Safe.keep K144q (allS f108 all0) C101.1 f108
      have f152 := E101q.keep K144q
      have f153 := Safe.keep K144q (allS f108 all0) C101.1 f110
      have f154 := f111.keep K144q
      have f155 := f112.keep K144q (ninS (Ne.symm ne_b68_b76) nin0)
      have f156 := f113.keep K144q (ninS (Ne.symm ne_b68_b76) nin0)
      have f157 := f114.keep K144q (ninS (Ne.symm ne_b68_t88) nin0)
      have Zs144 : n0 ≤ T144.heap.size := Nat.le_trans Zs101 K144q.1
      have hk := Nat.le_trans hk K144q.1
      have C144 := C101.trans (CHr.keep K144q (allS f108 all0) C101.1)
      refine own_toH T144 (mkF m 229 #[.val (.int i0), .val (.int i1), .val (.int i2), .val (.int i3), .val (.int i4), .val (.int i5), .val (.int va), .val (.int vb), .val (.int vc), .val (.int vd), .val (.int ve), .val (.int (257 : Int32)), .val (.int (256 : Int32)), .val (.ref b6), .val (.ref b68), .val (.int (0 : Int32)), .val (.int (0 : Int32)), .unset] [(.int (256 : Int32)), (.ref b68)]) (fun tq kq => st144.trans (XS.aload X144.here hx rfl (hb hby at_225) rfl rfl (XS.iload X144.here hx rfl (hb hby at_227) rfl kq))) ?_
      obtain ⟨cq158, kq158, q158a, q158b, q158c⟩ := isOf hZ rfl E144q
      obtain ⟨_, _, ⟨T158, L158, k158, n158⟩, -, X158, hS158, hgr158, ⟨Lc158, hQ158, l158, y158, z158, hC158⟩, st158⟩ := X144.virtualBackS hx (y := (⟨"com/example/wayline/wayline/HeaderReader", "textBefore", "(C)Ljava/lang/String;"⟩ : MethodName)) (z := (⟨"com/example/wayline/wayline/HeaderReader", "textBefore", "(C)Ljava/lang/String;"⟩ : MethodName)) hown (mvT hZ (own_w hw 62 rfl)) (mvT hZ (own_w hw 63 rfl)) (notFace_of_selects (args := #[]) (mvT hZ (own_w hw 65 rfl))) (mvT hZ (own_w hw 65 rfl)) (mvT hZ (own_w hw 64 rfl)) (by decide) (backOfSH (W := 0) (rmTB l Z a0 hw [] b68 b76 t88 0 6 ff88 (own_c7 va vb vc vd ve) (256 : Int32) G1 vF T144.heap n0 Zs144 f148 hG f149 hvF f145 f146 f147 E144q V144q P144q f154 f155 f156 f157 U88q (by decide) (by decide) (by decide) rfl (fun i h1 h2 => own_n256 hcva hcvb hcvc hcvd hcve h2) sz68 hEL) hZ (own_w hw 66 rfl) (own_w hw 7 rfl) (by decide) (by decide) hEL C144.1) q158a q158c (g := (mkF m 229 #[.val (.int i0), .val (.int i1), .val (.int i2), .val (.int i3), .val (.int i4), .val (.int i5), .val (.int va), .val (.int vb), .val (.int vc), .val (.int vd), .val (.int ve), .val (.int (257 : Int32)), .val (.int (256 : Int32)), .val (.ref b6), .val (.ref b68), .val (.int (0 : Int32)), .val (.int (0 : Int32)), .unset] [(.int (256 : Int32)), (.ref b68)])) rfl (by rw [hml]; rfl) (Steps.refl _) (argsL := [(.int (256 : Int32))]) (rest := []) (lenOf pd_12 rfl) rfl (by show 2 * 0 + _ ≤ _; exact Nat.le_of_eq rfl) (hb hby at_229) (fun _ _ => ⟨rfl, rfl, (by decide : 5 + 3 ≤ _), (by decide : 34 + 24 ≤ _)⟩)
      dsimp only [Pt.U, Pt.locs, Pt.cells, Pt.slots] at X158 l158 y158 z158 st158 hQ158
      have l158y := l158.symm
      clear l158
      subst l158y
      obtain rfl : k158 = 8 := y158
      obtain rfl : n158 = 58 := z158
      dsimp only [Pt.U, Pt.locs, Pt.cells, Pt.slots] at hS158 hgr158 hC158
      have C158 := C144.trans hC158
      obtain ⟨X158, hS, hZ, hown⟩ := rebS hS hk X158 hS158 hgr158 hZ hown
      have hk := Nat.le_refl T158.heap.size
      obtain ⟨b158, tb158, nn158, gg158, rfl, N158q, K158q, E158q, V158q, P158q, Er158, Vr158, Ar158, or158⟩ := hQ158
      have N158 := Fr.app N144 N158q
      have f159 := own_staX f145 K158q E144q
      have f160 := own_staX f146 K158q E144q
      have f161 := own_staX f147 K158q E144q
      have f162 := own_staX f148 K158q E144q
      have f163 := own_staX f149 K158q E144q
      have f164 := E144q.keep K158q
      have f165 := f154.keep K158q
      have f166 := f155.keep K158q (ninS (Ne.symm ne_b68_b76) nin0)
      have f167 := f156.keep K158q (ninS (Ne.symm ne_b68_b76) nin0)
      have f168 := f157.keep K158q (ninS (Ne.symm ne_b68_t88) nin0)
      have Zs158 : n0 ≤ T158.heap.size := Nat.le_trans Zs144 K158q.1
      refine own_toH T158 (mkF m 236 #[.val (.int i0), .val (.int i1), .val (.int i2), .val (.int i3), .val (.int i4), .val (.int i5), .val (.int va), .val (.int vb), .val (.int vc), .val (.int vd), .val (.int ve), .val (.int (257 : Int32)), .val (.int (256 : Int32)), .val (.ref b6), .val (.ref b68), .val (.int (0 : Int32)), .val (.int (0 : Int32)), .val (.ref b158)] [(.ref b158)]) (fun tq kq => st158.trans (XS.astore X158.here hx rfl (hb hby at_232) rfl rfl (l' := #[.val (.int i0), .val (.int i1), .val (.int i2), .val (.int i3), .val (.int i4), .val (.int i5), .val (.int va), .val (.int vb), .val (.int vc), .val (.int vd), .val (.int ve), .val (.int (257 : Int32)), .val (.int (256 : Int32)), .val (.ref b6), .val (.ref b68), .val (.int (0 : Int32)), .val (.int (0 : Int32)), .val (.ref b158)]) rfl (XS.aload X158.here hx rfl (hb hby at_234) rfl rfl kq))) ?_
      rcases or158 with or158 | or158
      · skip
        obtain ⟨cq169, kq169, q169a, q169b, q169c⟩ := isOf hZ rfl Er158
        obtain ⟨_, _, ⟨T169, L169, k169, n169⟩, -, X169, ⟨Lc169, hQ169, l169, y169, z169⟩, st169⟩ := X158.virtualBack hx (y := (⟨"java/lang/String", "length", "()I"⟩ : MethodName)) (z := (⟨"java/lang/String", "length", "()I"⟩ : MethodName)) hown (mvT hZ (own_w hw 150 rfl)) (mvT hZ (own_w hw 80 rfl)) (notFace_of_selects (args := #[]) (mvT hZ (own_w hw 82 rfl))) (mvT hZ (own_w hw 82 rfl)) (mvT hZ (own_w hw 81 rfl)) (by decide) (backOf (W := 0) (rmLen l Z a0 hw [] b158 tb158 (6 - 0) gg158 G1 T158.heap n0 Zs158 f162 hG Er158 Vr158 or158.1 (own_barreq Ar158 or158.2)) hZ (own_w hw 83 rfl) (own_w hw 10 rfl) (by decide) (by decide)) q169a q169c (g := (mkF m 236 #[.val (.int i0), .val (.int i1), .val (.int i2), .val (.int i3), .val (.int i4), .val (.int i5), .val (.int va), .val (.int vb), .val (.int vc), .val (.int vd), .val (.int ve), .val (.int (257 : Int32)), .val (.int (256 : Int32)), .val (.ref b6), .val (.ref b68), .val (.int (0 : Int32)), .val (.int (0 : Int32)), .val (.ref b158)] [(.ref b158)])) rfl (by rw [hml]; rfl) (Steps.refl _) (argsL := []) (rest := []) (lenOf pd_15 rfl) rfl (by show 2 * 0 + _ ≤ _; exact Nat.le_of_eq rfl) (hb hby at_236) (fun _ _ => ⟨rfl, rfl, (by decide : 8 + 0 ≤ _), (by decide : 58 + 0 ≤ _)⟩)
        dsimp only [Pt.U, Pt.locs, Pt.cells, Pt.slots] at X169 l169 y169 z169 st169 hQ169
        have l169y := l169.symm
        clear l169
        subst l169y
        obtain rfl : k169 = 8 := y169
        obtain rfl : n169 = 58 := z169
        obtain ⟨rfl, N169q, e169⟩ := hQ169
        have N169 := Fr.app N158 N169q
        refine own_toH T169 (mkF m 239 #[.val (.int i0), .val (.int i1), .val (.int i2), .val (.int i3), .val (.int i4), .val (.int i5), .val (.int va), .val (.int vb), .val (.int vc), .val (.int vd), .val (.int ve), .val (.int (257 : Int32)), .val (.int (256 : Int32)), .val (.ref b6), .val (.ref b68), .val (.int (0 : Int32)), .val (.int (0 : Int32)), .val (.ref b158)] [(.int (Int32.ofNat (6 - 0)))]) (fun tq kq => st169.trans kq) ?_
        rw [show (Int32.ofNat (6 - 0)) = (6 : Int32) from by decide]
        refine own_toH T169 (mkF m 244 #[.val (.int i0), .val (.int i1), .val (.int i2), .val (.int i3), .val (.int i4), .val (.int i5), .val (.int va), .val (.int vb), .val (.int vc), .val (.int vd), .val (.int ve), .val (.int (257 : Int32)), .val (.int (256 : Int32)), .val (.ref b6), .val (.ref b68), .val (.int (0 : Int32)), .val (.int (0 : Int32)), .val (.ref b158)] [(.int ((6 : Int32) - (0 : Int32))), (.int (6 : Int32))]) (fun tq kq => XS.bipush X169.here hx rfl (hb hby at_239) (XS.iload X169.here hx rfl (hb hby at_241) rfl (XS.isub X169.here hx rfl (hb hby at_243) rfl kq))) ?_
        rw [show ((6 : Int32) - (0 : Int32)) = (6 : Int32) from by decide]
        refine own_toH T169 (mkF m 252 #[.val (.int i0), .val (.int i1), .val (.int i2), .val (.int i3), .val (.int i4), .val (.int i5), .val (.int va), .val (.int vb), .val (.int vc), .val (.int vd), .val (.int ve), .val (.int (257 : Int32)), .val (.int (256 : Int32)), .val (.ref b6), .val (.ref b68), .val (.int (0 : Int32)), .val (.int (0 : Int32)), .val (.ref b158)] [(.int (1 : Int32))]) (fun tq kq => XS.icmpNo X169.here hx rfl (hb hby at_244) rfl (teq (by decide : (6 : Int32) = (6 : Int32))).2 (XS.iconst X169.here hx rfl (hb hby at_247) (XS.goto X169.here hx rfl (pc0 := 248) (pc' := 252) rfl (hb hby at_248) (by decide) (by decide) kq))) ?_
        exact own_retZH X169 hS (by rw [e169]; exact hk) hZ hEL (by rw [e169]; exact C158) hx hret hlk (hb hby at_252) (by decide) (by decide) (Or.inr rfl) ⟨rfl, N169⟩
      · skip
        obtain ⟨cq170, kq170, q170a, q170b, q170c⟩ := isOf hZ rfl Er158
        obtain ⟨_, _, ⟨T170, L170, k170, n170⟩, -, X170, ⟨Lc170, hQ170, l170, y170, z170⟩, st170⟩ := X158.virtualBack hx (y := (⟨"java/lang/String", "length", "()I"⟩ : MethodName)) (z := (⟨"java/lang/String", "length", "()I"⟩ : MethodName)) hown (mvT hZ (own_w hw 150 rfl)) (mvT hZ (own_w hw 80 rfl)) (notFace_of_selects (args := #[]) (mvT hZ (own_w hw 82 rfl))) (mvT hZ (own_w hw 82 rfl)) (mvT hZ (own_w hw 81 rfl)) (by decide) (backOf (W := 0) (rmLen1 l Z a0 hw [] b158 tb158 (6 - 0) gg158 G1 T158.heap n0 Zs158 f162 hG Er158 Vr158 or158.1 (own_barreq Ar158 or158.2) (by decide)) hZ (own_w hw 83 rfl) (own_w hw 10 rfl) (by decide) (by decide)) q170a q170c (g := (mkF m 236 #[.val (.int i0), .val (.int i1), .val (.int i2), .val (.int i3), .val (.int i4), .val (.int i5), .val (.int va), .val (.int vb), .val (.int vc), .val (.int vd), .val (.int ve), .val (.int (257 : Int32)), .val (.int (256 : Int32)), .val (.ref b6), .val (.ref b68), .val (.int (0 : Int32)), .val (.int (0 : Int32)), .val (.ref b158)] [(.ref b158)])) rfl (by rw [hml]; rfl) (Steps.refl _) (argsL := []) (rest := []) (lenOf pd_15 rfl) rfl (by show 2 * 0 + _ ≤ _; exact Nat.le_of_eq rfl) (hb hby at_236) (fun _ _ => ⟨rfl, rfl, (by decide : 8 + 0 ≤ _), (by decide : 58 + 0 ≤ _)⟩)
        dsimp only [Pt.U, Pt.locs, Pt.cells, Pt.slots] at X170 l170 y170 z170 st170 hQ170
        have l170y := l170.symm
        clear l170
        subst l170y
        obtain rfl : k170 = 8 := y170
        obtain rfl : n170 = 58 := z170
        obtain ⟨rfl, N170q, e170⟩ := hQ170
        have N170 := Fr.app N158 N170q
        refine own_toH T170 (mkF m 239 #[.val (.int i0), .val (.int i1), .val (.int i2), .val (.int i3), .val (.int i4), .val (.int i5), .val (.int va), .val (.int vb), .val (.int vc), .val (.int vd), .val (.int ve), .val (.int (257 : Int32)), .val (.int (256 : Int32)), .val (.ref b6), .val (.ref b68), .val (.int (0 : Int32)), .val (.int (0 : Int32)), .val (.ref b158)] [(.int (Int32.ofNat (6 - 0)))]) (fun tq kq => st170.trans kq) ?_
        rw [show (Int32.ofNat (6 - 0)) = (6 : Int32) from by decide]
        refine own_toH T170 (mkF m 244 #[.val (.int i0), .val (.int i1), .val (.int i2), .val (.int i3), .val (.int i4), .val (.int i5), .val (.int va), .val (.int vb), .val (.int vc), .val (.int vd), .val (.int ve), .val (.int (257 : Int32)), .val (.int (256 : Int32)), .val (.ref b6), .val (.ref b68), .val (.int (0 : Int32)), .val (.int (0 : Int32)), .val (.ref b158)] [(.int ((6 : Int32) - (0 : Int32))), (.int (6 : Int32))]) (fun tq kq => XS.bipush X170.here hx rfl (hb hby at_239) (XS.iload X170.here hx rfl (hb hby at_241) rfl (XS.isub X170.here hx rfl (hb hby at_243) rfl kq))) ?_
        rw [show ((6 : Int32) - (0 : Int32)) = (6 : Int32) from by decide]
        refine own_toH T170 (mkF m 252 #[.val (.int i0), .val (.int i1), .val (.int i2), .val (.int i3), .val (.int i4), .val (.int i5), .val (.int va), .val (.int vb), .val (.int vc), .val (.int vd), .val (.int ve), .val (.int (257 : Int32)), .val (.int (256 : Int32)), .val (.ref b6), .val (.ref b68), .val (.int (0 : Int32)), .val (.int (0 : Int32)), .val (.ref b158)] [(.int (1 : Int32))]) (fun tq kq => XS.icmpNo X170.here hx rfl (hb hby at_244) rfl (teq (by decide : (6 : Int32) = (6 : Int32))).2 (XS.iconst X170.here hx rfl (hb hby at_247) (XS.goto X170.here hx rfl (pc0 := 248) (pc' := 252) rfl (hb hby at_248) (by decide) (by decide) kq))) ?_
        exact own_retZH X170 hS (by rw [e170]; exact hk) hZ hEL (by rw [e170]; exact C158) hx hret hlk (hb hby at_252) (by decide) (by decide) (Or.inr rfl) ⟨rfl, N170⟩
  · skip
    refine own_toH T101 (mkF m 124 #[.val (.int i0), .val (.int i1), .val (.int i2), .val (.int i3), .val (.int i4), .val (.int i5), .val (.int va), .val (.int vb), .val (.int vc), .val (.int vd), .val (.int ve), .val (.int (257 : Int32)), .val (.int (256 : Int32)), .val (.ref b6), .val (.ref b68), .val (.int (1 : Int32)), .unset, .unset] [(.int (257 : Int32)), (.ref b68)]) (fun tq kq => XS.ifNo X101.here hx rfl (hb hby at_105) rfl ((if0 _ _).trans (feq c105).1) (XS.iconst X101.here hx rfl (hb hby at_108) (XS.goto X101.here hx rfl (pc0 := 109) (pc' := 113) rfl (hb hby at_109) (by decide) (by decide) (XS.istore X101.here hx rfl (hb hby at_113) rfl (l' := #[.val (.int i0), .val (.int i1), .val (.int i2), .val (.int i3), .val (.int i4), .val (.int i5), .val (.int va), .val (.int vb), .val (.int vc), .val (.int vd), .val (.int ve), .val (.int (257 : Int32)), .val (.int (256 : Int32)), .val (.ref b6), .val (.ref b68), .val (.int (1 : Int32)), .unset, .unset]) rfl (XS.iload X101.here hx rfl (hb hby at_115) rfl (XS.ifNo X101.here hx rfl (hb hby at_117) rfl ((if0 _ _).trans (feq (by decide : ¬ ((1 : Int32) = (0 : Int32)))).1) (XS.aload X101.here hx rfl (hb hby at_120) rfl rfl (XS.iload X101.here hx rfl (hb hby at_122) rfl kq)))))))) ?_
    obtain ⟨cq171, kq171, q171a, q171b, q171c⟩ := isOf hZ rfl E101q
    obtain ⟨_, _, ⟨T171, L171, k171, n171⟩, -, X171, hS171, hgr171, ⟨Lc171, hQ171, l171, y171, z171, hC171⟩, st171⟩ := X101.virtualBackS hx (y := (⟨"com/example/wayline/wayline/HeaderReader", "textBefore", "(C)Ljava/lang/String;"⟩ : MethodName)) (z := (⟨"com/example/wayline/wayline/HeaderReader", "textBefore", "(C)Ljava/lang/String;"⟩ : MethodName)) hown (mvT hZ (own_w hw 62 rfl)) (mvT hZ (own_w hw 63 rfl)) (notFace_of_selects (args := #[]) (mvT hZ (own_w hw 65 rfl))) (mvT hZ (own_w hw 65 rfl)) (mvT hZ (own_w hw 64 rfl)) (by decide) (backOfSH (W := 0) (rmTB l Z a0 hw [] b68 b76 t88 0 1 ff88 (own_c7 va vb vc vd ve) (257 : Int32) G1 vF T101.heap n0 Zs101 f105 hG f106 hvF f102 f103 f104 E101q V101q P101q f111 f112 f113 f114 U88q (by decide) (by decide) (by decide) rfl (fun i h1 h2 => own_n257 hcva hcvb hcvc hcvd hcve h2) sz68 hEL) hZ (own_w hw 66 rfl) (own_w hw 7 rfl) (by decide) (by decide) hEL C101.1) q171a q171c (g := (mkF m 124 #[.val (.int i0), .val (.int i1), .val (.int i2), .val (.int i3), .val (.int i4), .val (.int i5), .val (.int va), .val (.int vb), .val (.int vc), .val (.int vd), .val (.int ve), .val (.int (257 : Int32)), .val (.int (256 : Int32)), .val (.ref b6), .val (.ref b68), .val (.int (1 : Int32)), .unset, .unset] [(.int (257 : Int32)), (.ref b68)])) rfl (by rw [hml]; rfl) (Steps.refl _) (argsL := [(.int (257 : Int32))]) (rest := []) (lenOf pd_12 rfl) rfl (by show 2 * 0 + _ ≤ _; exact Nat.le_of_eq rfl) (hb hby at_124) (fun _ _ => ⟨rfl, rfl, (by decide : 5 + 3 ≤ _), (by decide : 34 + 24 ≤ _)⟩)
    dsimp only [Pt.U, Pt.locs, Pt.cells, Pt.slots] at X171 l171 y171 z171 st171 hQ171
    have l171y := l171.symm
    clear l171
    subst l171y
    obtain rfl : k171 = 8 := y171
    obtain rfl : n171 = 58 := z171
    dsimp only [Pt.U, Pt.locs, Pt.cells, Pt.slots] at hS171 hgr171 hC171
    have C171 := C101.trans hC171
    obtain ⟨X171, hS, hZ, hown⟩ := rebS hS hk X171 hS171 hgr171 hZ hown
    have hk := Nat.le_refl T171.heap.size
    obtain ⟨b171, tb171, nn171, gg171, rfl, N171q, K171q, E171q, V171q, P171q, Er171, Vr171, Ar171, or171⟩ := hQ171
    have N171 := Fr.app N101 N171q
    have f172 := own_staX f102 K171q E101q
    have f173 := own_staX f103 K171q E101q
    have f174 := own_staX f104 K171q E101q
    have f175 := own_staX f105 K171q E101q
    have f176 := own_staX f106 K171q E101q
    have f177 := E101q.keep K171q
    have f178 := f111.keep K171q
    have f179 := f112.keep K171q (ninS (Ne.symm ne_b68_b76) nin0)
    have f180 := f113.keep K171q (ninS (Ne.symm ne_b68_b76) nin0)
    have f181 := f114.keep K171q (ninS (Ne.symm ne_b68_t88) nin0)
    have Zs171 : n0 ≤ T171.heap.size := Nat.le_trans Zs101 K171q.1
    refine own_toH T171 (mkF m 131 #[.val (.int i0), .val (.int i1), .val (.int i2), .val (.int i3), .val (.int i4), .val (.int i5), .val (.int va), .val (.int vb), .val (.int vc), .val (.int vd), .val (.int ve), .val (.int (257 : Int32)), .val (.int (256 : Int32)), .val (.ref b6), .val (.ref b68), .val (.int (1 : Int32)), .unset, .val (.ref b171)] [(.ref b171)]) (fun tq kq => st171.trans (XS.astore X171.here hx rfl (hb hby at_127) rfl rfl (l' := #[.val (.int i0), .val (.int i1), .val (.int i2), .val (.int i3), .val (.int i4), .val (.int i5), .val (.int va), .val (.int vb), .val (.int vc), .val (.int vd), .val (.int ve), .val (.int (257 : Int32)), .val (.int (256 : Int32)), .val (.ref b6), .val (.ref b68), .val (.int (1 : Int32)), .unset, .val (.ref b171)]) rfl (XS.aload X171.here hx rfl (hb hby at_129) rfl rfl kq))) ?_
    rcases or171 with or171 | or171
    · skip
      obtain ⟨cq182, kq182, q182a, q182b, q182c⟩ := isOf hZ rfl Er171
      obtain ⟨_, _, ⟨T182, L182, k182, n182⟩, -, X182, ⟨Lc182, hQ182, l182, y182, z182⟩, st182⟩ := X171.virtualBack hx (y := (⟨"java/lang/String", "length", "()I"⟩ : MethodName)) (z := (⟨"java/lang/String", "length", "()I"⟩ : MethodName)) hown (mvT hZ (own_w hw 150 rfl)) (mvT hZ (own_w hw 80 rfl)) (notFace_of_selects (args := #[]) (mvT hZ (own_w hw 82 rfl))) (mvT hZ (own_w hw 82 rfl)) (mvT hZ (own_w hw 81 rfl)) (by decide) (backOf (W := 0) (rmLen l Z a0 hw [] b171 tb171 (1 - 0) gg171 G1 T171.heap n0 Zs171 f175 hG Er171 Vr171 or171.1 (own_barreq Ar171 or171.2)) hZ (own_w hw 83 rfl) (own_w hw 10 rfl) (by decide) (by decide)) q182a q182c (g := (mkF m 131 #[.val (.int i0), .val (.int i1), .val (.int i2), .val (.int i3), .val (.int i4), .val (.int i5), .val (.int va), .val (.int vb), .val (.int vc), .val (.int vd), .val (.int ve), .val (.int (257 : Int32)), .val (.int (256 : Int32)), .val (.ref b6), .val (.ref b68), .val (.int (1 : Int32)), .unset, .val (.ref b171)] [(.ref b171)])) rfl (by rw [hml]; rfl) (Steps.refl _) (argsL := []) (rest := []) (lenOf pd_15 rfl) rfl (by show 2 * 0 + _ ≤ _; exact Nat.le_of_eq rfl) (hb hby at_131) (fun _ _ => ⟨rfl, rfl, (by decide : 8 + 0 ≤ _), (by decide : 58 + 0 ≤ _)⟩)
      dsimp only [Pt.U, Pt.locs, Pt.cells, Pt.slots] at X182 l182 y182 z182 st182 hQ182
      have l182y := l182.symm
      clear l182
      subst l182y
      obtain rfl : k182 = 8 := y182
      obtain rfl : n182 = 58 := z182
      obtain ⟨rfl, N182q, e182⟩ := hQ182
      have N182 := Fr.app N171 N182q
      refine own_toH T182 (mkF m 134 #[.val (.int i0), .val (.int i1), .val (.int i2), .val (.int i3), .val (.int i4), .val (.int i5), .val (.int va), .val (.int vb), .val (.int vc), .val (.int vd), .val (.int ve), .val (.int (257 : Int32)), .val (.int (256 : Int32)), .val (.ref b6), .val (.ref b68), .val (.int (1 : Int32)), .unset, .val (.ref b171)] [(.int (Int32.ofNat (1 - 0)))]) (fun tq kq => st182.trans kq) ?_
      rw [show (Int32.ofNat (1 - 0)) = (1 : Int32) from by decide]
      refine own_toH T182 (mkF m 142 #[.val (.int i0), .val (.int i1), .val (.int i2), .val (.int i3), .val (.int i4), .val (.int i5), .val (.int va), .val (.int vb), .val (.int vc), .val (.int vd), .val (.int ve), .val (.int (257 : Int32)), .val (.int (256 : Int32)), .val (.ref b6), .val (.ref b68), .val (.int (1 : Int32)), .unset, .val (.ref b171)] [(.int vb)]) (fun tq kq => XS.iconst X182.here hx rfl (hb hby at_134) (XS.icmpYes X182.here hx rfl (pc0 := 135) (pc' := 140) rfl (hb hby at_135) rfl (teq (by decide : (1 : Int32) = (1 : Int32))).1 (by decide) (by decide) (XS.iload X182.here hx rfl (hb hby at_140) rfl kq))) ?_
      by_cases hw1 : own_ws vb
      · skip
        obtain ⟨_, _, ⟨T183, L183, k183, n183⟩, -, X183, ⟨Lc183, hQ183, l183, y183, z183⟩, st183⟩ := Jvm.LawKit.callS X182 hx (y := (⟨"com/example/wayline/wayline/HeaderReaderSkipWhiteSpacePinLaw", "ws", "(C)Z"⟩ : MethodName)) hown (mvT hZ (own_w hw 151 rfl)) (mvT hZ (own_w hw 152 rfl)) (mvT hZ (own_w hw 2 rfl)) (mvT hZ (own_w hw 153 rfl)) (by decide) (backOf (W := 0) (rmWs1 l Z a0 hw [] vb T171.heap n0 Zs171 hw1) hZ (own_w hw 153 rfl) (own_w hw 2 rfl) (by decide) (by decide)) (g := (mkF m 142 #[.val (.int i0), .val (.int i1), .val (.int i2), .val (.int i3), .val (.int i4), .val (.int i5), .val (.int va), .val (.int vb), .val (.int vc), .val (.int vd), .val (.int ve), .val (.int (257 : Int32)), .val (.int (256 : Int32)), .val (.ref b6), .val (.ref b68), .val (.int (1 : Int32)), .unset, .val (.ref b171)] [(.int vb)])) rfl (by rw [hml]; rfl) (argsL := [(.int vb)]) (rest := []) (lenOf pd_28 rfl) rfl (by show 2 * 0 + _ ≤ _; exact Nat.le_of_eq rfl) (hb hby at_142) (fun _ _ => ⟨rfl, e182, (by decide : 8 + 0 ≤ _), (by decide : 58 + 0 ≤ _)⟩)
        dsimp only [Pt.U, Pt.locs, Pt.cells, Pt.slots] at X183 l183 y183 z183 st183 hQ183
        have l183y := l183.symm
        clear l183
        subst l183y
        obtain rfl : k183 = 8 := y183
        obtain rfl : n183 = 58 := z183
        obtain ⟨rfl, N183q, e183⟩ := hQ183
        have N183 := Fr.app N182 N183q
        refine own_toH T183 (mkF m 156 #[.val (.int i0), .val (.int i1), .val (.int i2), .val (.int i3), .val (.int i4), .val (.int i5), .val (.int va), .val (.int vb), .val (.int vc), .val (.int vd), .val (.int ve), .val (.int (257 : Int32)), .val (.int (256 : Int32)), .val (.ref b6), .val (.ref b68), .val (.int (1 : Int32)), .unset, .val (.ref b171)] [(.int vc)]) (fun tq kq => st183 _ (XS.ifYes X183.here hx rfl (pc0 := 145) (pc' := 154) rfl (hb hby at_145) rfl ((if0 _ _).trans (feq (by decide : ¬ ((1 : Int32) = (0 : Int32)))).2) (by decide) (by decide) (XS.iload X183.here hx rfl (hb hby at_154) rfl kq))) ?_
        by_cases hw2 : own_ws vc
        · skip
          obtain ⟨_, _, ⟨T184, L184, k184, n184⟩, -, X184, ⟨Lc184, hQ184, l184, y184, z184⟩, st184⟩ := Jvm.LawKit.callS X183 hx (y := (⟨"com/example/wayline/wayline/HeaderReaderSkipWhiteSpacePinLaw", "ws", "(C)Z"⟩ : MethodName)) hown (mvT hZ (own_w hw 151 rfl)) (mvT hZ (own_w hw 152 rfl)) (mvT hZ (own_w hw 2 rfl)) (mvT hZ (own_w hw 153 rfl)) (by decide) (backOf (W := 0) (rmWs1 l Z a0 hw [] vc T171.heap n0 Zs171 hw2) hZ (own_w hw 153 rfl) (own_w hw 2 rfl) (by decide) (by decide)) (g := (mkF m 156 #[.val (.int i0), .val (.int i1), .val (.int i2), .val (.int i3), .val (.int i4), .val (.int i5), .val (.int va), .val (.int vb), .val (.int vc), .val (.int vd), .val (.int ve), .val (.int (257 : Int32)), .val (.int (256 : Int32)), .val (.ref b6), .val (.ref b68), .val (.int (1 : Int32)), .unset, .val (.ref b171)] [(.int vc)])) rfl (by rw [hml]; rfl) (argsL := [(.int vc)]) (rest := []) (lenOf pd_28 rfl) rfl (by show 2 * 0 + _ ≤ _; exact Nat.le_of_eq rfl) (hb hby at_156) (fun _ _ => ⟨rfl, e183, (by decide : 8 + 0 ≤ _), (by decide : 58 + 0 ≤ _)⟩)
          dsimp only [Pt.U, Pt.locs, Pt.cells, Pt.slots] at X184 l184 y184 z184 st184 hQ184
          have l184y := l184.symm
          clear l184
          subst l184y
          obtain rfl : k184 = 8 := y184
          obtain rfl : n184 = 58 := z184
          obtain ⟨rfl, N184q, e184⟩ := hQ184
          have N184 := Fr.app N183 N184q
          refine own_toH T184 (mkF m 170 #[.val (.int i0), .val (.int i1), .val (.int i2), .val (.int i3), .val (.int i4), .val (.int i5), .val (.int va), .val (.int vb), .val (.int vc), .val (.int vd), .val (.int ve), .val (.int (257 : Int32)), .val (.int (256 : Int32)), .val (.ref b6), .val (.ref b68), .val (.int (1 : Int32)), .unset, .val (.ref b171)] [(.int vd)]) (fun tq kq => st184 _ (XS.ifYes X184.here hx rfl (pc0 := 159) (pc' := 168) rfl (hb hby at_159) rfl ((if0 _ _).trans (feq (by decide : ¬ ((1 : Int32) = (0 : Int32)))).2) (by decide) (by decide) (XS.iload X184.here hx rfl (hb hby at_168) rfl kq))) ?_
          by_cases hw3 : own_ws vd
          · skip
            obtain ⟨_, _, ⟨T185, L185, k185, n185⟩, -, X185, ⟨Lc185, hQ185, l185, y185, z185⟩, st185⟩ := Jvm.LawKit.callS X184 hx (y := (⟨"com/example/wayline/wayline/HeaderReaderSkipWhiteSpacePinLaw", "ws", "(C)Z"⟩ : MethodName)) hown (mvT hZ (own_w hw 151 rfl)) (mvT hZ (own_w hw 152 rfl)) (mvT hZ (own_w hw 2 rfl)) (mvT hZ (own_w hw 153 rfl)) (by decide) (backOf (W := 0) (rmWs1 l Z a0 hw [] vd T171.heap n0 Zs171 hw3) hZ (own_w hw 153 rfl) (own_w hw 2 rfl) (by decide) (by decide)) (g := (mkF m 170 #[.val (.int i0), .val (.int i1), .val (.int i2), .val (.int i3), .val (.int i4), .val (.int i5), .val (.int va), .val (.int vb), .val (.int vc), .val (.int vd), .val (.int ve), .val (.int (257 : Int32)), .val (.int (256 : Int32)), .val (.ref b6), .val (.ref b68), .val (.int (1 : Int32)), .unset, .val (.ref b171)] [(.int vd)])) rfl (by rw [hml]; rfl) (argsL := [(.int vd)]) (rest := []) (lenOf pd_28 rfl) rfl (by show 2 * 0 + _ ≤ _; exact Nat.le_of_eq rfl) (hb hby at_170) (fun _ _ => ⟨rfl, e184, (by decide : 8 + 0 ≤ _), (by decide : 58 + 0 ≤ _)⟩)
            dsimp only [Pt.U, Pt.locs, Pt.cells, Pt.slots] at X185 l185 y185 z185 st185 hQ185
            have l185y := l185.symm
            clear l185
            subst l185y
            obtain rfl : k185 = 8 := y185
            obtain rfl : n185 = 58 := z185
            obtain ⟨rfl, N185q, e185⟩ := hQ185
            have N185 := Fr.app N184 N185q
            refine own_toH T185 (mkF m 184 #[.val (.int i0), .val (.int i1), .val (.int i2), .val (.int i3), .val (.int i4), .val (.int i5), .val (.int va), .val (.int vb), .val (.int vc), .val (.int vd), .val (.int ve), .val (.int (257 : Int32)), .val (.int (256 : Int32)), .val (.ref b6), .val (.ref b68), .val (.int (1 : Int32)), .unset, .val (.ref b171)] [(.int ve)]) (fun tq kq => st185 _ (XS.ifYes X185.here hx rfl (pc0 := 173) (pc' := 182) rfl (hb hby at_173) rfl ((if0 _ _).trans (feq (by decide : ¬ ((1 : Int32) = (0 : Int32)))).2) (by decide) (by decide) (XS.iload X185.here hx rfl (hb hby at_182) rfl kq))) ?_
            by_cases hw4 : own_ws ve
            · skip
              obtain ⟨_, _, ⟨T186, L186, k186, n186⟩, -, X186, ⟨Lc186, hQ186, l186, y186, z186⟩, st186⟩ := Jvm.LawKit.callS X185 hx (y := (⟨"com/example/wayline/wayline/HeaderReaderSkipWhiteSpacePinLaw", "ws", "(C)Z"⟩ : MethodName)) hown (mvT hZ (own_w hw 151 rfl)) (mvT hZ (own_w hw 152 rfl)) (mvT hZ (own_w hw 2 rfl)) (mvT hZ (own_w hw 153 rfl)) (by decide) (backOf (W := 0) (rmWs1 l Z a0 hw [] ve T171.heap n0 Zs171 hw4) hZ (own_w hw 153 rfl) (own_w hw 2 rfl) (by decide) (by decide)) (g := (mkF m 184 #[.val (.int i0), .val (.int i1), .val (.int i2), .val (.int i3), .val (.int i4), .val (.int i5), .val (.int va), .val (.int vb), .val (.int vc), .val (.int vd), .val (.int ve), .val (.int (257 : Int32)), .val (.int (256 : Int32)), .val (.ref b6), .val (.ref b68), .val (.int (1 : Int32)), .unset, .val (.ref b171)] [(.int ve)])) rfl (by rw [hml]; rfl) (argsL := [(.int ve)]) (rest := []) (lenOf pd_28 rfl) rfl (by show 2 * 0 + _ ≤ _; exact Nat.le_of_eq rfl) (hb hby at_184) (fun _ _ => ⟨rfl, e185, (by decide : 8 + 0 ≤ _), (by decide : 58 + 0 ≤ _)⟩)
              dsimp only [Pt.U, Pt.locs, Pt.cells, Pt.slots] at X186 l186 y186 z186 st186 hQ186
              have l186y := l186.symm
              clear l186
              subst l186y
              obtain rfl : k186 = 8 := y186
              obtain rfl : n186 = 58 := z186
              obtain ⟨rfl, N186q, e186⟩ := hQ186
              have N186 := Fr.app N185 N186q
              refine own_toH T186 (mkF m 222 #[.val (.int i0), .val (.int i1), .val (.int i2), .val (.int i3), .val (.int i4), .val (.int i5), .val (.int va), .val (.int vb), .val (.int vc), .val (.int vd), .val (.int ve), .val (.int (257 : Int32)), .val (.int (256 : Int32)), .val (.ref b6), .val (.ref b68), .val (.int (1 : Int32)), .val (.int (6 : Int32)), .val (.ref b171)] [(.ref b68)]) (fun tq kq => st186 _ (XS.ifYes X186.here hx rfl (pc0 := 187) (pc' := 196) rfl (hb hby at_187) rfl ((if0 _ _).trans (feq (by decide : ¬ ((1 : Int32) = (0 : Int32)))).2) (by decide) (by decide) (XS.bipush X186.here hx rfl (hb hby at_196) (XS.istore X186.here hx rfl (hb hby at_198) rfl (l' := #[.val (.int i0), .val (.int i1), .val (.int i2), .val (.int i3), .val (.int i4), .val (.int i5), .val (.int va), .val (.int vb), .val (.int vc), .val (.int vd), .val (.int ve), .val (.int (257 : Int32)), .val (.int (256 : Int32)), .val (.ref b6), .val (.ref b68), .val (.int (1 : Int32)), .val (.int (6 : Int32)), .val (.ref b171)]) rfl (XS.goto X186.here hx rfl (pc0 := 200) (pc' := 220) rfl (hb hby at_200) (by decide) (by decide) (XS.aload X186.here hx rfl (hb hby at_220) rfl rfl kq)))))) ?_
              obtain ⟨cq187, kq187, q187a, q187b, q187c⟩ := isOf hZ e186 E171q
              obtain ⟨_, _, ⟨T187, L187, k187, n187⟩, -, X187, ⟨Lc187, hQ187, l187, y187, z187⟩, st187⟩ := X186.virtualBack hx (y := (⟨"com/example/wayline/wayline/HeaderReader", "skipWhiteSpace", "()V"⟩ : MethodName)) (z := (⟨"com/example/wayline/wayline/HeaderReader", "skipWhiteSpace", "()V"⟩ : MethodName)) hown (mvT hZ (own_w hw 154 rfl)) (mvT hZ (own_w hw 155 rfl)) (notFace_of_selects (args := #[]) (mvT hZ (own_w hw 157 rfl))) (mvT hZ (own_w hw 157 rfl)) (mvT hZ (own_w hw 156 rfl)) (by decide) (backOf (W := 0) (rmSkip l Z a0 hw [] b68 b76 t88 2 ff88 (own_c7 va vb vc vd ve) G1 vF T171.heap n0 Zs171 f175 hG f176 hvF f172 f173 f174 E171q V171q P171q f178 f179 f180 f181 U88q (by omega) ne_b68_b76 ne_b68_t88 sz68) hZ (own_w hw 158 rfl) (own_w hw 7 rfl) (by decide) (by decide)) q187a q187c (g := (mkF m 222 #[.val (.int i0), .val (.int i1), .val (.int i2), .val (.int i3), .val (.int i4), .val (.int i5), .val (.int va), .val (.int vb), .val (.int vc), .val (.int vd), .val (.int ve), .val (.int (257 : Int32)), .val (.int (256 : Int32)), .val (.ref b6), .val (.ref b68), .val (.int (1 : Int32)), .val (.int (6 : Int32)), .val (.ref b171)] [(.ref b68)])) rfl (by rw [hml]; rfl) (Steps.refl _) (argsL := []) (rest := []) (lenOf pd_3 rfl) rfl (by show 2 * 0 + _ ≤ _; exact Nat.le_of_eq rfl) (hb hby at_222) (fun _ _ => ⟨rfl, e186, (by decide : 8 + 0 ≤ _), (by decide : 58 + 0 ≤ _)⟩)
              dsimp only [Pt.U, Pt.locs, Pt.cells, Pt.slots] at X187 l187 y187 z187 st187 hQ187
              have l187y := l187.symm
              clear l187
              subst l187y
              obtain rfl : k187 = 8 := y187
              obtain rfl : n187 = 58 := z187
              obtain ⟨rfl, N187q, K187q, E187q, V187q, q1, hq0, hqn, P187q, hall, hstop⟩ := hQ187
              have N187 := Fr.app N186 N187q
              have hle1 : ¬ 6 < q1 := (fun z => own_w256 (hall 6 (by omega) z))
              have hge1 : ¬ q1 < 6 := fun z => by
                have h3 : q1 = 2 ∨ q1 = 3 ∨ q1 = 4 ∨ q1 = 5 := (by omega)
                rcases h3 with rfl | rfl | rfl | rfl
                · exact hstop (by decide) hw1
                · exact hstop (by decide) hw2
                · exact hstop (by decide) hw3
                · exact hstop (by decide) hw4
              obtain rfl : q1 = 6 := (by omega)
              have f188 := own_staX f172 K187q E171q
              have f189 := own_staX f173 K187q E171q
              have f190 := own_staX f174 K187q E171q
              have f191 := own_staX f175 K187q E171q
              have f192 := own_staX f176 K187q E171q
              have f193 := E171q.keep K187q
              have f194 := f178.keep K187q
              have f195 := f179.keep K187q (ninS (Ne.symm ne_b68_b76) nin0)
              have f196 := f180.keep K187q (ninS (Ne.symm ne_b68_b76) nin0)
              have f197 := f181.keep K187q (ninS (Ne.symm ne_b68_t88) nin0)
              have f198 := Er171.keep K187q
              have Zs187 : n0 ≤ T187.heap.size := Nat.le_trans Zs171 K187q.1
              have hk := Nat.le_trans hk K187q.1
              have C187 := C171.trans (CHr.keep K187q (allS (Safe.exa hZ.alike E171q (by decide) (by decide)) all0) C171.1)
              refine own_toH T187 (mkF m 229 #[.val (.int i0), .val (.int i1), .val (.int i2), .val (.int i3), .val (.int i4), .val (.int i5), .val (.int va), .val (.int vb), .val (.int vc), .val (.int vd), .val (.int ve), .val (.int (257 : Int32)), .val (.int (256 : Int32)), .val (.ref b6), .val (.ref b68), .val (.int (1 : Int32)), .val (.int (6 : Int32)), .val (.ref b171)] [(.int (256 : Int32)), (.ref b68)]) (fun tq kq => st187.trans (XS.aload X187.here hx rfl (hb hby at_225) rfl rfl (XS.iload X187.here hx rfl (hb hby at_227) rfl kq))) ?_
              obtain ⟨cq199, kq199, q199a, q199b, q199c⟩ := isOf hZ rfl E187q
              obtain ⟨_, _, ⟨T199, L199, k199, n199⟩, -, X199, hS199, hgr199, ⟨Lc199, hQ199, l199, y199, z199, hC199⟩, st199⟩ := X187.virtualBackS hx (y := (⟨"com/example/wayline/wayline/HeaderReader", "textBefore", "(C)Ljava/lang/String;"⟩ : MethodName)) (z := (⟨"com/example/wayline/wayline/HeaderReader", "textBefore", "(C)Ljava/lang/String;"⟩ : MethodName)) hown (mvT hZ (own_w hw 62 rfl)) (mvT hZ (own_w hw 63 rfl)) (notFace_of_selects (args := #[]) (mvT hZ (own_w hw 65 rfl))) (mvT hZ (own_w hw 65 rfl)) (mvT hZ (own_w hw 64 rfl)) (by decide) (backOfSH (W := 0) (rmTB l Z a0 hw [] b68 b76 t88 6 6 ff88 (own_c7 va vb vc vd ve) (256 : Int32) G1 vF T187.heap n0 Zs187 f191 hG f192 hvF f188 f189 f190 E187q V187q P187q f194 f195 f196 f197 U88q (by decide) (by decide) (by decide) rfl (fun i h1 h2 => own_n256 hcva hcvb hcvc hcvd hcve h2) sz68 hEL) hZ (own_w hw 66 rfl) (own_w hw 7 rfl) (by decide) (by decide) hEL C187.1) q199a q199c (g := (mkF m 229 #[.val (.int i0), .val (.int i1), .val (.int i2), .val (.int i3), .val (.int i4), .val (.int i5), .val (.int va), .val (.int vb), .val (.int vc), .val (.int vd), .val (.int ve), .val (.int (257 : Int32)), .val (.int (256 : Int32)), .val (.ref b6), .val (.ref b68), .val (.int (1 : Int32)), .val (.int (6 : Int32)), .val (.ref b171)] [(.int (256 : Int32)), (.ref b68)])) rfl (by rw [hml]; rfl) (Steps.refl _) (argsL := [(.int (256 : Int32))]) (rest := []) (lenOf pd_12 rfl) rfl (by show 2 * 0 + _ ≤ _; exact Nat.le_of_eq rfl) (hb hby at_229) (fun _ _ => ⟨rfl, rfl, (by decide : 8 + 3 ≤ _), (by decide : 58 + 24 ≤ _)⟩)
              dsimp only [Pt.U, Pt.locs, Pt.cells, Pt.slots] at X199 l199 y199 z199 st199 hQ199
              have l199y := l199.symm
              clear l199
              subst l199y
              obtain rfl : k199 = 11 := y199
              obtain rfl : n199 = 82 := z199
              dsimp only [Pt.U, Pt.locs, Pt.cells, Pt.slots] at hS199 hgr199 hC199
              have C199 := C187.trans hC199
              obtain ⟨X199, hS, hZ, hown⟩ := rebS hS hk X199 hS199 hgr199 hZ hown
              have hk := Nat.le_refl T199.heap.size
              obtain ⟨b199, tb199, nn199, gg199, rfl, N199q, K199q, E199q, V199q, P199q, Er199, Vr199, Ar199, or199⟩ := hQ199
              have N199 := Fr.app N187 N199q
              have f200 := own_staX f188 K199q E187q
              have f201 := own_staX f189 K199q E187q
              have f202 := own_staX f190 K199q E187q
              have f203 := own_staX f191 K199q E187q
              have f204 := own_staX f192 K199q E187q
              have f205 := E187q.keep K199q
              have f206 := f194.keep K199q
              have f207 := f195.keep K199q (ninS (Ne.symm ne_b68_b76) nin0)
              have f208 := f196.keep K199q (ninS (Ne.symm ne_b68_b76) nin0)
              have f209 := f197.keep K199q (ninS (Ne.symm ne_b68_t88) nin0)
              have f210 := f198.keep K199q
              have Zs199 : n0 ≤ T199.heap.size := Nat.le_trans Zs187 K199q.1
              refine own_toH T199 (mkF m 236 #[.val (.int i0), .val (.int i1), .val (.int i2), .val (.int i3), .val (.int i4), .val (.int i5), .val (.int va), .val (.int vb), .val (.int vc), .val (.int vd), .val (.int ve), .val (.int (257 : Int32)), .val (.int (256 : Int32)), .val (.ref b6), .val (.ref b68), .val (.int (1 : Int32)), .val (.int (6 : Int32)), .val (.ref b199)] [(.ref b199)]) (fun tq kq => st199.trans (XS.astore X199.here hx rfl (hb hby at_232) rfl rfl (l' := #[.val (.int i0), .val (.int i1), .val (.int i2), .val (.int i3), .val (.int i4), .val (.int i5), .val (.int va), .val (.int vb), .val (.int vc), .val (.int vd), .val (.int ve), .val (.int (257 : Int32)), .val (.int (256 : Int32)), .val (.ref b6), .val (.ref b68), .val (.int (1 : Int32)), .val (.int (6 : Int32)), .val (.ref b199)]) rfl (XS.aload X199.here hx rfl (hb hby at_234) rfl rfl kq))) ?_
              rcases or199 with or199 | or199
              · skip
                obtain ⟨cq211, kq211, q211a, q211b, q211c⟩ := isOf hZ rfl Er199
                obtain ⟨_, _, ⟨T211, L211, k211, n211⟩, -, X211, ⟨Lc211, hQ211, l211, y211, z211⟩, st211⟩ := X199.virtualBack hx (y := (⟨"java/lang/String", "length", "()I"⟩ : MethodName)) (z := (⟨"java/lang/String", "length", "()I"⟩ : MethodName)) hown (mvT hZ (own_w hw 150 rfl)) (mvT hZ (own_w hw 80 rfl)) (notFace_of_selects (args := #[]) (mvT hZ (own_w hw 82 rfl))) (mvT hZ (own_w hw 82 rfl)) (mvT hZ (own_w hw 81 rfl)) (by decide) (backOf (W := 0) (rmLen l Z a0 hw [] b199 tb199 (6 - 6) gg199 G1 T199.heap n0 Zs199 f203 hG Er199 Vr199 or199.1 (own_barreq Ar199 or199.2)) hZ (own_w hw 83 rfl) (own_w hw 10 rfl) (by decide) (by decide)) q211a q211c (g := (mkF m 236 #[.val (.int i0), .val (.int i1), .val (.int i2), .val (.int i3), .val (.int i4), .val (.int i5), .val (.int va), .val (.int vb), .val (.int vc), .val (.int vd), .val (.int ve), .val (.int (257 : Int32)), .val (.int (256 : Int32)), .val (.ref b6), .val (.ref b68), .val (.int (1 : Int32)), .val (.int (6 : Int32)), .val (.ref b199)] [(.ref b199)])) rfl (by rw [hml]; rfl) (Steps.refl _) (argsL := []) (rest := []) (lenOf pd_15 rfl) rfl (by show 2 * 0 + _ ≤ _; exact Nat.le_of_eq rfl) (hb hby at_236) (fun _ _ => ⟨rfl, rfl, (by decide : 11 + 0 ≤ _), (by decide : 82 + 0 ≤ _)⟩)
                dsimp only [Pt.U, Pt.locs, Pt.cells, Pt.slots] at X211 l211 y211 z211 st211 hQ211
                have l211y := l211.symm
                clear l211
                subst l211y
                obtain rfl : k211 = 11 := y211
                obtain rfl : n211 = 82 := z211
                obtain ⟨rfl, N211q, e211⟩ := hQ211
                have N211 := Fr.app N199 N211q
                refine own_toH T211 (mkF m 239 #[.val (.int i0), .val (.int i1), .val (.int i2), .val (.int i3), .val (.int i4), .val (.int i5), .val (.int va), .val (.int vb), .val (.int vc), .val (.int vd), .val (.int ve), .val (.int (257 : Int32)), .val (.int (256 : Int32)), .val (.ref b6), .val (.ref b68), .val (.int (1 : Int32)), .val (.int (6 : Int32)), .val (.ref b199)] [(.int (Int32.ofNat (6 - 6)))]) (fun tq kq => st211.trans kq) ?_
                rw [show (Int32.ofNat (6 - 6)) = (0 : Int32) from by decide]
                refine own_toH T211 (mkF m 244 #[.val (.int i0), .val (.int i1), .val (.int i2), .val (.int i3), .val (.int i4), .val (.int i5), .val (.int va), .val (.int vb), .val (.int vc), .val (.int vd), .val (.int ve), .val (.int (257 : Int32)), .val (.int (256 : Int32)), .val (.ref b6), .val (.ref b68), .val (.int (1 : Int32)), .val (.int (6 : Int32)), .val (.ref b199)] [(.int ((6 : Int32) - (6 : Int32))), (.int (0 : Int32))]) (fun tq kq => XS.bipush X211.here hx rfl (hb hby at_239) (XS.iload X211.here hx rfl (hb hby at_241) rfl (XS.isub X211.here hx rfl (hb hby at_243) rfl kq))) ?_
                rw [show ((6 : Int32) - (6 : Int32)) = (0 : Int32) from by decide]
                refine own_toH T211 (mkF m 252 #[.val (.int i0), .val (.int i1), .val (.int i2), .val (.int i3), .val (.int i4), .val (.int i5), .val (.int va), .val (.int vb), .val (.int vc), .val (.int vd), .val (.int ve), .val (.int (257 : Int32)), .val (.int (256 : Int32)), .val (.ref b6), .val (.ref b68), .val (.int (1 : Int32)), .val (.int (6 : Int32)), .val (.ref b199)] [(.int (1 : Int32))]) (fun tq kq => XS.icmpNo X211.here hx rfl (hb hby at_244) rfl (teq (by decide : (0 : Int32) = (0 : Int32))).2 (XS.iconst X211.here hx rfl (hb hby at_247) (XS.goto X211.here hx rfl (pc0 := 248) (pc' := 252) rfl (hb hby at_248) (by decide) (by decide) kq))) ?_
                exact own_retZH X211 hS (by rw [e211]; exact hk) hZ hEL (by rw [e211]; exact C199) hx hret hlk (hb hby at_252) (by decide) (by decide) (Or.inr rfl) ⟨rfl, N211⟩
              · skip
                obtain ⟨cq212, kq212, q212a, q212b, q212c⟩ := isOf hZ rfl Er199
                obtain ⟨_, _, ⟨T212, L212, k212, n212⟩, -, X212, ⟨Lc212, hQ212, l212, y212, z212⟩, st212⟩ := X199.virtualBack hx (y := (⟨"java/lang/String", "length", "()I"⟩ : MethodName)) (z := (⟨"java/lang/String", "length", "()I"⟩ : MethodName)) hown (mvT hZ (own_w hw 150 rfl)) (mvT hZ (own_w hw 80 rfl)) (notFace_of_selects (args := #[]) (mvT hZ (own_w hw 82 rfl))) (mvT hZ (own_w hw 82 rfl)) (mvT hZ (own_w hw 81 rfl)) (by decide) (backOf (W := 0) (rmLen1 l Z a0 hw [] b199 tb199 (6 - 6) gg199 G1 T199.heap n0 Zs199 f203 hG Er199 Vr199 or199.1 (own_barreq Ar199 or199.2) (by decide)) hZ (own_w hw 83 rfl) (own_w hw 10 rfl) (by decide) (by decide)) q212a q212c (g := (mkF m 236 #[.val (.int i0), .val (.int i1), .val (.int i2), .val (.int i3), .val (.int i4), .val (.int i5), .val (.int va), .val (.int vb), .val (.int vc), .val (.int vd), .val (.int ve), .val (.int (257 : Int32)), .val (.int (256 : Int32)), .val (.ref b6), .val (.ref b68), .val (.int (1 : Int32)), .val (.int (6 : Int32)), .val (.ref b199)] [(.ref b199)])) rfl (by rw [hml]; rfl) (Steps.refl _) (argsL := []) (rest := []) (lenOf pd_15 rfl) rfl (by show 2 * 0 + _ ≤ _; exact Nat.le_of_eq rfl) (hb hby at_236) (fun _ _ => ⟨rfl, rfl, (by decide : 11 + 0 ≤ _), (by decide : 82 + 0 ≤ _)⟩)
                dsimp only [Pt.U, Pt.locs, Pt.cells, Pt.slots] at X212 l212 y212 z212 st212 hQ212
                have l212y := l212.symm
                clear l212
                subst l212y
                obtain rfl : k212 = 11 := y212
                obtain rfl : n212 = 82 := z212
                obtain ⟨rfl, N212q, e212⟩ := hQ212
                have N212 := Fr.app N199 N212q
                refine own_toH T212 (mkF m 239 #[.val (.int i0), .val (.int i1), .val (.int i2), .val (.int i3), .val (.int i4), .val (.int i5), .val (.int va), .val (.int vb), .val (.int vc), .val (.int vd), .val (.int ve), .val (.int (257 : Int32)), .val (.int (256 : Int32)), .val (.ref b6), .val (.ref b68), .val (.int (1 : Int32)), .val (.int (6 : Int32)), .val (.ref b199)] [(.int (Int32.ofNat (6 - 6)))]) (fun tq kq => st212.trans kq) ?_
                rw [show (Int32.ofNat (6 - 6)) = (0 : Int32) from by decide]
                refine own_toH T212 (mkF m 244 #[.val (.int i0), .val (.int i1), .val (.int i2), .val (.int i3), .val (.int i4), .val (.int i5), .val (.int va), .val (.int vb), .val (.int vc), .val (.int vd), .val (.int ve), .val (.int (257 : Int32)), .val (.int (256 : Int32)), .val (.ref b6), .val (.ref b68), .val (.int (1 : Int32)), .val (.int (6 : Int32)), .val (.ref b199)] [(.int ((6 : Int32) - (6 : Int32))), (.int (0 : Int32))]) (fun tq kq => XS.bipush X212.here hx rfl (hb hby at_239) (XS.iload X212.here hx rfl (hb hby at_241) rfl (XS.isub X212.here hx rfl (hb hby at_243) rfl kq))) ?_
                rw [show ((6 : Int32) - (6 : Int32)) = (0 : Int32) from by decide]
                refine own_toH T212 (mkF m 252 #[.val (.int i0), .val (.int i1), .val (.int i2), .val (.int i3), .val (.int i4), .val (.int i5), .val (.int va), .val (.int vb), .val (.int vc), .val (.int vd), .val (.int ve), .val (.int (257 : Int32)), .val (.int (256 : Int32)), .val (.ref b6), .val (.ref b68), .val (.int (1 : Int32)), .val (.int (6 : Int32)), .val (.ref b199)] [(.int (1 : Int32))]) (fun tq kq => XS.icmpNo X212.here hx rfl (hb hby at_244) rfl (teq (by decide : (0 : Int32) = (0 : Int32))).2 (XS.iconst X212.here hx rfl (hb hby at_247) (XS.goto X212.here hx rfl (pc0 := 248) (pc' := 252) rfl (hb hby at_248) (by decide) (by decide) kq))) ?_
                exact own_retZH X212 hS (by rw [e212]; exact hk) hZ hEL (by rw [e212]; exact C199) hx hret hlk (hb hby at_252) (by decide) (by decide) (Or.inr rfl) ⟨rfl, N212⟩
            · skip
              obtain ⟨_, _, ⟨T213, L213, k213, n213⟩, -, X213, ⟨Lc213, hQ213, l213, y213, z213⟩, st213⟩ := Jvm.LawKit.callS X185 hx (y := (⟨"com/example/wayline/wayline/HeaderReaderSkipWhiteSpacePinLaw", "ws", "(C)Z"⟩ : MethodName)) hown (mvT hZ (own_w hw 151 rfl)) (mvT hZ (own_w hw 152 rfl)) (mvT hZ (own_w hw 2 rfl)) (mvT hZ (own_w hw 153 rfl)) (by decide) (backOf (W := 0) (rmWs0 l Z a0 hw [] ve T171.heap n0 Zs171 hw4) hZ (own_w hw 153 rfl) (own_w hw 2 rfl) (by decide) (by decide)) (g := (mkF m 184 #[.val (.int i0), .val (.int i1), .val (.int i2), .val (.int i3), .val (.int i4), .val (.int i5), .val (.int va), .val (.int vb), .val (.int vc), .val (.int vd), .val (.int ve), .val (.int (257 : Int32)), .val (.int (256 : Int32)), .val (.ref b6), .val (.ref b68), .val (.int (1 : Int32)), .unset, .val (.ref b171)] [(.int ve)])) rfl (by rw [hml]; rfl) (argsL := [(.int ve)]) (rest := []) (lenOf pd_28 rfl) rfl (by show 2 * 0 + _ ≤ _; exact Nat.le_of_eq rfl) (hb hby at_184) (fun _ _ => ⟨rfl, e185, (by decide : 8 + 0 ≤ _), (by decide : 58 + 0 ≤ _)⟩)
              dsimp only [Pt.U, Pt.locs, Pt.cells, Pt.slots] at X213 l213 y213 z213 st213 hQ213
              have l213y := l213.symm
              clear l213
              subst l213y
              obtain rfl : k213 = 8 := y213
              obtain rfl : n213 = 58 := z213
              obtain ⟨rfl, N213q, e213⟩ := hQ213
              have N213 := Fr.app N185 N213q
              refine own_toH T213 (mkF m 222 #[.val (.int i0), .val (.int i1), .val (.int i2), .val (.int i3), .val (.int i4), .val (.int i5), .val (.int va), .val (.int vb), .val (.int vc), .val (.int vd), .val (.int ve), .val (.int (257 : Int32)), .val (.int (256 : Int32)), .val (.ref b6), .val (.ref b68), .val (.int (1 : Int32)), .val (.int (5 : Int32)), .val (.ref b171)] [(.ref b68)]) (fun tq kq => st213 _ (XS.ifNo X213.here hx rfl (hb hby at_187) rfl ((if0 _ _).trans (teq (by decide : (0 : Int32) = (0 : Int32))).2) (XS.iconst X213.here hx rfl (hb hby at_190) (XS.istore X213.here hx rfl (hb hby at_191) rfl (l' := #[.val (.int i0), .val (.int i1), .val (.int i2), .val (.int i3), .val (.int i4), .val (.int i5), .val (.int va), .val (.int vb), .val (.int vc), .val (.int vd), .val (.int ve), .val (.int (257 : Int32)), .val (.int (256 : Int32)), .val (.ref b6), .val (.ref b68), .val (.int (1 : Int32)), .val (.int (5 : Int32)), .val (.ref b171)]) rfl (XS.goto X213.here hx rfl (pc0 := 193) (pc' := 200) rfl (hb hby at_193) (by decide) (by decide) (XS.goto X213.here hx rfl (pc0 := 200) (pc' := 220) rfl (hb hby at_200) (by decide) (by decide) (XS.aload X213.here hx rfl (hb hby at_220) rfl rfl kq))))))) ?_
              obtain ⟨cq214, kq214, q214a, q214b, q214c⟩ := isOf hZ e213 E171q
              obtain ⟨_, _, ⟨T214, L214, k214, n214⟩, -, X214, ⟨Lc214, hQ214, l214, y214, z214⟩, st214⟩ := X213.virtualBack hx (y := (⟨"com/example/wayline/wayline/HeaderReader", "skipWhiteSpace", "()V"⟩ : MethodName)) (z := (⟨"com/example/wayline/wayline/HeaderReader", "skipWhiteSpace", "()V"⟩ : MethodName)) hown (mvT hZ (own_w hw 154 rfl)) (mvT hZ (own_w hw 155 rfl)) (notFace_of_selects (args := #[]) (mvT hZ (own_w hw 157 rfl))) (mvT hZ (own_w hw 157 rfl)) (mvT hZ (own_w hw 156 rfl)) (by decide) (backOf (W := 0) (rmSkip l Z a0 hw [] b68 b76 t88 2 ff88 (own_c7 va vb vc vd ve) G1 vF T171.heap n0 Zs171 f175 hG f176 hvF f172 f173 f174 E171q V171q P171q f178 f179 f180 f181 U88q (by omega) ne_b68_b76 ne_b68_t88 sz68) hZ (own_w hw 158 rfl) (own_w hw 7 rfl) (by decide) (by decide)) q214a q214c (g := (mkF m 222 #[.val (.int i0), .val (.int i1), .val (.int i2), .val (.int i3), .val (.int i4), .val (.int i5), .val (.int va), .val (.int vb), .val (.int vc), .val (.int vd), .val (.int ve), .val (.int (257 : Int32)), .val (.int (256 : Int32)), .val (.ref b6), .val (.ref b68), .val (.int (1 : Int32)), .val (.int (5 : Int32)), .val (.ref b171)] [(.ref b68)])) rfl (by rw [hml]; rfl) (Steps.refl _) (argsL := []) (rest := []) (lenOf pd_3 rfl) rfl (by show 2 * 0 + _ ≤ _; exact Nat.le_of_eq rfl) (hb hby at_222) (fun _ _ => ⟨rfl, e213, (by decide : 8 + 0 ≤ _), (by decide : 58 + 0 ≤ _)⟩)
              dsimp only [Pt.U, Pt.locs, Pt.cells, Pt.slots] at X214 l214 y214 z214 st214 hQ214
              have l214y := l214.symm
              clear l214
              subst l214y
              obtain rfl : k214 = 8 := y214
              obtain rfl : n214 = 58 := z214
              obtain ⟨rfl, N214q, K214q, E214q, V214q, q1, hq0, hqn, P214q, hall, hstop⟩ := hQ214
              have N214 := Fr.app N213 N214q
              have hle1 : ¬ 5 < q1 := (fun z => hw4 (hall 5 (by omega) z))
              have hge1 : ¬ q1 < 5 := fun z => by
                have h3 : q1 = 2 ∨ q1 = 3 ∨ q1 = 4 := (by omega)
                rcases h3 with rfl | rfl | rfl
                · exact hstop (by decide) hw1
                · exact hstop (by decide) hw2
                · exact hstop (by decide) hw3
              obtain rfl : q1 = 5 := (by omega)
              have f215 := own_staX f172 K214q E171q
              have f216 := own_staX f173 K214q E171q
              have f217 := own_staX f174 K214q E171q
              have f218 := own_staX f175 K214q E171q
              have f219 := own_staX f176 K214q E171q
              have f220 := E171q.keep K214q
              have f221 := f178.keep K214q
              have f222 := f179.keep K214q (ninS (Ne.symm ne_b68_b76) nin0)
              have f223 := f180.keep K214q (ninS (Ne.symm ne_b68_b76) nin0)
              have f224 := f181.keep K214q (ninS (Ne.symm ne_b68_t88) nin0)
              have f225 := Er171.keep K214q
              have Zs214 : n0 ≤ T214.heap.size := Nat.le_trans Zs171 K214q.1
              have hk := Nat.le_trans hk K214q.1
              have C214 := C171.trans (CHr.keep K214q (allS (Safe.exa hZ.alike E171q (by decide) (by decide)) all0) C171.1)
              refine own_toH T214 (mkF m 229 #[.val (.int i0), .val (.int i1), .val (.int i2), .val (.int i3), .val (.int i4), .val (.int i5), .val (.int va), .val (.int vb), .val (.int vc), .val (.int vd), .val (.int ve), .val (.int (257 : Int32)), .val (.int (256 : Int32)), .val (.ref b6), .val (.ref b68), .val (.int (1 : Int32)), .val (.int (5 : Int32)), .val (.ref b171)] [(.int (256 : Int32)), (.ref b68)]) (fun tq kq => st214.trans (XS.aload X214.here hx rfl (hb hby at_225) rfl rfl (XS.iload X214.here hx rfl (hb hby at_227) rfl kq))) ?_
              obtain ⟨cq226, kq226, q226a, q226b, q226c⟩ := isOf hZ rfl E214q
              obtain ⟨_, _, ⟨T226, L226, k226, n226⟩, -, X226, hS226, hgr226, ⟨Lc226, hQ226, l226, y226, z226, hC226⟩, st226⟩ := X214.virtualBackS hx (y := (⟨"com/example/wayline/wayline/HeaderReader", "textBefore", "(C)Ljava/lang/String;"⟩ : MethodName)) (z := (⟨"com/example/wayline/wayline/HeaderReader", "textBefore", "(C)Ljava/lang/String;"⟩ : MethodName)) hown (mvT hZ (own_w hw 62 rfl)) (mvT hZ (own_w hw 63 rfl)) (notFace_of_selects (args := #[]) (mvT hZ (own_w hw 65 rfl))) (mvT hZ (own_w hw 65 rfl)) (mvT hZ (own_w hw 64 rfl)) (by decide) (backOfSH (W := 0) (rmTB l Z a0 hw [] b68 b76 t88 5 6 ff88 (own_c7 va vb vc vd ve) (256 : Int32) G1 vF T214.heap n0 Zs214 f218 hG f219 hvF f215 f216 f217 E214q V214q P214q f221 f222 f223 f224 U88q (by decide) (by decide) (by decide) rfl (fun i h1 h2 => own_n256 hcva hcvb hcvc hcvd hcve h2) sz68 hEL) hZ (own_w hw 66 rfl) (own_w hw 7 rfl) (by decide) (by decide) hEL C214.1) q226a q226c (g := (mkF m 229 #[.val (.int i0), .val (.int i1), .val (.int i2), .val (.int i3), .val (.int i4), .val (.int i5), .val (.int va), .val (.int vb), .val (.int vc), .val (.int vd), .val (.int ve), .val (.int (257 : Int32)), .val (.int (256 : Int32)), .val (.ref b6), .val (.ref b68), .val (.int (1 : Int32)), .val (.int (5 : Int32)), .val (.ref b171)] [(.int (256 : Int32)), (.ref b68)])) rfl (by rw [hml]; rfl) (Steps.refl _) (argsL := [(.int (256 : Int32))]) (rest := []) (lenOf pd_12 rfl) rfl (by show 2 * 0 + _ ≤ _; exact Nat.le_of_eq rfl) (hb hby at_229) (fun _ _ => ⟨rfl, rfl, (by decide : 8 + 3 ≤ _), (by decide : 58 + 24 ≤ _)⟩)
              dsimp only [Pt.U, Pt.locs, Pt.cells, Pt.slots] at X226 l226 y226 z226 st226 hQ226
              have l226y := l226.symm
              clear l226
              subst l226y
              obtain rfl : k226 = 11 := y226
              obtain rfl : n226 = 82 := z226
              dsimp only [Pt.U, Pt.locs, Pt.cells, Pt.slots] at hS226 hgr226 hC226
              have C226 := C214.trans hC226
              obtain ⟨X226, hS, hZ, hown⟩ := rebS hS hk X226 hS226 hgr226 hZ hown
              have hk := Nat.le_refl T226.heap.size
              obtain ⟨b226, tb226, nn226, gg226, rfl, N226q, K226q, E226q, V226q, P226q, Er226, Vr226, Ar226, or226⟩ := hQ226
              have N226 := Fr.app N214 N226q
              have f227 := own_staX f215 K226q E214q
              have f228 := own_staX f216 K226q E214q
              have f229 := own_staX f217 K226q E214q
              have f230 := own_staX f218 K226q E214q
              have f231 := own_staX f219 K226q E214q
              have f232 := E214q.keep K226q
              have f233 := f221.keep K226q
              have f234 := f222.keep K226q (ninS (Ne.symm ne_b68_b76) nin0)
              have f235 := f223.keep K226q (ninS (Ne.symm ne_b68_b76) nin0)
              have f236 := f224.keep K226q (ninS (Ne.symm ne_b68_t88) nin0)
              have f237 := f225.keep K226q
              have Zs226 : n0 ≤ T226.heap.size := Nat.le_trans Zs214 K226q.1
              refine own_toH T226 (mkF m 236 #[.val (.int i0), .val (.int i1), .val (.int i2), .val (.int i3), .val (.int i4), .val (.int i5), .val (.int va), .val (.int vb), .val (.int vc), .val (.int vd), .val (.int ve), .val (.int (257 : Int32)), .val (.int (256 : Int32)), .val (.ref b6), .val (.ref b68), .val (.int (1 : Int32)), .val (.int (5 : Int32)), .val (.ref b226)] [(.ref b226)]) (fun tq kq => st226.trans (XS.astore X226.here hx rfl (hb hby at_232) rfl rfl (l' := #[.val (.int i0), .val (.int i1), .val (.int i2), .val (.int i3), .val (.int i4), .val (.int i5), .val (.int va), .val (.int vb), .val (.int vc), .val (.int vd), .val (.int ve), .val (.int (257 : Int32)), .val (.int (256 : Int32)), .val (.ref b6), .val (.ref b68), .val (.int (1 : Int32)), .val (.int (5 : Int32)), .val (.ref b226)]) rfl (XS.aload X226.here hx rfl (hb hby at_234) rfl rfl kq))) ?_
              rcases or226 with or226 | or226
              · skip
                obtain ⟨cq238, kq238, q238a, q238b, q238c⟩ := isOf hZ rfl Er226
                obtain ⟨_, _, ⟨T238, L238, k238, n238⟩, -, X238, ⟨Lc238, hQ238, l238, y238, z238⟩, st238⟩ := X226.virtualBack hx (y := (⟨"java/lang/String", "length", "()I"⟩ : MethodName)) (z := (⟨"java/lang/String", "length", "()I"⟩ : MethodName)) hown (mvT hZ (own_w hw 150 rfl)) (mvT hZ (own_w hw 80 rfl)) (notFace_of_selects (args := #[]) (mvT hZ (own_w hw 82 rfl))) (mvT hZ (own_w hw 82 rfl)) (mvT hZ (own_w hw 81 rfl)) (by decide) (backOf (W := 0) (rmLen l Z a0 hw [] b226 tb226 (6 - 5) gg226 G1 T226.heap n0 Zs226 f230 hG Er226 Vr226 or226.1 (own_barreq Ar226 or226.2)) hZ (own_w hw 83 rfl) (own_w hw 10 rfl) (by decide) (by decide)) q238a q238c (g := (mkF m 236 #[.val (.int i0), .val (.int i1), .val (.int i2), .val (.int i3), .val (.int i4), .val (.int i5), .val (.int va), .val (.int vb), .val (.int vc), .val (.int vd), .val (.int ve), .val (.int (257 : Int32)), .val (.int (256 : Int32)), .val (.ref b6), .val (.ref b68), .val (.int (1 : Int32)), .val (.int (5 : Int32)), .val (.ref b226)] [(.ref b226)])) rfl (by rw [hml]; rfl) (Steps.refl _) (argsL := []) (rest := []) (lenOf pd_15 rfl) rfl (by show 2 * 0 + _ ≤ _; exact Nat.le_of_eq rfl) (hb hby at_236) (fun _ _ => ⟨rfl, rfl, (by decide : 11 + 0 ≤ _), (by decide : 82 + 0 ≤ _)⟩)
                dsimp only [Pt.U, Pt.locs, Pt.cells, Pt.slots] at X238 l238 y238 z238 st238 hQ238
                have l238y := l238.symm
                clear l238
                subst l238y
                obtain rfl : k238 = 11 := y238
                obtain rfl : n238 = 82 := z238
                obtain ⟨rfl, N238q, e238⟩ := hQ238
                have N238 := Fr.app N226 N238q
                refine own_toH T238 (mkF m 239 #[.val (.int i0), .val (.int i1), .val (.int i2), .val (.int i3), .val (.int i4), .val (.int i5), .val (.int va), .val (.int vb), .val (.int vc), .val (.int vd), .val (.int ve), .val (.int (257 : Int32)), .val (.int (256 : Int32)), .val (.ref b6), .val (.ref b68), .val (.int (1 : Int32)), .val (.int (5 : Int32)), .val (.ref b226)] [(.int (Int32.ofNat (6 - 5)))]) (fun tq kq => st238.trans kq) ?_
                rw [show (Int32.ofNat (6 - 5)) = (1 : Int32) from by decide]
                refine own_toH T238 (mkF m 244 #[.val (.int i0), .val (.int i1), .val (.int i2), .val (.int i3), .val (.int i4), .val (.int i5), .val (.int va), .val (.int vb), .val (.int vc), .val (.int vd), .val (.int ve), .val (.int (257 : Int32)), .val (.int (256 : Int32)), .val (.ref b6), .val (.ref b68), .val (.int (1 : Int32)), .val (.int (5 : Int32)), .val (.ref b226)] [(.int ((6 : Int32) - (5 : Int32))), (.int (1 : Int32))]) (fun tq kq => XS.bipush X238.here hx rfl (hb hby at_239) (XS.iload X238.here hx rfl (hb hby at_241) rfl (XS.isub X238.here hx rfl (hb hby at_243) rfl kq))) ?_
                rw [show ((6 : Int32) - (5 : Int32)) = (1 : Int32) from by decide]
                refine own_toH T238 (mkF m 252 #[.val (.int i0), .val (.int i1), .val (.int i2), .val (.int i3), .val (.int i4), .val (.int i5), .val (.int va), .val (.int vb), .val (.int vc), .val (.int vd), .val (.int ve), .val (.int (257 : Int32)), .val (.int (256 : Int32)), .val (.ref b6), .val (.ref b68), .val (.int (1 : Int32)), .val (.int (5 : Int32)), .val (.ref b226)] [(.int (1 : Int32))]) (fun tq kq => XS.icmpNo X238.here hx rfl (hb hby at_244) rfl (teq (by decide : (1 : Int32) = (1 : Int32))).2 (XS.iconst X238.here hx rfl (hb hby at_247) (XS.goto X238.here hx rfl (pc0 := 248) (pc' := 252) rfl (hb hby at_248) (by decide) (by decide) kq))) ?_
                exact own_retZH X238 hS (by rw [e238]; exact hk) hZ hEL (by rw [e238]; exact C226) hx hret hlk (hb hby at_252) (by decide) (by decide) (Or.inr rfl) ⟨rfl, N238⟩
              · skip
                obtain ⟨cq239, kq239, q239a, q239b, q239c⟩ := isOf hZ rfl Er226
                obtain ⟨_, _, ⟨T239, L239, k239, n239⟩, -, X239, ⟨Lc239, hQ239, l239, y239, z239⟩, st239⟩ := X226.virtualBack hx (y := (⟨"java/lang/String", "length", "()I"⟩ : MethodName)) (z := (⟨"java/lang/String", "length", "()I"⟩ : MethodName)) hown (mvT hZ (own_w hw 150 rfl)) (mvT hZ (own_w hw 80 rfl)) (notFace_of_selects (args := #[]) (mvT hZ (own_w hw 82 rfl))) (mvT hZ (own_w hw 82 rfl)) (mvT hZ (own_w hw 81 rfl)) (by decide) (backOf (W := 0) (rmLen1 l Z a0 hw [] b226 tb226 (6 - 5) gg226 G1 T226.heap n0 Zs226 f230 hG Er226 Vr226 or226.1 (own_barreq Ar226 or226.2) (by decide)) hZ (own_w hw 83 rfl) (own_w hw 10 rfl) (by decide) (by decide)) q239a q239c (g := (mkF m 236 #[.val (.int i0), .val (.int i1), .val (.int i2), .val (.int i3), .val (.int i4), .val (.int i5), .val (.int va), .val (.int vb), .val (.int vc), .val (.int vd), .val (.int ve), .val (.int (257 : Int32)), .val (.int (256 : Int32)), .val (.ref b6), .val (.ref b68), .val (.int (1 : Int32)), .val (.int (5 : Int32)), .val (.ref b226)] [(.ref b226)])) rfl (by rw [hml]; rfl) (Steps.refl _) (argsL := []) (rest := []) (lenOf pd_15 rfl) rfl (by show 2 * 0 + _ ≤ _; exact Nat.le_of_eq rfl) (hb hby at_236) (fun _ _ => ⟨rfl, rfl, (by decide : 11 + 0 ≤ _), (by decide : 82 + 0 ≤ _)⟩)
                dsimp only [Pt.U, Pt.locs, Pt.cells, Pt.slots] at X239 l239 y239 z239 st239 hQ239
                have l239y := l239.symm
                clear l239
                subst l239y
                obtain rfl : k239 = 11 := y239
                obtain rfl : n239 = 82 := z239
                obtain ⟨rfl, N239q, e239⟩ := hQ239
                have N239 := Fr.app N226 N239q
                refine own_toH T239 (mkF m 239 #[.val (.int i0), .val (.int i1), .val (.int i2), .val (.int i3), .val (.int i4), .val (.int i5), .val (.int va), .val (.int vb), .val (.int vc), .val (.int vd), .val (.int ve), .val (.int (257 : Int32)), .val (.int (256 : Int32)), .val (.ref b6), .val (.ref b68), .val (.int (1 : Int32)), .val (.int (5 : Int32)), .val (.ref b226)] [(.int (Int32.ofNat (6 - 5)))]) (fun tq kq => st239.trans kq) ?_
                rw [show (Int32.ofNat (6 - 5)) = (1 : Int32) from by decide]
                refine own_toH T239 (mkF m 244 #[.val (.int i0), .val (.int i1), .val (.int i2), .val (.int i3), .val (.int i4), .val (.int i5), .val (.int va), .val (.int vb), .val (.int vc), .val (.int vd), .val (.int ve), .val (.int (257 : Int32)), .val (.int (256 : Int32)), .val (.ref b6), .val (.ref b68), .val (.int (1 : Int32)), .val (.int (5 : Int32)), .val (.ref b226)] [(.int ((6 : Int32) - (5 : Int32))), (.int (1 : Int32))]) (fun tq kq => XS.bipush X239.here hx rfl (hb hby at_239) (XS.iload X239.here hx rfl (hb hby at_241) rfl (XS.isub X239.here hx rfl (hb hby at_243) rfl kq))) ?_
                rw [show ((6 : Int32) - (5 : Int32)) = (1 : Int32) from by decide]
                refine own_toH T239 (mkF m 252 #[.val (.int i0), .val (.int i1), .val (.int i2), .val (.int i3), .val (.int i4), .val (.int i5), .val (.int va), .val (.int vb), .val (.int vc), .val (.int vd), .val (.int ve), .val (.int (257 : Int32)), .val (.int (256 : Int32)), .val (.ref b6), .val (.ref b68), .val (.int (1 : Int32)), .val (.int (5 : Int32)), .val (.ref b226)] [(.int (1 : Int32))]) (fun tq kq => XS.icmpNo X239.here hx rfl (hb hby at_244) rfl (teq (by decide : (1 : Int32) = (1 : Int32))).2 (XS.iconst X239.here hx rfl (hb hby at_247) (XS.goto X239.here hx rfl (pc0 := 248) (pc' := 252) rfl (hb hby at_248) (by decide) (by decide) kq))) ?_
                exact own_retZH X239 hS (by rw [e239]; exact hk) hZ hEL (by rw [e239]; exact C226) hx hret hlk (hb hby at_252) (by decide) (by decide) (Or.inr rfl) ⟨rfl, N239⟩
          · skip
            obtain ⟨_, _, ⟨T240, L240, k240, n240⟩, -, X240, ⟨Lc240, hQ240, l240, y240, z240⟩, st240⟩ := Jvm.LawKit.callS X184 hx (y := (⟨"com/example/wayline/wayline/HeaderReaderSkipWhiteSpacePinLaw", "ws", "(C)Z"⟩ : MethodName)) hown (mvT hZ (own_w hw 151 rfl)) (mvT hZ (own_w hw 152 rfl)) (mvT hZ (own_w hw 2 rfl)) (mvT hZ (own_w hw 153 rfl)) (by decide) (backOf (W := 0) (rmWs0 l Z a0 hw [] vd T171.heap n0 Zs171 hw3) hZ (own_w hw 153 rfl) (own_w hw 2 rfl) (by decide) (by decide)) (g := (mkF m 170 #[.val (.int i0), .val (.int i1), .val (.int i2), .val (.int i3), .val (.int i4), .val (.int i5), .val (.int va), .val (.int vb), .val (.int vc), .val (.int vd), .val (.int ve), .val (.int (257 : Int32)), .val (.int (256 : Int32)), .val (.ref b6), .val (.ref b68), .val (.int (1 : Int32)), .unset, .val (.ref b171)] [(.int vd)])) rfl (by rw [hml]; rfl) (argsL := [(.int vd)]) (rest := []) (lenOf pd_28 rfl) rfl (by show 2 * 0 + _ ≤ _; exact Nat.le_of_eq rfl) (hb hby at_170) (fun _ _ => ⟨rfl, e184, (by decide : 8 + 0 ≤ _), (by decide : 58 + 0 ≤ _)⟩)
            dsimp only [Pt.U, Pt.locs, Pt.cells, Pt.slots] at X240 l240 y240 z240 st240 hQ240
            have l240y := l240.symm
            clear l240
            subst l240y
            obtain rfl : k240 = 8 := y240
            obtain rfl : n240 = 58 := z240
            obtain ⟨rfl, N240q, e240⟩ := hQ240
            have N240 := Fr.app N184 N240q
            refine own_toH T240 (mkF m 222 #[.val (.int i0), .val (.int i1), .val (.int i2), .val (.int i3), .val (.int i4), .val (.int i5), .val (.int va), .val (.int vb), .val (.int vc), .val (.int vd), .val (.int ve), .val (.int (257 : Int32)), .val (.int (256 : Int32)), .val (.ref b6), .val (.ref b68), .val (.int (1 : Int32)), .val (.int (4 : Int32)), .val (.ref b171)] [(.ref b68)]) (fun tq kq => st240 _ (XS.ifNo X240.here hx rfl (hb hby at_173) rfl ((if0 _ _).trans (teq (by decide : (0 : Int32) = (0 : Int32))).2) (XS.iconst X240.here hx rfl (hb hby at_176) (XS.istore X240.here hx rfl (hb hby at_177) rfl (l' := #[.val (.int i0), .val (.int i1), .val (.int i2), .val (.int i3), .val (.int i4), .val (.int i5), .val (.int va), .val (.int vb), .val (.int vc), .val (.int vd), .val (.int ve), .val (.int (257 : Int32)), .val (.int (256 : Int32)), .val (.ref b6), .val (.ref b68), .val (.int (1 : Int32)), .val (.int (4 : Int32)), .val (.ref b171)]) rfl (XS.goto X240.here hx rfl (pc0 := 179) (pc' := 200) rfl (hb hby at_179) (by decide) (by decide) (XS.goto X240.here hx rfl (pc0 := 200) (pc' := 220) rfl (hb hby at_200) (by decide) (by decide) (XS.aload X240.here hx rfl (hb hby at_220) rfl rfl kq))))))) ?_
            obtain ⟨cq241, kq241, q241a, q241b, q241c⟩ := isOf hZ e240 E171q
            obtain ⟨_, _, ⟨T241, L241, k241, n241⟩, -, X241, ⟨Lc241, hQ241, l241, y241, z241⟩, st241⟩ := X240.virtualBack hx (y := (⟨"com/example/wayline/wayline/HeaderReader", "skipWhiteSpace", "()V"⟩ : MethodName)) (z := (⟨"com/example/wayline/wayline/HeaderReader", "skipWhiteSpace", "()V"⟩ : MethodName)) hown (mvT hZ (own_w hw 154 rfl)) (mvT hZ (own_w hw 155 rfl)) (notFace_of_selects (args := #[]) (mvT hZ (own_w hw 157 rfl))) (mvT hZ (own_w hw 157 rfl)) (mvT hZ (own_w hw 156 rfl)) (by decide) (backOf (W := 0) (rmSkip l Z a0 hw [] b68 b76 t88 2 ff88 (own_c7 va vb vc vd ve) G1 vF T171.heap n0 Zs171 f175 hG f176 hvF f172 f173 f174 E171q V171q P171q f178 f179 f180 f181 U88q (by omega) ne_b68_b76 ne_b68_t88 sz68) hZ (own_w hw 158 rfl) (own_w hw 7 rfl) (by decide) (by decide)) q241a q241c (g := (mkF m 222 #[.val (.int i0), .val (.int i1), .val (.int i2), .val (.int i3), .val (.int i4), .val (.int i5), .val (.int va), .val (.int vb), .val (.int vc), .val (.int vd), .val (.int ve), .val (.int (257 : Int32)), .val (.int (256 : Int32)), .val (.ref b6), .val (.ref b68), .val (.int (1 : Int32)), .val (.int (4 : Int32)), .val (.ref b171)] [(.ref b68)])) rfl (by rw [hml]; rfl) (Steps.refl _) (argsL := []) (rest := []) (lenOf pd_3 rfl) rfl (by show 2 * 0 + _ ≤ _; exact Nat.le_of_eq rfl) (hb hby at_222) (fun _ _ => ⟨rfl, e240, (by decide : 8 + 0 ≤ _), (by decide : 58 + 0 ≤ _)⟩)
            dsimp only [Pt.U, Pt.locs, Pt.cells, Pt.slots] at X241 l241 y241 z241 st241 hQ241
            have l241y := l241.symm
            clear l241
            subst l241y
            obtain rfl : k241 = 8 := y241
            obtain rfl : n241 = 58 := z241
            obtain ⟨rfl, N241q, K241q, E241q, V241q, q1, hq0, hqn, P241q, hall, hstop⟩ := hQ241
            have N241 := Fr.app N240 N241q
            have hle1 : ¬ 4 < q1 := (fun z => hw3 (hall 4 (by omega) z))
            have hge1 : ¬ q1 < 4 := fun z => by
              have h3 : q1 = 2 ∨ q1 = 3 := (by omega)
              rcases h3 with rfl | rfl
              · exact hstop (by decide) hw1
              · exact hstop (by decide) hw2
            obtain rfl : q1 = 4 := (by omega)
            have f242 := own_staX f172 K241q E171q
            have f243 := own_staX f173 K241q E171q
            have f244 := own_staX f174 K241q E171q
            have f245 := own_staX f175 K241q E171q
            have f246 := own_staX f176 K241q E171q
            have f247 := E171q.keep K241q
            have f248 := f178.keep K241q
            have f249 := f179.keep K241q (ninS (Ne.symm ne_b68_b76) nin0)
            have f250 := f180.keep K241q (ninS (Ne.symm ne_b68_b76) nin0)
            have f251 := f181.keep K241q (ninS (Ne.symm ne_b68_t88) nin0)
            have f252 := Er171.keep K241q
            have Zs241 : n0 ≤ T241.heap.size := Nat.le_trans Zs171 K241q.1
            have hk := Nat.le_trans hk K241q.1
            have C241 := C171.trans (CHr.keep K241q (allS (Safe.exa hZ.alike E171q (by decide) (by decide)) all0) C171.1)
            refine own_toH T241 (mkF m 229 #[.val (.int i0), .val (.int i1), .val (.int i2), .val (.int i3), .val (.int i4), .val (.int i5), .val (.int va), .val (.int vb), .val (.int vc), .val (.int vd), .val (.int ve), .val (.int (257 : Int32)), .val (.int (256 : Int32)), .val (.ref b6), .val (.ref b68), .val (.int (1 : Int32)), .val (.int (4 : Int32)), .val (.ref b171)] [(.int (256 : Int32)), (.ref b68)]) (fun tq kq => st241.trans (XS.aload X241.here hx rfl (hb hby at_225) rfl rfl (XS.iload X241.here hx rfl (hb hby at_227) rfl kq))) ?_
            obtain ⟨cq253, kq253, q253a, q253b, q253c⟩ := isOf hZ rfl E241q
            obtain ⟨_, _, ⟨T253, L253, k253, n253⟩, -, X253, hS253, hgr253, ⟨Lc253, hQ253, l253, y253, z253, hC253⟩, st253⟩ := X241.virtualBackS hx (y := (⟨"com/example/wayline/wayline/HeaderReader", "textBefore", "(C)Ljava/lang/String;"⟩ : MethodName)) (z := (⟨"com/example/wayline/wayline/HeaderReader", "textBefore", "(C)Ljava/lang/String;"⟩ : MethodName)) hown (mvT hZ (own_w hw 62 rfl)) (mvT hZ (own_w hw 63 rfl)) (notFace_of_selects (args := #[]) (mvT hZ (own_w hw 65 rfl))) (mvT hZ (own_w hw 65 rfl)) (mvT hZ (own_w hw 64 rfl)) (by decide) (backOfSH (W := 0) (rmTB l Z a0 hw [] b68 b76 t88 4 6 ff88 (own_c7 va vb vc vd ve) (256 : Int32) G1 vF T241.heap n0 Zs241 f245 hG f246 hvF f242 f243 f244 E241q V241q P241q f248 f249 f250 f251 U88q (by decide) (by decide) (by decide) rfl (fun i h1 h2 => own_n256 hcva hcvb hcvc hcvd hcve h2) sz68 hEL) hZ (own_w hw 66 rfl) (own_w hw 7 rfl) (by decide) (by decide) hEL C241.1) q253a q253c (g := (mkF m 229 #[.val (.int i0), .val (.int i1), .val (.int i2), .val (.int i3), .val (.int i4), .val (.int i5), .val (.int va), .val (.int vb), .val (.int vc), .val (.int vd), .val (.int ve), .val (.int (257 : Int32)), .val (.int (256 : Int32)), .val (.ref b6), .val (.ref b68), .val (.int (1 : Int32)), .val (.int (4 : Int32)), .val (.ref b171)] [(.int (256 : Int32)), (.ref b68)])) rfl (by rw [hml]; rfl) (Steps.refl _) (argsL := [(.int (256 : Int32))]) (rest := []) (lenOf pd_12 rfl) rfl (by show 2 * 0 + _ ≤ _; exact Nat.le_of_eq rfl) (hb hby at_229) (fun _ _ => ⟨rfl, rfl, (by decide : 8 + 3 ≤ _), (by decide : 58 + 24 ≤ _)⟩)
            dsimp only [Pt.U, Pt.locs, Pt.cells, Pt.slots] at X253 l253 y253 z253 st253 hQ253
            have l253y := l253.symm
            clear l253
            subst l253y
            obtain rfl : k253 = 11 := y253
            obtain rfl : n253 = 82 := z253
            dsimp only [Pt.U, Pt.locs, Pt.cells, Pt.slots] at hS253 hgr253 hC253
            have C253 := C241.trans hC253
            obtain ⟨X253, hS, hZ, hown⟩ := rebS hS hk X253 hS253 hgr253 hZ hown
            have hk := Nat.le_refl T253.heap.size
            obtain ⟨b253, tb253, nn253, gg253, rfl, N253q, K253q, E253q, V253q, P253q, Er253, Vr253, Ar253, or253⟩ := hQ253
            have N253 := Fr.app N241 N253q
            have f254 := own_staX f242 K253q E241q
            have f255 := own_staX f243 K253q E241q
            have f256 := own_staX f244 K253q E241q
            have f257 := own_staX f245 K253q E241q
            have f258 := own_staX f246 K253q E241q
            have f259 := E241q.keep K253q
            have f260 := f248.keep K253q
            have f261 := f249.keep K253q (ninS (Ne.symm ne_b68_b76) nin0)
            have f262 := f250.keep K253q (ninS (Ne.symm ne_b68_b76) nin0)
            have f263 := f251.keep K253q (ninS (Ne.symm ne_b68_t88) nin0)
            have f264 := f252.keep K253q
            have Zs253 : n0 ≤ T253.heap.size := Nat.le_trans Zs241 K253q.1
            refine own_toH T253 (mkF m 236 #[.val (.int i0), .val (.int i1), .val (.int i2), .val (.int i3), .val (.int i4), .val (.int i5), .val (.int va), .val (.int vb), .val (.int vc), .val (.int vd), .val (.int ve), .val (.int (257 : Int32)), .val (.int (256 : Int32)), .val (.ref b6), .val (.ref b68), .val (.int (1 : Int32)), .val (.int (4 : Int32)), .val (.ref b253)] [(.ref b253)]) (fun tq kq => st253.trans (XS.astore X253.here hx rfl (hb hby at_232) rfl rfl (l' := #[.val (.int i0), .val (.int i1), .val (.int i2), .val (.int i3), .val (.int i4), .val (.int i5), .val (.int va), .val (.int vb), .val (.int vc), .val (.int vd), .val (.int ve), .val (.int (257 : Int32)), .val (.int (256 : Int32)), .val (.ref b6), .val (.ref b68), .val (.int (1 : Int32)), .val (.int (4 : Int32)), .val (.ref b253)]) rfl (XS.aload X253.here hx rfl (hb hby at_234) rfl rfl kq))) ?_
            rcases or253 with or253 | or253
            · skip
              obtain ⟨cq265, kq265, q265a, q265b, q265c⟩ := isOf hZ rfl Er253
              obtain ⟨_, _, ⟨T265, L265, k265, n265⟩, -, X265, ⟨Lc265, hQ265, l265, y265, z265⟩, st265⟩ := X253.virtualBack hx (y := (⟨"java/lang/String", "length", "()I"⟩ : MethodName)) (z := (⟨"java/lang/String", "length", "()I"⟩ : MethodName)) hown (mvT hZ (own_w hw 150 rfl)) (mvT hZ (own_w hw 80 rfl)) (notFace_of_selects (args := #[]) (mvT hZ (own_w hw 82 rfl))) (mvT hZ (own_w hw 82 rfl)) (mvT hZ (own_w hw 81 rfl)) (by decide) (backOf (W := 0) (rmLen l Z a0 hw [] b253 tb253 (6 - 4) gg253 G1 T253.heap n0 Zs253 f257 hG Er253 Vr253 or253.1 (own_barreq Ar253 or253.2)) hZ (own_w hw 83 rfl) (own_w hw 10 rfl) (by decide) (by decide)) q265a q265c (g := (mkF m 236 #[.val (.int i0), .val (.int i1), .val (.int i2), .val (.int i3), .val (.int i4), .val (.int i5), .val (.int va), .val (.int vb), .val (.int vc), .val (.int vd), .val (.int ve), .val (.int (257 : Int32)), .val (.int (256 : Int32)), .val (.ref b6), .val (.ref b68), .val (.int (1 : Int32)), .val (.int (4 : Int32)), .val (.ref b253)] [(.ref b253)])) rfl (by rw [hml]; rfl) (Steps.refl _) (argsL := []) (rest := []) (lenOf pd_15 rfl) rfl (by show 2 * 0 + _ ≤ _; exact Nat.le_of_eq rfl) (hb hby at_236) (fun _ _ => ⟨rfl, rfl, (by decide : 11 + 0 ≤ _), (by decide : 82 + 0 ≤ _)⟩)
              dsimp only [Pt.U, Pt.locs, Pt.cells, Pt.slots] at X265 l265 y265 z265 st265 hQ265
              have l265y := l265.symm
              clear l265
              subst l265y
              obtain rfl : k265 = 11 := y265
              obtain rfl : n265 = 82 := z265
              obtain ⟨rfl, N265q, e265⟩ := hQ265
              have N265 := Fr.app N253 N265q
              refine own_toH T265 (mkF m 239 #[.val (.int i0), .val (.int i1), .val (.int i2), .val (.int i3), .val (.int i4), .val (.int i5), .val (.int va), .val (.int vb), .val (.int vc), .val (.int vd), .val (.int ve), .val (.int (257 : Int32)), .val (.int (256 : Int32)), .val (.ref b6), .val (.ref b68), .val (.int (1 : Int32)), .val (.int (4 : Int32)), .val (.ref b253)] [(.int (Int32.ofNat (6 - 4)))]) (fun tq kq => st265.trans kq) ?_
              rw [show (Int32.ofNat (6 - 4)) = (2 : Int32) from by decide]
              refine own_toH T265 (mkF m 244 #[.val (.int i0), .val (.int i1), .val (.int i2), .val (.int i3), .val (.int i4), .val (.int i5), .val (.int va), .val (.int vb), .val (.int vc), .val (.int vd), .val (.int ve), .val (.int (257 : Int32)), .val (.int (256 : Int32)), .val (.ref b6), .val (.ref b68), .val (.int (1 : Int32)), .val (.int (4 : Int32)), .val (.ref b253)] [(.int ((6 : Int32) - (4 : Int32))), (.int (2 : Int32))]) (fun tq kq => XS.bipush X265.here hx rfl (hb hby at_239) (XS.iload X265.here hx rfl (hb hby at_241) rfl (XS.isub X265.here hx rfl (hb hby at_243) rfl kq))) ?_
              rw [show ((6 : Int32) - (4 : Int32)) = (2 : Int32) from by decide]
              refine own_toH T265 (mkF m 252 #[.val (.int i0), .val (.int i1), .val (.int i2), .val (.int i3), .val (.int i4), .val (.int i5), .val (.int va), .val (.int vb), .val (.int vc), .val (.int vd), .val (.int ve), .val (.int (257 : Int32)), .val (.int (256 : Int32)), .val (.ref b6), .val (.ref b68), .val (.int (1 : Int32)), .val (.int (4 : Int32)), .val (.ref b253)] [(.int (1 : Int32))]) (fun tq kq => XS.icmpNo X265.here hx rfl (hb hby at_244) rfl (teq (by decide : (2 : Int32) = (2 : Int32))).2 (XS.iconst X265.here hx rfl (hb hby at_247) (XS.goto X265.here hx rfl (pc0 := 248) (pc' := 252) rfl (hb hby at_248) (by decide) (by decide) kq))) ?_
              exact own_retZH X265 hS (by rw [e265]; exact hk) hZ hEL (by rw [e265]; exact C253) hx hret hlk (hb hby at_252) (by decide) (by decide) (Or.inr rfl) ⟨rfl, N265⟩
            · skip
              obtain ⟨cq266, kq266, q266a, q266b, q266c⟩ := isOf hZ rfl Er253
              obtain ⟨_, _, ⟨T266, L266, k266, n266⟩, -, X266, ⟨Lc266, hQ266, l266, y266, z266⟩, st266⟩ := X253.virtualBack hx (y := (⟨"java/lang/String", "length", "()I"⟩ : MethodName)) (z := (⟨"java/lang/String", "length", "()I"⟩ : MethodName)) hown (mvT hZ (own_w hw 150 rfl)) (mvT hZ (own_w hw 80 rfl)) (notFace_of_selects (args := #[]) (mvT hZ (own_w hw 82 rfl))) (mvT hZ (own_w hw 82 rfl)) (mvT hZ (own_w hw 81 rfl)) (by decide) (backOf (W := 0) (rmLen1 l Z a0 hw [] b253 tb253 (6 - 4) gg253 G1 T253.heap n0 Zs253 f257 hG Er253 Vr253 or253.1 (own_barreq Ar253 or253.2) (by decide)) hZ (own_w hw 83 rfl) (own_w hw 10 rfl) (by decide) (by decide)) q266a q266c (g := (mkF m 236 #[.val (.int i0), .val (.int i1), .val (.int i2), .val (.int i3), .val (.int i4), .val (.int i5), .val (.int va), .val (.int vb), .val (.int vc), .val (.int vd), .val (.int ve), .val (.int (257 : Int32)), .val (.int (256 : Int32)), .val (.ref b6), .val (.ref b68), .val (.int (1 : Int32)), .val (.int (4 : Int32)), .val (.ref b253)] [(.ref b253)])) rfl (by rw [hml]; rfl) (Steps.refl _) (argsL := []) (rest := []) (lenOf pd_15 rfl) rfl (by show 2 * 0 + _ ≤ _; exact Nat.le_of_eq rfl) (hb hby at_236) (fun _ _ => ⟨rfl, rfl, (by decide : 11 + 0 ≤ _), (by decide : 82 + 0 ≤ _)⟩)
              dsimp only [Pt.U, Pt.locs, Pt.cells, Pt.slots] at X266 l266 y266 z266 st266 hQ266
              have l266y := l266.symm
              clear l266
              subst l266y
              obtain rfl : k266 = 11 := y266
              obtain rfl : n266 = 82 := z266
              obtain ⟨rfl, N266q, e266⟩ := hQ266
              have N266 := Fr.app N253 N266q
              refine own_toH T266 (mkF m 239 #[.val (.int i0), .val (.int i1), .val (.int i2), .val (.int i3), .val (.int i4), .val (.int i5), .val (.int va), .val (.int vb), .val (.int vc), .val (.int vd), .val (.int ve), .val (.int (257 : Int32)), .val (.int (256 : Int32)), .val (.ref b6), .val (.ref b68), .val (.int (1 : Int32)), .val (.int (4 : Int32)), .val (.ref b253)] [(.int (Int32.ofNat (6 - 4)))]) (fun tq kq => st266.trans kq) ?_
              rw [show (Int32.ofNat (6 - 4)) = (2 : Int32) from by decide]
              refine own_toH T266 (mkF m 244 #[.val (.int i0), .val (.int i1), .val (.int i2), .val (.int i3), .val (.int i4), .val (.int i5), .val (.int va), .val (.int vb), .val (.int vc), .val (.int vd), .val (.int ve), .val (.int (257 : Int32)), .val (.int (256 : Int32)), .val (.ref b6), .val (.ref b68), .val (.int (1 : Int32)), .val (.int (4 : Int32)), .val (.ref b253)] [(.int ((6 : Int32) - (4 : Int32))), (.int (2 : Int32))]) (fun tq kq => XS.bipush X266.here hx rfl (hb hby at_239) (XS.iload X266.here hx rfl (hb hby at_241) rfl (XS.isub X266.here hx rfl (hb hby at_243) rfl kq))) ?_
              rw [show ((6 : Int32) - (4 : Int32)) = (2 : Int32) from by decide]
              refine own_toH T266 (mkF m 252 #[.val (.int i0), .val (.int i1), .val (.int i2), .val (.int i3), .val (.int i4), .val (.int i5), .val (.int va), .val (.int vb), .val (.int vc), .val (.int vd), .val (.int ve), .val (.int (257 : Int32)), .val (.int (256 : Int32)), .val (.ref b6), .val (.ref b68), .val (.int (1 : Int32)), .val (.int (4 : Int32)), .val (.ref b253)] [(.int (1 : Int32))]) (fun tq kq => XS.icmpNo X266.here hx rfl (hb hby at_244) rfl (teq (by decide : (2 : Int32) = (2 : Int32))).2 (XS.iconst X266.here hx rfl (hb hby at_247) (XS.goto X266.here hx rfl (pc0 := 248) (pc' := 252) rfl (hb hby at_248) (by decide) (by decide) kq))) ?_
              exact own_retZH X266 hS (by rw [e266]; exact hk) hZ hEL (by rw [e266]; exact C253) hx hret hlk (hb hby at_252) (by decide) (by decide) (Or.inr rfl) ⟨rfl, N266⟩
        · skip
          obtain ⟨_, _, ⟨T267, L267, k267, n267⟩, -, X267, ⟨Lc267, hQ267, l267, y267, z267⟩, st267⟩ := Jvm.LawKit.callS X183 hx (y := (⟨"com/example/wayline/wayline/HeaderReaderSkipWhiteSpacePinLaw", "ws", "(C)Z"⟩ : MethodName)) hown (mvT hZ (own_w hw 151 rfl)) (mvT hZ (own_w hw 152 rfl)) (mvT hZ (own_w hw 2 rfl)) (mvT hZ (own_w hw 153 rfl)) (by decide) (backOf (W := 0) (rmWs0 l Z a0 hw [] vc T171.heap n0 Zs171 hw2) hZ (own_w hw 153 rfl) (own_w hw 2 rfl) (by decide) (by decide)) (g := (mkF m 156 #[.val (.int i0), .val (.int i1), .val (.int i2), .val (.int i3), .val (.int i4), .val (.int i5), .val (.int va), .val (.int vb), .val (.int vc), .val (.int vd), .val (.int ve), .val (.int (257 : Int32)), .val (.int (256 : Int32)), .val (.ref b6), .val (.ref b68), .val (.int (1 : Int32)), .unset, .val (.ref b171)] [(.int vc)])) rfl (by rw [hml]; rfl) (argsL := [(.int vc)]) (rest := []) (lenOf pd_28 rfl) rfl (by show 2 * 0 + _ ≤ _; exact Nat.le_of_eq rfl) (hb hby at_156) (fun _ _ => ⟨rfl, e183, (by decide : 8 + 0 ≤ _), (by decide : 58 + 0 ≤ _)⟩)
          dsimp only [Pt.U, Pt.locs, Pt.cells, Pt.slots] at X267 l267 y267 z267 st267 hQ267
          have l267y := l267.symm
          clear l267
          subst l267y
          obtain rfl : k267 = 8 := y267
          obtain rfl : n267 = 58 := z267
          obtain ⟨rfl, N267q, e267⟩ := hQ267
          have N267 := Fr.app N183 N267q
          refine own_toH T267 (mkF m 222 #[.val (.int i0), .val (.int i1), .val (.int i2), .val (.int i3), .val (.int i4), .val (.int i5), .val (.int va), .val (.int vb), .val (.int vc), .val (.int vd), .val (.int ve), .val (.int (257 : Int32)), .val (.int (256 : Int32)), .val (.ref b6), .val (.ref b68), .val (.int (1 : Int32)), .val (.int (3 : Int32)), .val (.ref b171)] [(.ref b68)]) (fun tq kq => st267 _ (XS.ifNo X267.here hx rfl (hb hby at_159) rfl ((if0 _ _).trans (teq (by decide : (0 : Int32) = (0 : Int32))).2) (XS.iconst X267.here hx rfl (hb hby at_162) (XS.istore X267.here hx rfl (hb hby at_163) rfl (l' := #[.val (.int i0), .val (.int i1), .val (.int i2), .val (.int i3), .val (.int i4), .val (.int i5), .val (.int va), .val (.int vb), .val (.int vc), .val (.int vd), .val (.int ve), .val (.int (257 : Int32)), .val (.int (256 : Int32)), .val (.ref b6), .val (.ref b68), .val (.int (1 : Int32)), .val (.int (3 : Int32)), .val (.ref b171)]) rfl (XS.goto X267.here hx rfl (pc0 := 165) (pc' := 200) rfl (hb hby at_165) (by decide) (by decide) (XS.goto X267.here hx rfl (pc0 := 200) (pc' := 220) rfl (hb hby at_200) (by decide) (by decide) (XS.aload X267.here hx rfl (hb hby at_220) rfl rfl kq))))))) ?_
          obtain ⟨cq268, kq268, q268a, q268b, q268c⟩ := isOf hZ e267 E171q
          obtain ⟨_, _, ⟨T268, L268, k268, n268⟩, -, X268, ⟨Lc268, hQ268, l268, y268, z268⟩, st268⟩ := X267.virtualBack hx (y := (⟨"com/example/wayline/wayline/HeaderReader", "skipWhiteSpace", "()V"⟩ : MethodName)) (z := (⟨"com/example/wayline/wayline/HeaderReader", "skipWhiteSpace", "()V"⟩ : MethodName)) hown (mvT hZ (own_w hw 154 rfl)) (mvT hZ (own_w hw 155 rfl)) (notFace_of_selects (args := #[]) (mvT hZ (own_w hw 157 rfl))) (mvT hZ (own_w hw 157 rfl)) (mvT hZ (own_w hw 156 rfl)) (by decide) (backOf (W := 0) (rmSkip l Z a0 hw [] b68 b76 t88 2 ff88 (own_c7 va vb vc vd ve) G1 vF T171.heap n0 Zs171 f175 hG f176 hvF f172 f173 f174 E171q V171q P171q f178 f179 f180 f181 U88q (by omega) ne_b68_b76 ne_b68_t88 sz68) hZ (own_w hw 158 rfl) (own_w hw 7 rfl) (by decide) (by decide)) q268a q268c (g := (mkF m 222 #[.val (.int i0), .val (.int i1), .val (.int i2), .val (.int i3), .val (.int i4), .val (.int i5), .val (.int va), .val (.int vb), .val (.int vc), .val (.int vd), .val (.int ve), .val (.int (257 : Int32)), .val (.int (256 : Int32)), .val (.ref b6), .val (.ref b68), .val (.int (1 : Int32)), .val (.int (3 : Int32)), .val (.ref b171)] [(.ref b68)])) rfl (by rw [hml]; rfl) (Steps.refl _) (argsL := []) (rest := []) (lenOf pd_3 rfl) rfl (by show 2 * 0 + _ ≤ _; exact Nat.le_of_eq rfl) (hb hby at_222) (fun _ _ => ⟨rfl, e267, (by decide : 8 + 0 ≤ _), (by decide : 58 + 0 ≤ _)⟩)
          dsimp only [Pt.U, Pt.locs, Pt.cells, Pt.slots] at X268 l268 y268 z268 st268 hQ268
          have l268y := l268.symm
          clear l268
          subst l268y
          obtain rfl : k268 = 8 := y268
          obtain rfl : n268 = 58 := z268
          obtain ⟨rfl, N268q, K268q, E268q, V268q, q1, hq0, hqn, P268q, hall, hstop⟩ := hQ268
          have N268 := Fr.app N267 N268q
          have hle1 : ¬ 3 < q1 := (fun z => hw2 (hall 3 (by omega) z))
          have hge1 : ¬ q1 < 3 := fun z => by
            have h3 : q1 = 2 := (by omega)
            rcases h3 with rfl
            · exact hstop (by decide) hw1
          obtain rfl : q1 = 3 := (by omega)
          have f269 := own_staX f172 K268q E171q
          have f270 := own_staX f173 K268q E171q
          have f271 := own_staX f174 K268q E171q
          have f272 := own_staX f175 K268q E171q
          have f273 := own_staX f176 K268q E171q
          have f274 := E171q.keep K268q
          have f275 := f178.keep K268q
          have f276 := f179.keep K268q (ninS (Ne.symm ne_b68_b76) nin0)
          have f277 := f180.keep K268q (ninS (Ne.symm ne_b68_b76) nin0)
          have f278 := f181.keep K268q (ninS (Ne.symm ne_b68_t88) nin0)
          have f279 := Er171.keep K268q
          have Zs268 : n0 ≤ T268.heap.size := Nat.le_trans Zs171 K268q.1
          have hk := Nat.le_trans hk K268q.1
          have C268 := C171.trans (CHr.keep K268q (allS (Safe.exa hZ.alike E171q (by decide) (by decide)) all0) C171.1)
          refine own_toH T268 (mkF m 229 #[.val (.int i0), .val (.int i1), .val (.int i2), .val (.int i3), .val (.int i4), .val (.int i5), .val (.int va), .val (.int vb), .val (.int vc), .val (.int vd), .val (.int ve), .val (.int (257 : Int32)), .val (.int (256 : Int32)), .val (.ref b6), .val (.ref b68), .val (.int (1 : Int32)), .val (.int (3 : Int32)), .val (.ref b171)] [(.int (256 : Int32)), (.ref b68)]) (fun tq kq => st268.trans (XS.aload X268.here hx rfl (hb hby at_225) rfl rfl (XS.iload X268.here hx rfl (hb hby at_227) rfl kq))) ?_
          obtain ⟨cq280, kq280, q280a, q280b, q280c⟩ := isOf hZ rfl E268q
          obtain ⟨_, _, ⟨T280, L280, k280, n280⟩, -, X280, hS280, hgr280, ⟨Lc280, hQ280, l280, y280, z280, hC280⟩, st280⟩ := X268.virtualBackS hx (y := (⟨"com/example/wayline/wayline/HeaderReader", "textBefore", "(C)Ljava/lang/String;"⟩ : MethodName)) (z := (⟨"com/example/wayline/wayline/HeaderReader", "textBefore", "(C)Ljava/lang/String;"⟩ : MethodName)) hown (mvT hZ (own_w hw 62 rfl)) (mvT hZ (own_w hw 63 rfl)) (notFace_of_selects (args := #[]) (mvT hZ (own_w hw 65 rfl))) (mvT hZ (own_w hw 65 rfl)) (mvT hZ (own_w hw 64 rfl)) (by decide) (backOfSH (W := 0) (rmTB l Z a0 hw [] b68 b76 t88 3 6 ff88 (own_c7 va vb vc vd ve) (256 : Int32) G1 vF T268.heap n0 Zs268 f272 hG f273 hvF f269 f270 f271 E268q V268q P268q f275 f276 f277 f278 U88q (by decide) (by decide) (by decide) rfl (fun i h1 h2 => own_n256 hcva hcvb hcvc hcvd hcve h2) sz68 hEL) hZ (own_w hw 66 rfl) (own_w hw 7 rfl) (by decide) (by decide) hEL C268.1) q280a q280c (g := (mkF m 229 #[.val (.int i0), .val (.int i1), .val (.int i2), .val (.int i3), .val (.int i4), .val (.int i5), .val (.int va), .val (.int vb), .val (.int vc), .val (.int vd), .val (.int ve), .val (.int (257 : Int32)), .val (.int (256 : Int32)), .val (.ref b6), .val (.ref b68), .val (.int (1 : Int32)), .val (.int (3 : Int32)), .val (.ref b171)] [(.int (256 : Int32)), (.ref b68)])) rfl (by rw [hml]; rfl) (Steps.refl _) (argsL := [(.int (256 : Int32))]) (rest := []) (lenOf pd_12 rfl) rfl (by show 2 * 0 + _ ≤ _; exact Nat.le_of_eq rfl) (hb hby at_229) (fun _ _ => ⟨rfl, rfl, (by decide : 8 + 3 ≤ _), (by decide : 58 + 24 ≤ _)⟩)
          dsimp only [Pt.U, Pt.locs, Pt.cells, Pt.slots] at X280 l280 y280 z280 st280 hQ280
          have l280y := l280.symm
          clear l280
          subst l280y
          obtain rfl : k280 = 11 := y280
          obtain rfl : n280 = 82 := z280
          dsimp only [Pt.U, Pt.locs, Pt.cells, Pt.slots] at hS280 hgr280 hC280
          have C280 := C268.trans hC280
          obtain ⟨X280, hS, hZ, hown⟩ := rebS hS hk X280 hS280 hgr280 hZ hown
          have hk := Nat.le_refl T280.heap.size
          obtain ⟨b280, tb280, nn280, gg280, rfl, N280q, K280q, E280q, V280q, P280q, Er280, Vr280, Ar280, or280⟩ := hQ280
          have N280 := Fr.app N268 N280q
          have f281 := own_staX f269 K280q E268q
          have f282 := own_staX f270 K280q E268q
          have f283 := own_staX f271 K280q E268q
          have f284 := own_staX f272 K280q E268q
          have f285 := own_staX f273 K280q E268q
          have f286 := E268q.keep K280q
          have f287 := f275.keep K280q
          have f288 := f276.keep K280q (ninS (Ne.symm ne_b68_b76) nin0)
          have f289 := f277.keep K280q (ninS (Ne.symm ne_b68_b76) nin0)
          have f290 := f278.keep K280q (ninS (Ne.symm ne_b68_t88) nin0)
          have f291 := f279.keep K280q
          have Zs280 : n0 ≤ T280.heap.size := Nat.le_trans Zs268 K280q.1
          refine own_toH T280 (mkF m 236 #[.val (.int i0), .val (.int i1), .val (.int i2), .val (.int i3), .val (.int i4), .val (.int i5), .val (.int va), .val (.int vb), .val (.int vc), .val (.int vd), .val (.int ve), .val (.int (257 : Int32)), .val (.int (256 : Int32)), .val (.ref b6), .val (.ref b68), .val (.int (1 : Int32)), .val (.int (3 : Int32)), .val (.ref b280)] [(.ref b280)]) (fun tq kq => st280.trans (XS.astore X280.here hx rfl (hb hby at_232) rfl rfl (l' := #[.val (.int i0), .val (.int i1), .val (.int i2), .val (.int i3), .val (.int i4), .val (.int i5), .val (.int va), .val (.int vb), .val (.int vc), .val (.int vd), .val (.int ve), .val (.int (257 : Int32)), .val (.int (256 : Int32)), .val (.ref b6), .val (.ref b68), .val (.int (1 : Int32)), .val (.int (3 : Int32)), .val (.ref b280)]) rfl (XS.aload X280.here hx rfl (hb hby at_234) rfl rfl kq))) ?_
          rcases or280 with or280 | or280
          · skip
            obtain ⟨cq292, kq292, q292a, q292b, q292c⟩ := isOf hZ rfl Er280
            obtain ⟨_, _, ⟨T292, L292, k292, n292⟩, -, X292, ⟨Lc292, hQ292, l292, y292, z292⟩, st292⟩ := X280.virtualBack hx (y := (⟨"java/lang/String", "length", "()I"⟩ : MethodName)) (z := (⟨"java/lang/String", "length", "()I"⟩ : MethodName)) hown (mvT hZ (own_w hw 150 rfl)) (mvT hZ (own_w hw 80 rfl)) (notFace_of_selects (args := #[]) (mvT hZ (own_w hw 82 rfl))) (mvT hZ (own_w hw 82 rfl)) (mvT hZ (own_w hw 81 rfl)) (by decide) (backOf (W := 0) (rmLen l Z a0 hw [] b280 tb280 (6 - 3) gg280 G1 T280.heap n0 Zs280 f284 hG Er280 Vr280 or280.1 (own_barreq Ar280 or280.2)) hZ (own_w hw 83 rfl) (own_w hw 10 rfl) (by decide) (by decide)) q292a q292c (g := (mkF m 236 #[.val (.int i0), .val (.int i1), .val (.int i2), .val (.int i3), .val (.int i4), .val (.int i5), .val (.int va), .val (.int vb), .val (.int vc), .val (.int vd), .val (.int ve), .val (.int (257 : Int32)), .val (.int (256 : Int32)), .val (.ref b6), .val (.ref b68), .val (.int (1 : Int32)), .val (.int (3 : Int32)), .val (.ref b280)] [(.ref b280)])) rfl (by rw [hml]; rfl) (Steps.refl _) (argsL := []) (rest := []) (lenOf pd_15 rfl) rfl (by show 2 * 0 + _ ≤ _; exact Nat.le_of_eq rfl) (hb hby at_236) (fun _ _ => ⟨rfl, rfl, (by decide : 11 + 0 ≤ _), (by decide : 82 + 0 ≤ _)⟩)
            dsimp only [Pt.U, Pt.locs, Pt.cells, Pt.slots] at X292 l292 y292 z292 st292 hQ292
            have l292y := l292.symm
            clear l292
            subst l292y
            obtain rfl : k292 = 11 := y292
            obtain rfl : n292 = 82 := z292
            obtain ⟨rfl, N292q, e292⟩ := hQ292
            have N292 := Fr.app N280 N292q
            refine own_toH T292 (mkF m 239 #[.val (.int i0), .val (.int i1), .val (.int i2), .val (.int i3), .val (.int i4), .val (.int i5), .val (.int va), .val (.int vb), .val (.int vc), .val (.int vd), .val (.int ve), .val (.int (257 : Int32)), .val (.int (256 : Int32)), .val (.ref b6), .val (.ref b68), .val (.int (1 : Int32)), .val (.int (3 : Int32)), .val (.ref b280)] [(.int (Int32.ofNat (6 - 3)))]) (fun tq kq => st292.trans kq) ?_
            rw [show (Int32.ofNat (6 - 3)) = (3 : Int32) from by decide]
            refine own_toH T292 (mkF m 244 #[.val (.int i0), .val (.int i1), .val (.int i2), .val (.int i3), .val (.int i4), .val (.int i5), .val (.int va), .val (.int vb), .val (.int vc), .val (.int vd), .val (.int ve), .val (.int (257 : Int32)), .val (.int (256 : Int32)), .val (.ref b6), .val (.ref b68), .val (.int (1 : Int32)), .val (.int (3 : Int32)), .val (.ref b280)] [(.int ((6 : Int32) - (3 : Int32))), (.int (3 : Int32))]) (fun tq kq => XS.bipush X292.here hx rfl (hb hby at_239) (XS.iload X292.here hx rfl (hb hby at_241) rfl (XS.isub X292.here hx rfl (hb hby at_243) rfl kq))) ?_
            rw [show ((6 : Int32) - (3 : Int32)) = (3 : Int32) from by decide]
            refine own_toH T292 (mkF m 252 #[.val (.int i0), .val (.int i1), .val (.int i2), .val (.int i3), .val (.int i4), .val (.int i5), .val (.int va), .val (.int vb), .val (.int vc), .val (.int vd), .val (.int ve), .val (.int (257 : Int32)), .val (.int (256 : Int32)), .val (.ref b6), .val (.ref b68), .val (.int (1 : Int32)), .val (.int (3 : Int32)), .val (.ref b280)] [(.int (1 : Int32))]) (fun tq kq => XS.icmpNo X292.here hx rfl (hb hby at_244) rfl (teq (by decide : (3 : Int32) = (3 : Int32))).2 (XS.iconst X292.here hx rfl (hb hby at_247) (XS.goto X292.here hx rfl (pc0 := 248) (pc' := 252) rfl (hb hby at_248) (by decide) (by decide) kq))) ?_
            exact own_retZH X292 hS (by rw [e292]; exact hk) hZ hEL (by rw [e292]; exact C280) hx hret hlk (hb hby at_252) (by decide) (by decide) (Or.inr rfl) ⟨rfl, N292⟩
          · skip
            obtain ⟨cq293, kq293, q293a, q293b, q293c⟩ := isOf hZ rfl Er280
            obtain ⟨_, _, ⟨T293, L293, k293, n293⟩, -, X293, ⟨Lc293, hQ293, l293, y293, z293⟩, st293⟩ := X280.virtualBack hx (y := (⟨"java/lang/String", "length", "()I"⟩ : MethodName)) (z := (⟨"java/lang/String", "length", "()I"⟩ : MethodName)) hown (mvT hZ (own_w hw 150 rfl)) (mvT hZ (own_w hw 80 rfl)) (notFace_of_selects (args := #[]) (mvT hZ (own_w hw 82 rfl))) (mvT hZ (own_w hw 82 rfl)) (mvT hZ (own_w hw 81 rfl)) (by decide) (backOf (W := 0) (rmLen1 l Z a0 hw [] b280 tb280 (6 - 3) gg280 G1 T280.heap n0 Zs280 f284 hG Er280 Vr280 or280.1 (own_barreq Ar280 or280.2) (by decide)) hZ (own_w hw 83 rfl) (own_w hw 10 rfl) (by decide) (by decide)) q293a q293c (g := (mkF m 236 #[.val (.int i0), .val (.int i1), .val (.int i2), .val (.int i3), .val (.int i4), .val (.int i5), .val (.int va), .val (.int vb), .val (.int vc), .val (.int vd), .val (.int ve), .val (.int (257 : Int32)), .val (.int (256 : Int32)), .val (.ref b6), .val (.ref b68), .val (.int (1 : Int32)), .val (.int (3 : Int32)), .val (.ref b280)] [(.ref b280)])) rfl (by rw [hml]; rfl) (Steps.refl _) (argsL := []) (rest := []) (lenOf pd_15 rfl) rfl (by show 2 * 0 + _ ≤ _; exact Nat.le_of_eq rfl) (hb hby at_236) (fun _ _ => ⟨rfl, rfl, (by decide : 11 + 0 ≤ _), (by decide : 82 + 0 ≤ _)⟩)
            dsimp only [Pt.U, Pt.locs, Pt.cells, Pt.slots] at X293 l293 y293 z293 st293 hQ293
            have l293y := l293.symm
            clear l293
            subst l293y
            obtain rfl : k293 = 11 := y293
            obtain rfl : n293 = 82 := z293
            obtain ⟨rfl, N293q, e293⟩ := hQ293
            have N293 := Fr.app N280 N293q
            refine own_toH T293 (mkF m 239 #[.val (.int i0), .val (.int i1), .val (.int i2), .val (.int i3), .val (.int i4), .val (.int i5), .val (.int va), .val (.int vb), .val (.int vc), .val (.int vd), .val (.int ve), .val (.int (257 : Int32)), .val (.int (256 : Int32)), .val (.ref b6), .val (.ref b68), .val (.int (1 : Int32)), .val (.int (3 : Int32)), .val (.ref b280)] [(.int (Int32.ofNat (6 - 3)))]) (fun tq kq => st293.trans kq) ?_
            rw [show (Int32.ofNat (6 - 3)) = (3 : Int32) from by decide]
            refine own_toH T293 (mkF m 244 #[.val (.int i0), .val (.int i1), .val (.int i2), .val (.int i3), .val (.int i4), .val (.int i5), .val (.int va), .val (.int vb), .val (.int vc), .val (.int vd), .val (.int ve), .val (.int (257 : Int32)), .val (.int (256 : Int32)), .val (.ref b6), .val (.ref b68), .val (.int (1 : Int32)), .val (.int (3 : Int32)), .val (.ref b280)] [(.int ((6 : Int32) - (3 : Int32))), (.int (3 : Int32))]) (fun tq kq => XS.bipush X293.here hx rfl (hb hby at_239) (XS.iload X293.here hx rfl (hb hby at_241) rfl (XS.isub X293.here hx rfl (hb hby at_243) rfl kq))) ?_
            rw [show ((6 : Int32) - (3 : Int32)) = (3 : Int32) from by decide]
            refine own_toH T293 (mkF m 252 #[.val (.int i0), .val (.int i1), .val (.int i2), .val (.int i3), .val (.int i4), .val (.int i5), .val (.int va), .val (.int vb), .val (.int vc), .val (.int vd), .val (.int ve), .val (.int (257 : Int32)), .val (.int (256 : Int32)), .val (.ref b6), .val (.ref b68), .val (.int (1 : Int32)), .val (.int (3 : Int32)), .val (.ref b280)] [(.int (1 : Int32))]) (fun tq kq => XS.icmpNo X293.here hx rfl (hb hby at_244) rfl (teq (by decide : (3 : Int32) = (3 : Int32))).2 (XS.iconst X293.here hx rfl (hb hby at_247) (XS.goto X293.here hx rfl (pc0 := 248) (pc' := 252) rfl (hb hby at_248) (by decide) (by decide) kq))) ?_
            exact own_retZH X293 hS (by rw [e293]; exact hk) hZ hEL (by rw [e293]; exact C280) hx hret hlk (hb hby at_252) (by decide) (by decide) (Or.inr rfl) ⟨rfl, N293⟩
      · skip
        obtain ⟨_, _, ⟨T294, L294, k294, n294⟩, -, X294, ⟨Lc294, hQ294, l294, y294, z294⟩, st294⟩ := Jvm.LawKit.callS X182 hx (y := (⟨"com/example/wayline/wayline/HeaderReaderSkipWhiteSpacePinLaw", "ws", "(C)Z"⟩ : MethodName)) hown (mvT hZ (own_w hw 151 rfl)) (mvT hZ (own_w hw 152 rfl)) (mvT hZ (own_w hw 2 rfl)) (mvT hZ (own_w hw 153 rfl)) (by decide) (backOf (W := 0) (rmWs0 l Z a0 hw [] vb T171.heap n0 Zs171 hw1) hZ (own_w hw 153 rfl) (own_w hw 2 rfl) (by decide) (by decide)) (g := (mkF m 142 #[.val (.int i0), .val (.int i1), .val (.int i2), .val (.int i3), .val (.int i4), .val (.int i5), .val (.int va), .val (.int vb), .val (.int vc), .val (.int vd), .val (.int ve), .val (.int (257 : Int32)), .val (.int (256 : Int32)), .val (.ref b6), .val (.ref b68), .val (.int (1 : Int32)), .unset, .val (.ref b171)] [(.int vb)])) rfl (by rw [hml]; rfl) (argsL := [(.int vb)]) (rest := []) (lenOf pd_28 rfl) rfl (by show 2 * 0 + _ ≤ _; exact Nat.le_of_eq rfl) (hb hby at_142) (fun _ _ => ⟨rfl, e182, (by decide : 8 + 0 ≤ _), (by decide : 58 + 0 ≤ _)⟩)
        dsimp only [Pt.U, Pt.locs, Pt.cells, Pt.slots] at X294 l294 y294 z294 st294 hQ294
        have l294y := l294.symm
        clear l294
        subst l294y
        obtain rfl : k294 = 8 := y294
        obtain rfl : n294 = 58 := z294
        obtain ⟨rfl, N294q, e294⟩ := hQ294
        have N294 := Fr.app N182 N294q
        refine own_toH T294 (mkF m 222 #[.val (.int i0), .val (.int i1), .val (.int i2), .val (.int i3), .val (.int i4), .val (.int i5), .val (.int va), .val (.int vb), .val (.int vc), .val (.int vd), .val (.int ve), .val (.int (257 : Int32)), .val (.int (256 : Int32)), .val (.ref b6), .val (.ref b68), .val (.int (1 : Int32)), .val (.int (2 : Int32)), .val (.ref b171)] [(.ref b68)]) (fun tq kq => st294 _ (XS.ifNo X294.here hx rfl (hb hby at_145) rfl ((if0 _ _).trans (teq (by decide : (0 : Int32) = (0 : Int32))).2) (XS.iconst X294.here hx rfl (hb hby at_148) (XS.istore X294.here hx rfl (hb hby at_149) rfl (l' := #[.val (.int i0), .val (.int i1), .val (.int i2), .val (.int i3), .val (.int i4), .val (.int i5), .val (.int va), .val (.int vb), .val (.int vc), .val (.int vd), .val (.int ve), .val (.int (257 : Int32)), .val (.int (256 : Int32)), .val (.ref b6), .val (.ref b68), .val (.int (1 : Int32)), .val (.int (2 : Int32)), .val (.ref b171)]) rfl (XS.goto X294.here hx rfl (pc0 := 151) (pc' := 200) rfl (hb hby at_151) (by decide) (by decide) (XS.goto X294.here hx rfl (pc0 := 200) (pc' := 220) rfl (hb hby at_200) (by decide) (by decide) (XS.aload X294.here hx rfl (hb hby at_220) rfl rfl kq))))))) ?_
        obtain ⟨cq295, kq295, q295a, q295b, q295c⟩ := isOf hZ e294 E171q
        obtain ⟨_, _, ⟨T295, L295, k295, n295⟩, -, X295, ⟨Lc295, hQ295, l295, y295, z295⟩, st295⟩ := X294.virtualBack hx (y := (⟨"com/example/wayline/wayline/HeaderReader", "skipWhiteSpace", "()V"⟩ : MethodName)) (z := (⟨"com/example/wayline/wayline/HeaderReader", "skipWhiteSpace", "()V"⟩ : MethodName)) hown (mvT hZ (own_w hw 154 rfl)) (mvT hZ (own_w hw 155 rfl)) (notFace_of_selects (args := #[]) (mvT hZ (own_w hw 157 rfl))) (mvT hZ (own_w hw 157 rfl)) (mvT hZ (own_w hw 156 rfl)) (by decide) (backOf (W := 0) (rmSkip l Z a0 hw [] b68 b76 t88 2 ff88 (own_c7 va vb vc vd ve) G1 vF T171.heap n0 Zs171 f175 hG f176 hvF f172 f173 f174 E171q V171q P171q f178 f179 f180 f181 U88q (by omega) ne_b68_b76 ne_b68_t88 sz68) hZ (own_w hw 158 rfl) (own_w hw 7 rfl) (by decide) (by decide)) q295a q295c (g := (mkF m 222 #[.val (.int i0), .val (.int i1), .val (.int i2), .val (.int i3), .val (.int i4), .val (.int i5), .val (.int va), .val (.int vb), .val (.int vc), .val (.int vd), .val (.int ve), .val (.int (257 : Int32)), .val (.int (256 : Int32)), .val (.ref b6), .val (.ref b68), .val (.int (1 : Int32)), .val (.int (2 : Int32)), .val (.ref b171)] [(.ref b68)])) rfl (by rw [hml]; rfl) (Steps.refl _) (argsL := []) (rest := []) (lenOf pd_3 rfl) rfl (by show 2 * 0 + _ ≤ _; exact Nat.le_of_eq rfl) (hb hby at_222) (fun _ _ => ⟨rfl, e294, (by decide : 8 + 0 ≤ _), (by decide : 58 + 0 ≤ _)⟩)
        dsimp only [Pt.U, Pt.locs, Pt.cells, Pt.slots] at X295 l295 y295 z295 st295 hQ295
        have l295y := l295.symm
        clear l295
        subst l295y
        obtain rfl : k295 = 8 := y295
        obtain rfl : n295 = 58 := z295
        obtain ⟨rfl, N295q, K295q, E295q, V295q, q1, hq0, hqn, P295q, hall, hstop⟩ := hQ295
        have N295 := Fr.app N294 N295q
        have hle1 : ¬ 2 < q1 := (fun z => hw1 (hall 2 (by omega) z))
        obtain rfl : q1 = 2 := (by omega)
        have f296 := own_staX f172 K295q E171q
        have f297 := own_staX f173 K295q E171q
        have f298 := own_staX f174 K295q E171q
        have f299 := own_staX f175 K295q E171q
        have f300 := own_staX f176 K295q E171q
        have f301 := E171q.keep K295q
        have f302 := f178.keep K295q
        have f303 := f179.keep K295q (ninS (Ne.symm ne_b68_b76) nin0)
        have f304 := f180.keep K295q (ninS (Ne.symm ne_b68_b76) nin0)
        have f305 := f181.keep K295q (ninS (Ne.symm ne_b68_t88) nin0)
        have f306 := Er171.keep K295q
        have Zs295 : n0 ≤ T295.heap.size := Nat.le_trans Zs171 K295q.1
        have hk := Nat.le_trans hk K295q.1
        have C295 := C171.trans (CHr.keep K295q (allS (Safe.exa hZ.alike E171q (by decide) (by decide)) all0) C171.1)
        refine own_toH T295 (mkF m 229 #[.val (.int i0), .val (.int i1), .val (.int i2), .val (.int i3), .val (.int i4), .val (.int i5), .val (.int va), .val (.int vb), .val (.int vc), .val (.int vd), .val (.int ve), .val (.int (257 : Int32)), .val (.int (256 : Int32)), .val (.ref b6), .val (.ref b68), .val (.int (1 : Int32)), .val (.int (2 : Int32)), .val (.ref b171)] [(.int (256 : Int32)), (.ref b68)]) (fun tq kq => st295.trans (XS.aload X295.here hx rfl (hb hby at_225) rfl rfl (XS.iload X295.here hx rfl (hb hby at_227) rfl kq))) ?_
        obtain ⟨cq307, kq307, q307a, q307b, q307c⟩ := isOf hZ rfl E295q
        obtain ⟨_, _, ⟨T307, L307, k307, n307⟩, -, X307, hS307, hgr307, ⟨Lc307, hQ307, l307, y307, z307, hC307⟩, st307⟩ := X295.virtualBackS hx (y := (⟨"com/example/wayline/wayline/HeaderReader", "textBefore", "(C)Ljava/lang/String;"⟩ : MethodName)) (z := (⟨"com/example/wayline/wayline/HeaderReader", "textBefore", "(C)Ljava/lang/String;"⟩ : MethodName)) hown (mvT hZ (own_w hw 62 rfl)) (mvT hZ (own_w hw 63 rfl)) (notFace_of_selects (args := #[]) (mvT hZ (own_w hw 65 rfl))) (mvT hZ (own_w hw 65 rfl)) (mvT hZ (own_w hw 64 rfl)) (by decide) (backOfSH (W := 0) (rmTB l Z a0 hw [] b68 b76 t88 2 6 ff88 (own_c7 va vb vc vd ve) (256 : Int32) G1 vF T295.heap n0 Zs295 f299 hG f300 hvF f296 f297 f298 E295q V295q P295q f302 f303 f304 f305 U88q (by decide) (by decide) (by decide) rfl (fun i h1 h2 => own_n256 hcva hcvb hcvc hcvd hcve h2) sz68 hEL) hZ (own_w hw 66 rfl) (own_w hw 7 rfl) (by decide) (by decide) hEL C295.1) q307a q307c (g := (mkF m 229 #[.val (.int i0), .val (.int i1), .val (.int i2), .val (.int i3), .val (.int i4), .val (.int i5), .val (.int va), .val (.int vb), .val (.int vc), .val (.int vd), .val (.int ve), .val (.int (257 : Int32)), .val (.int (256 : Int32)), .val (.ref b6), .val (.ref b68), .val (.int (1 : Int32)), .val (.int (2 : Int32)), .val (.ref b171)] [(.int (256 : Int32)), (.ref b68)])) rfl (by rw [hml]; rfl) (Steps.refl _) (argsL := [(.int (256 : Int32))]) (rest := []) (lenOf pd_12 rfl) rfl (by show 2 * 0 + _ ≤ _; exact Nat.le_of_eq rfl) (hb hby at_229) (fun _ _ => ⟨rfl, rfl, (by decide : 8 + 3 ≤ _), (by decide : 58 + 24 ≤ _)⟩)
        dsimp only [Pt.U, Pt.locs, Pt.cells, Pt.slots] at X307 l307 y307 z307 st307 hQ307
        have l307y := l307.symm
        clear l307
        subst l307y
        obtain rfl : k307 = 11 := y307
        obtain rfl : n307 = 82 := z307
        dsimp only [Pt.U, Pt.locs, Pt.cells, Pt.slots] at hS307 hgr307 hC307
        have C307 := C295.trans hC307
        obtain ⟨X307, hS, hZ, hown⟩ := rebS hS hk X307 hS307 hgr307 hZ hown
        have hk := Nat.le_refl T307.heap.size
        obtain ⟨b307, tb307, nn307, gg307, rfl, N307q, K307q, E307q, V307q, P307q, Er307, Vr307, Ar307, or307⟩ := hQ307
        have N307 := Fr.app N295 N307q
        have f308 := own_staX f296 K307q E295q
        have f309 := own_staX f297 K307q E295q
        have f310 := own_staX f298 K307q E295q
        have f311 := own_staX f299 K307q E295q
        have f312 := own_staX f300 K307q E295q
        have f313 := E295q.keep K307q
        have f314 := f302.keep K307q
        have f315 := f303.keep K307q (ninS (Ne.symm ne_b68_b76) nin0)
        have f316 := f304.keep K307q (ninS (Ne.symm ne_b68_b76) nin0)
        have f317 := f305.keep K307q (ninS (Ne.symm ne_b68_t88) nin0)
        have f318 := f306.keep K307q
        have Zs307 : n0 ≤ T307.heap.size := Nat.le_trans Zs295 K307q.1
        refine own_toH T307 (mkF m 236 #[.val (.int i0), .val (.int i1), .val (.int i2), .val (.int i3), .val (.int i4), .val (.int i5), .val (.int va), .val (.int vb), .val (.int vc), .val (.int vd), .val (.int ve), .val (.int (257 : Int32)), .val (.int (256 : Int32)), .val (.ref b6), .val (.ref b68), .val (.int (1 : Int32)), .val (.int (2 : Int32)), .val (.ref b307)] [(.ref b307)]) (fun tq kq => st307.trans (XS.astore X307.here hx rfl (hb hby at_232) rfl rfl (l' := #[.val (.int i0), .val (.int i1), .val (.int i2), .val (.int i3), .val (.int i4), .val (.int i5), .val (.int va), .val (.int vb), .val (.int vc), .val (.int vd), .val (.int ve), .val (.int (257 : Int32)), .val (.int (256 : Int32)), .val (.ref b6), .val (.ref b68), .val (.int (1 : Int32)), .val (.int (2 : Int32)), .val (.ref b307)]) rfl (XS.aload X307.here hx rfl (hb hby at_234) rfl rfl kq))) ?_
        rcases or307 with or307 | or307
        · skip
          obtain ⟨cq319, kq319, q319a, q319b, q319c⟩ := isOf hZ rfl Er307
          obtain ⟨_, _, ⟨T319, L319, k319, n319⟩, -, X319, ⟨Lc319, hQ319, l319, y319, z319⟩, st319⟩ := X307.virtualBack hx (y := (⟨"java/lang/String", "length", "()I"⟩ : MethodName)) (z := (⟨"java/lang/String", "length", "()I"⟩ : MethodName)) hown (mvT hZ (own_w hw 150 rfl)) (mvT hZ (own_w hw 80 rfl)) (notFace_of_selects (args := #[]) (mvT hZ (own_w hw 82 rfl))) (mvT hZ (own_w hw 82 rfl)) (mvT hZ (own_w hw 81 rfl)) (by decide) (backOf (W := 0) (rmLen l Z a0 hw [] b307 tb307 (6 - 2) gg307 G1 T307.heap n0 Zs307 f311 hG Er307 Vr307 or307.1 (own_barreq Ar307 or307.2)) hZ (own_w hw 83 rfl) (own_w hw 10 rfl) (by decide) (by decide)) q319a q319c (g := (mkF m 236 #[.val (.int i0), .val (.int i1), .val (.int i2), .val (.int i3), .val (.int i4), .val (.int i5), .val (.int va), .val (.int vb), .val (.int vc), .val (.int vd), .val (.int ve), .val (.int (257 : Int32)), .val (.int (256 : Int32)), .val (.ref b6), .val (.ref b68), .val (.int (1 : Int32)), .val (.int (2 : Int32)), .val (.ref b307)] [(.ref b307)])) rfl (by rw [hml]; rfl) (Steps.refl _) (argsL := []) (rest := []) (lenOf pd_15 rfl) rfl (by show 2 * 0 + _ ≤ _; exact Nat.le_of_eq rfl) (hb hby at_236) (fun _ _ => ⟨rfl, rfl, (by decide : 11 + 0 ≤ _), (by decide : 82 + 0 ≤ _)⟩)
          dsimp only [Pt.U, Pt.locs, Pt.cells, Pt.slots] at X319 l319 y319 z319 st319 hQ319
          have l319y := l319.symm
          clear l319
          subst l319y
          obtain rfl : k319 = 11 := y319
          obtain rfl : n319 = 82 := z319
          obtain ⟨rfl, N319q, e319⟩ := hQ319
          have N319 := Fr.app N307 N319q
          refine own_toH T319 (mkF m 239 #[.val (.int i0), .val (.int i1), .val (.int i2), .val (.int i3), .val (.int i4), .val (.int i5), .val (.int va), .val (.int vb), .val (.int vc), .val (.int vd), .val (.int ve), .val (.int (257 : Int32)), .val (.int (256 : Int32)), .val (.ref b6), .val (.ref b68), .val (.int (1 : Int32)), .val (.int (2 : Int32)), .val (.ref b307)] [(.int (Int32.ofNat (6 - 2)))]) (fun tq kq => st319.trans kq) ?_
          rw [show (Int32.ofNat (6 - 2)) = (4 : Int32) from by decide]
          refine own_toH T319 (mkF m 244 #[.val (.int i0), .val (.int i1), .val (.int i2), .val (.int i3), .val (.int i4), .val (.int i5), .val (.int va), .val (.int vb), .val (.int vc), .val (.int vd), .val (.int ve), .val (.int (257 : Int32)), .val (.int (256 : Int32)), .val (.ref b6), .val (.ref b68), .val (.int (1 : Int32)), .val (.int (2 : Int32)), .val (.ref b307)] [(.int ((6 : Int32) - (2 : Int32))), (.int (4 : Int32))]) (fun tq kq => XS.bipush X319.here hx rfl (hb hby at_239) (XS.iload X319.here hx rfl (hb hby at_241) rfl (XS.isub X319.here hx rfl (hb hby at_243) rfl kq))) ?_
          rw [show ((6 : Int32) - (2 : Int32)) = (4 : Int32) from by decide]
          refine own_toH T319 (mkF m 252 #[.val (.int i0), .val (.int i1), .val (.int i2), .val (.int i3), .val (.int i4), .val (.int i5), .val (.int va), .val (.int vb), .val (.int vc), .val (.int vd), .val (.int ve), .val (.int (257 : Int32)), .val (.int (256 : Int32)), .val (.ref b6), .val (.ref b68), .val (.int (1 : Int32)), .val (.int (2 : Int32)), .val (.ref b307)] [(.int (1 : Int32))]) (fun tq kq => XS.icmpNo X319.here hx rfl (hb hby at_244) rfl (teq (by decide : (4 : Int32) = (4 : Int32))).2 (XS.iconst X319.here hx rfl (hb hby at_247) (XS.goto X319.here hx rfl (pc0 := 248) (pc' := 252) rfl (hb hby at_248) (by decide) (by decide) kq))) ?_
          exact own_retZH X319 hS (by rw [e319]; exact hk) hZ hEL (by rw [e319]; exact C307) hx hret hlk (hb hby at_252) (by decide) (by decide) (Or.inr rfl) ⟨rfl, N319⟩
        · skip
          obtain ⟨cq320, kq320, q320a, q320b, q320c⟩ := isOf hZ rfl Er307
          obtain ⟨_, _, ⟨T320, L320, k320, n320⟩, -, X320, ⟨Lc320, hQ320, l320, y320, z320⟩, st320⟩ := X307.virtualBack hx (y := (⟨"java/lang/String", "length", "()I"⟩ : MethodName)) (z := (⟨"java/lang/String", "length", "()I"⟩ : MethodName)) hown (mvT hZ (own_w hw 150 rfl)) (mvT hZ (own_w hw 80 rfl)) (notFace_of_selects (args := #[]) (mvT hZ (own_w hw 82 rfl))) (mvT hZ (own_w hw 82 rfl)) (mvT hZ (own_w hw 81 rfl)) (by decide) (backOf (W := 0) (rmLen1 l Z a0 hw [] b307 tb307 (6 - 2) gg307 G1 T307.heap n0 Zs307 f311 hG Er307 Vr307 or307.1 (own_barreq Ar307 or307.2) (by decide)) hZ (own_w hw 83 rfl) (own_w hw 10 rfl) (by decide) (by decide)) q320a q320c (g := (mkF m 236 #[.val (.int i0), .val (.int i1), .val (.int i2), .val (.int i3), .val (.int i4), .val (.int i5), .val (.int va), .val (.int vb), .val (.int vc), .val (.int vd), .val (.int ve), .val (.int (257 : Int32)), .val (.int (256 : Int32)), .val (.ref b6), .val (.ref b68), .val (.int (1 : Int32)), .val (.int (2 : Int32)), .val (.ref b307)] [(.ref b307)])) rfl (by rw [hml]; rfl) (Steps.refl _) (argsL := []) (rest := []) (lenOf pd_15 rfl) rfl (by show 2 * 0 + _ ≤ _; exact Nat.le_of_eq rfl) (hb hby at_236) (fun _ _ => ⟨rfl, rfl, (by decide : 11 + 0 ≤ _), (by decide : 82 + 0 ≤ _)⟩)
          dsimp only [Pt.U, Pt.locs, Pt.cells, Pt.slots] at X320 l320 y320 z320 st320 hQ320
          have l320y := l320.symm
          clear l320
          subst l320y
          obtain rfl : k320 = 11 := y320
          obtain rfl : n320 = 82 := z320
          obtain ⟨rfl, N320q, e320⟩ := hQ320
          have N320 := Fr.app N307 N320q
          refine own_toH T320 (mkF m 239 #[.val (.int i0), .val (.int i1), .val (.int i2), .val (.int i3), .val (.int i4), .val (.int i5), .val (.int va), .val (.int vb), .val (.int vc), .val (.int vd), .val (.int ve), .val (.int (257 : Int32)), .val (.int (256 : Int32)), .val (.ref b6), .val (.ref b68), .val (.int (1 : Int32)), .val (.int (2 : Int32)), .val (.ref b307)] [(.int (Int32.ofNat (6 - 2)))]) (fun tq kq => st320.trans kq) ?_
          rw [show (Int32.ofNat (6 - 2)) = (4 : Int32) from by decide]
          refine own_toH T320 (mkF m 244 #[.val (.int i0), .val (.int i1), .val (.int i2), .val (.int i3), .val (.int i4), .val (.int i5), .val (.int va), .val (.int vb), .val (.int vc), .val (.int vd), .val (.int ve), .val (.int (257 : Int32)), .val (.int (256 : Int32)), .val (.ref b6), .val (.ref b68), .val (.int (1 : Int32)), .val (.int (2 : Int32)), .val (.ref b307)] [(.int ((6 : Int32) - (2 : Int32))), (.int (4 : Int32))]) (fun tq kq => XS.bipush X320.here hx rfl (hb hby at_239) (XS.iload X320.here hx rfl (hb hby at_241) rfl (XS.isub X320.here hx rfl (hb hby at_243) rfl kq))) ?_
          rw [show ((6 : Int32) - (2 : Int32)) = (4 : Int32) from by decide]
          refine own_toH T320 (mkF m 252 #[.val (.int i0), .val (.int i1), .val (.int i2), .val (.int i3), .val (.int i4), .val (.int i5), .val (.int va), .val (.int vb), .val (.int vc), .val (.int vd), .val (.int ve), .val (.int (257 : Int32)), .val (.int (256 : Int32)), .val (.ref b6), .val (.ref b68), .val (.int (1 : Int32)), .val (.int (2 : Int32)), .val (.ref b307)] [(.int (1 : Int32))]) (fun tq kq => XS.icmpNo X320.here hx rfl (hb hby at_244) rfl (teq (by decide : (4 : Int32) = (4 : Int32))).2 (XS.iconst X320.here hx rfl (hb hby at_247) (XS.goto X320.here hx rfl (pc0 := 248) (pc' := 252) rfl (hb hby at_248) (by decide) (by decide) kq))) ?_
          exact own_retZH X320 hS (by rw [e320]; exact hk) hZ hEL (by rw [e320]; exact C307) hx hret hlk (hb hby at_252) (by decide) (by decide) (Or.inr rfl) ⟨rfl, N320⟩
    · skip
      obtain ⟨cq321, kq321, q321a, q321b, q321c⟩ := isOf hZ rfl Er171
      obtain ⟨_, _, ⟨T321, L321, k321, n321⟩, -, X321, ⟨Lc321, hQ321, l321, y321, z321⟩, st321⟩ := X171.virtualBack hx (y := (⟨"java/lang/String", "length", "()I"⟩ : MethodName)) (z := (⟨"java/lang/String", "length", "()I"⟩ : MethodName)) hown (mvT hZ (own_w hw 150 rfl)) (mvT hZ (own_w hw 80 rfl)) (notFace_of_selects (args := #[]) (mvT hZ (own_w hw 82 rfl))) (mvT hZ (own_w hw 82 rfl)) (mvT hZ (own_w hw 81 rfl)) (by decide) (backOf (W := 0) (rmLen1 l Z a0 hw [] b171 tb171 (1 - 0) gg171 G1 T171.heap n0 Zs171 f175 hG Er171 Vr171 or171.1 (own_barreq Ar171 or171.2) (by decide)) hZ (own_w hw 83 rfl) (own_w hw 10 rfl) (by decide) (by decide)) q321a q321c (g := (mkF m 131 #[.val (.int i0), .val (.int i1), .val (.int i2), .val (.int i3), .val (.int i4), .val (.int i5), .val (.int va), .val (.int vb), .val (.int vc), .val (.int vd), .val (.int ve), .val (.int (257 : Int32)), .val (.int (256 : Int32)), .val (.ref b6), .val (.ref b68), .val (.int (1 : Int32)), .unset, .val (.ref b171)] [(.ref b171)])) rfl (by rw [hml]; rfl) (Steps.refl _) (argsL := []) (rest := []) (lenOf pd_15 rfl) rfl (by show 2 * 0 + _ ≤ _; exact Nat.le_of_eq rfl) (hb hby at_131) (fun _ _ => ⟨rfl, rfl, (by decide : 8 + 0 ≤ _), (by decide : 58 + 0 ≤ _)⟩)
      dsimp only [Pt.U, Pt.locs, Pt.cells, Pt.slots] at X321 l321 y321 z321 st321 hQ321
      have l321y := l321.symm
      clear l321
      subst l321y
      obtain rfl : k321 = 8 := y321
      obtain rfl : n321 = 58 := z321
      obtain ⟨rfl, N321q, e321⟩ := hQ321
      have N321 := Fr.app N171 N321q
      refine own_toH T321 (mkF m 134 #[.val (.int i0), .val (.int i1), .val (.int i2), .val (.int i3), .val (.int i4), .val (.int i5), .val (.int va), .val (.int vb), .val (.int vc), .val (.int vd), .val (.int ve), .val (.int (257 : Int32)), .val (.int (256 : Int32)), .val (.ref b6), .val (.ref b68), .val (.int (1 : Int32)), .unset, .val (.ref b171)] [(.int (Int32.ofNat (1 - 0)))]) (fun tq kq => st321.trans kq) ?_
      rw [show (Int32.ofNat (1 - 0)) = (1 : Int32) from by decide]
      refine own_toH T321 (mkF m 142 #[.val (.int i0), .val (.int i1), .val (.int i2), .val (.int i3), .val (.int i4), .val (.int i5), .val (.int va), .val (.int vb), .val (.int vc), .val (.int vd), .val (.int ve), .val (.int (257 : Int32)), .val (.int (256 : Int32)), .val (.ref b6), .val (.ref b68), .val (.int (1 : Int32)), .unset, .val (.ref b171)] [(.int vb)]) (fun tq kq => XS.iconst X321.here hx rfl (hb hby at_134) (XS.icmpYes X321.here hx rfl (pc0 := 135) (pc' := 140) rfl (hb hby at_135) rfl (teq (by decide : (1 : Int32) = (1 : Int32))).1 (by decide) (by decide) (XS.iload X321.here hx rfl (hb hby at_140) rfl kq))) ?_
      by_cases hw1 : own_ws vb
      · skip
        obtain ⟨_, _, ⟨T322, L322, k322, n322⟩, -, X322, ⟨Lc322, hQ322, l322, y322, z322⟩, st322⟩ := Jvm.LawKit.callS X321 hx (y := (⟨"com/example/wayline/wayline/HeaderReaderSkipWhiteSpacePinLaw", "ws", "(C)Z"⟩ : MethodName)) hown (mvT hZ (own_w hw 151 rfl)) (mvT hZ (own_w hw 152 rfl)) (mvT hZ (own_w hw 2 rfl)) (mvT hZ (own_w hw 153 rfl)) (by decide) (backOf (W := 0) (rmWs1 l Z a0 hw [] vb T171.heap n0 Zs171 hw1) hZ (own_w hw 153 rfl) (own_w hw 2 rfl) (by decide) (by decide)) (g := (mkF m 142 #[.val (.int i0), .val (.int i1), .val (.int i2), .val (.int i3), .val (.int i4), .val (.int i5), .val (.int va), .val (.int vb), .val (.int vc), .val (.int vd), .val (.int ve), .val (.int (257 : Int32)), .val (.int (256 : Int32)), .val (.ref b6), .val (.ref b68), .val (.int (1 : Int32)), .unset, .val (.ref b171)] [(.int vb)])) rfl (by rw [hml]; rfl) (argsL := [(.int vb)]) (rest := []) (lenOf pd_28 rfl) rfl (by show 2 * 0 + _ ≤ _; exact Nat.le_of_eq rfl) (hb hby at_142) (fun _ _ => ⟨rfl, e321, (by decide : 8 + 0 ≤ _), (by decide : 58 + 0 ≤ _)⟩)
        dsimp only [Pt.U, Pt.locs, Pt.cells, Pt.slots] at X322 l322 y322 z322 st322 hQ322
        have l322y := l322.symm
        clear l322
        subst l322y
        obtain rfl : k322 = 8 := y322
        obtain rfl : n322 = 58 := z322
        obtain ⟨rfl, N322q, e322⟩ := hQ322
        have N322 := Fr.app N321 N322q
        refine own_toH T322 (mkF m 156 #[.val (.int i0), .val (.int i1), .val (.int i2), .val (.int i3), .val (.int i4), .val (.int i5), .val (.int va), .val (.int vb), .val (.int vc), .val (.int vd), .val (.int ve), .val (.int (257 : Int32)), .val (.int (256 : Int32)), .val (.ref b6), .val (.ref b68), .val (.int (1 : Int32)), .unset, .val (.ref b171)] [(.int vc)]) (fun tq kq => st322 _ (XS.ifYes X322.here hx rfl (pc0 := 145) (pc' := 154) rfl (hb hby at_145) rfl ((if0 _ _).trans (feq (by decide : ¬ ((1 : Int32) = (0 : Int32)))).2) (by decide) (by decide) (XS.iload X322.here hx rfl (hb hby at_154) rfl kq))) ?_
        by_cases hw2 : own_ws vc
        · skip
          obtain ⟨_, _, ⟨T323, L323, k323, n323⟩, -, X323, ⟨Lc323, hQ323, l323, y323, z323⟩, st323⟩ := Jvm.LawKit.callS X322 hx (y := (⟨"com/example/wayline/wayline/HeaderReaderSkipWhiteSpacePinLaw", "ws", "(C)Z"⟩ : MethodName)) hown (mvT hZ (own_w hw 151 rfl)) (mvT hZ (own_w hw 152 rfl)) (mvT hZ (own_w hw 2 rfl)) (mvT hZ (own_w hw 153 rfl)) (by decide) (backOf (W := 0) (rmWs1 l Z a0 hw [] vc T171.heap n0 Zs171 hw2) hZ (own_w hw 153 rfl) (own_w hw 2 rfl) (by decide) (by decide)) (g := (mkF m 156 #[.val (.int i0), .val (.int i1), .val (.int i2), .val (.int i3), .val (.int i4), .val (.int i5), .val (.int va), .val (.int vb), .val (.int vc), .val (.int vd), .val (.int ve), .val (.int (257 : Int32)), .val (.int (256 : Int32)), .val (.ref b6), .val (.ref b68), .val (.int (1 : Int32)), .unset, .val (.ref b171)] [(.int vc)])) rfl (by rw [hml]; rfl) (argsL := [(.int vc)]) (rest := []) (lenOf pd_28 rfl) rfl (by show 2 * 0 + _ ≤ _; exact Nat.le_of_eq rfl) (hb hby at_156) (fun _ _ => ⟨rfl, e322, (by decide : 8 + 0 ≤ _), (by decide : 58 + 0 ≤ _)⟩)
          dsimp only [Pt.U, Pt.locs, Pt.cells, Pt.slots] at X323 l323 y323 z323 st323 hQ323
          have l323y := l323.symm
          clear l323
          subst l323y
          obtain rfl : k323 = 8 := y323
          obtain rfl : n323 = 58 := z323
          obtain ⟨rfl, N323q, e323⟩ := hQ323
          have N323 := Fr.app N322 N323q
          refine own_toH T323 (mkF m 170 #[.val (.int i0), .val (.int i1), .val (.int i2), .val (.int i3), .val (.int i4), .val (.int i5), .val (.int va), .val (.int vb), .val (.int vc), .val (.int vd), .val (.int ve), .val (.int (257 : Int32)), .val (.int (256 : Int32)), .val (.ref b6), .val (.ref b68), .val (.int (1 : Int32)), .unset, .val (.ref b171)] [(.int vd)]) (fun tq kq => st323 _ (XS.ifYes X323.here hx rfl (pc0 := 159) (pc' := 168) rfl (hb hby at_159) rfl ((if0 _ _).trans (feq (by decide : ¬ ((1 : Int32) = (0 : Int32)))).2) (by decide) (by decide) (XS.iload X323.here hx rfl (hb hby at_168) rfl kq))) ?_
          by_cases hw3 : own_ws vd
          · skip
            obtain ⟨_, _, ⟨T324, L324, k324, n324⟩, -, X324, ⟨Lc324, hQ324, l324, y324, z324⟩, st324⟩ := Jvm.LawKit.callS X323 hx (y := (⟨"com/example/wayline/wayline/HeaderReaderSkipWhiteSpacePinLaw", "ws", "(C)Z"⟩ : MethodName)) hown (mvT hZ (own_w hw 151 rfl)) (mvT hZ (own_w hw 152 rfl)) (mvT hZ (own_w hw 2 rfl)) (mvT hZ (own_w hw 153 rfl)) (by decide) (backOf (W := 0) (rmWs1 l Z a0 hw [] vd T171.heap n0 Zs171 hw3) hZ (own_w hw 153 rfl) (own_w hw 2 rfl) (by decide) (by decide)) (g := (mkF m 170 #[.val (.int i0), .val (.int i1), .val (.int i2), .val (.int i3), .val (.int i4), .val (.int i5), .val (.int va), .val (.int vb), .val (.int vc), .val (.int vd), .val (.int ve), .val (.int (257 : Int32)), .val (.int (256 : Int32)), .val (.ref b6), .val (.ref b68), .val (.int (1 : Int32)), .unset, .val (.ref b171)] [(.int vd)])) rfl (by rw [hml]; rfl) (argsL := [(.int vd)]) (rest := []) (lenOf pd_28 rfl) rfl (by show 2 * 0 + _ ≤ _; exact Nat.le_of_eq rfl) (hb hby at_170) (fun _ _ => ⟨rfl, e323, (by decide : 8 + 0 ≤ _), (by decide : 58 + 0 ≤ _)⟩)
            dsimp only [Pt.U, Pt.locs, Pt.cells, Pt.slots] at X324 l324 y324 z324 st324 hQ324
            have l324y := l324.symm
            clear l324
            subst l324y
            obtain rfl : k324 = 8 := y324
            obtain rfl : n324 = 58 := z324
            obtain ⟨rfl, N324q, e324⟩ := hQ324
            have N324 := Fr.app N323 N324q
            refine own_toH T324 (mkF m 184 #[.val (.int i0), .val (.int i1), .val (.int i2), .val (.int i3), .val (.int i4), .val (.int i5), .val (.int va), .val (.int vb), .val (.int vc), .val (.int vd), .val (.int ve), .val (.int (257 : Int32)), .val (.int (256 : Int32)), .val (.ref b6), .val (.ref b68), .val (.int (1 : Int32)), .unset, .val (.ref b171)] [(.int ve)]) (fun tq kq => st324 _ (XS.ifYes X324.here hx rfl (pc0 := 173) (pc' := 182) rfl (hb hby at_173) rfl ((if0 _ _).trans (feq (by decide : ¬ ((1 : Int32) = (0 : Int32)))).2) (by decide) (by decide) (XS.iload X324.here hx rfl (hb hby at_182) rfl kq))) ?_
            by_cases hw4 : own_ws ve
            · skip
              obtain ⟨_, _, ⟨T325, L325, k325, n325⟩, -, X325, ⟨Lc325, hQ325, l325, y325, z325⟩, st325⟩ := Jvm.LawKit.callS X324 hx (y := (⟨"com/example/wayline/wayline/HeaderReaderSkipWhiteSpacePinLaw", "ws", "(C)Z"⟩ : MethodName)) hown (mvT hZ (own_w hw 151 rfl)) (mvT hZ (own_w hw 152 rfl)) (mvT hZ (own_w hw 2 rfl)) (mvT hZ (own_w hw 153 rfl)) (by decide) (backOf (W := 0) (rmWs1 l Z a0 hw [] ve T171.heap n0 Zs171 hw4) hZ (own_w hw 153 rfl) (own_w hw 2 rfl) (by decide) (by decide)) (g := (mkF m 184 #[.val (.int i0), .val (.int i1), .val (.int i2), .val (.int i3), .val (.int i4), .val (.int i5), .val (.int va), .val (.int vb), .val (.int vc), .val (.int vd), .val (.int ve), .val (.int (257 : Int32)), .val (.int (256 : Int32)), .val (.ref b6), .val (.ref b68), .val (.int (1 : Int32)), .unset, .val (.ref b171)] [(.int ve)])) rfl (by rw [hml]; rfl) (argsL := [(.int ve)]) (rest := []) (lenOf pd_28 rfl) rfl (by show 2 * 0 + _ ≤ _; exact Nat.le_of_eq rfl) (hb hby at_184) (fun _ _ => ⟨rfl, e324, (by decide : 8 + 0 ≤ _), (by decide : 58 + 0 ≤ _)⟩)
              dsimp only [Pt.U, Pt.locs, Pt.cells, Pt.slots] at X325 l325 y325 z325 st325 hQ325
              have l325y := l325.symm
              clear l325
              subst l325y
              obtain rfl : k325 = 8 := y325
              obtain rfl : n325 = 58 := z325
              obtain ⟨rfl, N325q, e325⟩ := hQ325
              have N325 := Fr.app N324 N325q
              refine own_toH T325 (mkF m 222 #[.val (.int i0), .val (.int i1), .val (.int i2), .val (.int i3), .val (.int i4), .val (.int i5), .val (.int va), .val (.int vb), .val (.int vc), .val (.int vd), .val (.int ve), .val (.int (257 : Int32)), .val (.int (256 : Int32)), .val (.ref b6), .val (.ref b68), .val (.int (1 : Int32)), .val (.int (6 : Int32)), .val (.ref b171)] [(.ref b68)]) (fun tq kq => st325 _ (XS.ifYes X325.here hx rfl (pc0 := 187) (pc' := 196) rfl (hb hby at_187) rfl ((if0 _ _).trans (feq (by decide : ¬ ((1 : Int32) = (0 : Int32)))).2) (by decide) (by decide) (XS.bipush X325.here hx rfl (hb hby at_196) (XS.istore X325.here hx rfl (hb hby at_198) rfl (l' := #[.val (.int i0), .val (.int i1), .val (.int i2), .val (.int i3), .val (.int i4), .val (.int i5), .val (.int va), .val (.int vb), .val (.int vc), .val (.int vd), .val (.int ve), .val (.int (257 : Int32)), .val (.int (256 : Int32)), .val (.ref b6), .val (.ref b68), .val (.int (1 : Int32)), .val (.int (6 : Int32)), .val (.ref b171)]) rfl (XS.goto X325.here hx rfl (pc0 := 200) (pc' := 220) rfl (hb hby at_200) (by decide) (by decide) (XS.aload X325.here hx rfl (hb hby at_220) rfl rfl kq)))))) ?_
              obtain ⟨cq326, kq326, q326a, q326b, q326c⟩ := isOf hZ e325 E171q
              obtain ⟨_, _, ⟨T326, L326, k326, n326⟩, -, X326, ⟨Lc326, hQ326, l326, y326, z326⟩, st326⟩ := X325.virtualBack hx (y := (⟨"com/example/wayline/wayline/HeaderReader", "skipWhiteSpace", "()V"⟩ : MethodName)) (z := (⟨"com/example/wayline/wayline/HeaderReader", "skipWhiteSpace", "()V"⟩ : MethodName)) hown (mvT hZ (own_w hw 154 rfl)) (mvT hZ (own_w hw 155 rfl)) (notFace_of_selects (args := #[]) (mvT hZ (own_w hw 157 rfl))) (mvT hZ (own_w hw 157 rfl)) (mvT hZ (own_w hw 156 rfl)) (by decide) (backOf (W := 0) (rmSkip l Z a0 hw [] b68 b76 t88 2 ff88 (own_c7 va vb vc vd ve) G1 vF T171.heap n0 Zs171 f175 hG f176 hvF f172 f173 f174 E171q V171q P171q f178 f179 f180 f181 U88q (by omega) ne_b68_b76 ne_b68_t88 sz68) hZ (own_w hw 158 rfl) (own_w hw 7 rfl) (by decide) (by decide)) q326a q326c (g := (mkF m 222 #[.val (.int i0), .val (.int i1), .val (.int i2), .val (.int i3), .val (.int i4), .val (.int i5), .val (.int va), .val (.int vb), .val (.int vc), .val (.int vd), .val (.int ve), .val (.int (257 : Int32)), .val (.int (256 : Int32)), .val (.ref b6), .val (.ref b68), .val (.int (1 : Int32)), .val (.int (6 : Int32)), .val (.ref b171)] [(.ref b68)])) rfl (by rw [hml]; rfl) (Steps.refl _) (argsL := []) (rest := []) (lenOf pd_3 rfl) rfl (by show 2 * 0 + _ ≤ _; exact Nat.le_of_eq rfl) (hb hby at_222) (fun _ _ => ⟨rfl, e325, (by decide : 8 + 0 ≤ _), (by decide : 58 + 0 ≤ _)⟩)
              dsimp only [Pt.U, Pt.locs, Pt.cells, Pt.slots] at X326 l326 y326 z326 st326 hQ326
              have l326y := l326.symm
              clear l326
              subst l326y
              obtain rfl : k326 = 8 := y326
              obtain rfl : n326 = 58 := z326
              obtain ⟨rfl, N326q, K326q, E326q, V326q, q1, hq0, hqn, P326q, hall, hstop⟩ := hQ326
              have N326 := Fr.app N325 N326q
              have hle1 : ¬ 6 < q1 := (fun z => own_w256 (hall 6 (by omega) z))
              have hge1 : ¬ q1 < 6 := fun z => by
                have h3 : q1 = 2 ∨ q1 = 3 ∨ q1 = 4 ∨ q1 = 5 := (by omega)
                rcases h3 with rfl | rfl | rfl | rfl
                · exact hstop (by decide) hw1
                · exact hstop (by decide) hw2
                · exact hstop (by decide) hw3
                · exact hstop (by decide) hw4
              obtain rfl : q1 = 6 := (by omega)
              have f327 := own_staX f172 K326q E171q
              have f328 := own_staX f173 K326q E171q
              have f329 := own_staX f174 K326q E171q
              have f330 := own_staX f175 K326q E171q
              have f331 := own_staX f176 K326q E171q
              have f332 := E171q.keep K326q
              have f333 := f178.keep K326q
              have f334 := f179.keep K326q (ninS (Ne.symm ne_b68_b76) nin0)
              have f335 := f180.keep K326q (ninS (Ne.symm ne_b68_b76) nin0)
              have f336 := f181.keep K326q (ninS (Ne.symm ne_b68_t88) nin0)
              have f337 := Er171.keep K326q
              have Zs326 : n0 ≤ T326.heap.size := Nat.le_trans Zs171 K326q.1
              have hk := Nat.le_trans hk K326q.1
              have C326 := C171.trans (CHr.keep K326q (allS (Safe.exa hZ.alike E171q (by decide) (by decide)) all0) C171.1)
              refine own_toH T326 (mkF m 229 #[.val (.int i0), .val (.int i1), .val (.int i2), .val (.int i3), .val (.int i4), .val (.int i5), .val (.int va), .val (.int vb), .val (.int vc), .val (.int vd), .val (.int ve), .val (.int (257 : Int32)), .val (.int (256 : Int32)), .val (.ref b6), .val (.ref b68), .val (.int (1 : Int32)), .val (.int (6 : Int32)), .val (.ref b171)] [(.int (256 : Int32)), (.ref b68)]) (fun tq kq => st326.trans (XS.aload X326.here hx rfl (hb hby at_225) rfl rfl (XS.iload X326.here hx rfl (hb hby at_227) rfl kq))) ?_
              obtain ⟨cq338, kq338, q338a, q338b, q338c⟩ := isOf hZ rfl E326q
              obtain ⟨_, _, ⟨T338, L338, k338, n338⟩, -, X338, hS338, hgr338, ⟨Lc338, hQ338, l338, y338, z338, hC338⟩, st338⟩ := X326.virtualBackS hx (y := (⟨"com/example/wayline/wayline/HeaderReader", "textBefore", "(C)Ljava/lang/String;"⟩ : MethodName)) (z := (⟨"com/example/wayline/wayline/HeaderReader", "textBefore", "(C)Ljava/lang/String;"⟩ : MethodName)) hown (mvT hZ (own_w hw 62 rfl)) (mvT hZ (own_w hw 63 rfl)) (notFace_of_selects (args := #[]) (mvT hZ (own_w hw 65 rfl))) (mvT hZ (own_w hw 65 rfl)) (mvT hZ (own_w hw 64 rfl)) (by decide) (backOfSH (W := 0) (rmTB l Z a0 hw [] b68 b76 t88 6 6 ff88 (own_c7 va vb vc vd ve) (256 : Int32) G1 vF T326.heap n0 Zs326 f330 hG f331 hvF f327 f328 f329 E326q V326q P326q f333 f334 f335 f336 U88q (by decide) (by decide) (by decide) rfl (fun i h1 h2 => own_n256 hcva hcvb hcvc hcvd hcve h2) sz68 hEL) hZ (own_w hw 66 rfl) (own_w hw 7 rfl) (by decide) (by decide) hEL C326.1) q338a q338c (g := (mkF m 229 #[.val (.int i0), .val (.int i1), .val (.int i2), .val (.int i3), .val (.int i4), .val (.int i5), .val (.int va), .val (.int vb), .val (.int vc), .val (.int vd), .val (.int ve), .val (.int (257 : Int32)), .val (.int (256 : Int32)), .val (.ref b6), .val (.ref b68), .val (.int (1 : Int32)), .val (.int (6 : Int32)), .val (.ref b171)] [(.int (256 : Int32)), (.ref b68)])) rfl (by rw [hml]; rfl) (Steps.refl _) (argsL := [(.int (256 : Int32))]) (rest := []) (lenOf pd_12 rfl) rfl (by show 2 * 0 + _ ≤ _; exact Nat.le_of_eq rfl) (hb hby at_229) (fun _ _ => ⟨rfl, rfl, (by decide : 8 + 3 ≤ _), (by decide : 58 + 24 ≤ _)⟩)
              dsimp only [Pt.U, Pt.locs, Pt.cells, Pt.slots] at X338 l338 y338 z338 st338 hQ338
              have l338y := l338.symm
              clear l338
              subst l338y
              obtain rfl : k338 = 11 := y338
              obtain rfl : n338 = 82 := z338
              dsimp only [Pt.U, Pt.locs, Pt.cells, Pt.slots] at hS338 hgr338 hC338
              have C338 := C326.trans hC338
              obtain ⟨X338, hS, hZ, hown⟩ := rebS hS hk X338 hS338 hgr338 hZ hown
              have hk := Nat.le_refl T338.heap.size
              obtain ⟨b338, tb338, nn338, gg338, rfl, N338q, K338q, E338q, V338q, P338q, Er338, Vr338, Ar338, or338⟩ := hQ338
              have N338 := Fr.app N326 N338q
              have f339 := own_staX f327 K338q E326q
              have f340 := own_staX f328 K338q E326q
              have f341 := own_staX f329 K338q E326q
              have f342 := own_staX f330 K338q E326q
              have f343 := own_staX f331 K338q E326q
              have f344 := E326q.keep K338q
              have f345 := f333.keep K338q
              have f346 := f334.keep K338q (ninS (Ne.symm ne_b68_b76) nin0)
              have f347 := f335.keep K338q (ninS (Ne.symm ne_b68_b76) nin0)
              have f348 := f336.keep K338q (ninS (Ne.symm ne_b68_t88) nin0)
              have f349 := f337.keep K338q
              have Zs338 : n0 ≤ T338.heap.size := Nat.le_trans Zs326 K338q.1
              refine own_toH T338 (mkF m 236 #[.val (.int i0), .val (.int i1), .val (.int i2), .val (.int i3), .val (.int i4), .val (.int i5), .val (.int va), .val (.int vb), .val (.int vc), .val (.int vd), .val (.int ve), .val (.int (257 : Int32)), .val (.int (256 : Int32)), .val (.ref b6), .val (.ref b68), .val (.int (1 : Int32)), .val (.int (6 : Int32)), .val (.ref b338)] [(.ref b338)]) (fun tq kq => st338.trans (XS.astore X338.here hx rfl (hb hby at_232) rfl rfl (l' := #[.val (.int i0), .val (.int i1), .val (.int i2), .val (.int i3), .val (.int i4), .val (.int i5), .val (.int va), .val (.int vb), .val (.int vc), .val (.int vd), .val (.int ve), .val (.int (257 : Int32)), .val (.int (256 : Int32)), .val (.ref b6), .val (.ref b68), .val (.int (1 : Int32)), .val (.int (6 : Int32)), .val (.ref b338)]) rfl (XS.aload X338.here hx rfl (hb hby at_234) rfl rfl kq))) ?_
              rcases or338 with or338 | or338
              · skip
                obtain ⟨cq350, kq350, q350a, q350b, q350c⟩ := isOf hZ rfl Er338
                obtain ⟨_, _, ⟨T350, L350, k350, n350⟩, -, X350, ⟨Lc350, hQ350, l350, y350, z350⟩, st350⟩ := X338.virtualBack hx (y := (⟨"java/lang/String", "length", "()I"⟩ : MethodName)) (z := (⟨"java/lang/String", "length", "()I"⟩ : MethodName)) hown (mvT hZ (own_w hw 150 rfl)) (mvT hZ (own_w hw 80 rfl)) (notFace_of_selects (args := #[]) (mvT hZ (own_w hw 82 rfl))) (mvT hZ (own_w hw 82 rfl)) (mvT hZ (own_w hw 81 rfl)) (by decide) (backOf (W := 0) (rmLen l Z a0 hw [] b338 tb338 (6 - 6) gg338 G1 T338.heap n0 Zs338 f342 hG Er338 Vr338 or338.1 (own_barreq Ar338 or338.2)) hZ (own_w hw 83 rfl) (own_w hw 10 rfl) (by decide) (by decide)) q350a q350c (g := (mkF m 236 #[.val (.int i0), .val (.int i1), .val (.int i2), .val (.int i3), .val (.int i4), .val (.int i5), .val (.int va), .val (.int vb), .val (.int vc), .val (.int vd), .val (.int ve), .val (.int (257 : Int32)), .val (.int (256 : Int32)), .val (.ref b6), .val (.ref b68), .val (.int (1 : Int32)), .val (.int (6 : Int32)), .val (.ref b338)] [(.ref b338)])) rfl (by rw [hml]; rfl) (Steps.refl _) (argsL := []) (rest := []) (lenOf pd_15 rfl) rfl (by show 2 * 0 + _ ≤ _; exact Nat.le_of_eq rfl) (hb hby at_236) (fun _ _ => ⟨rfl, rfl, (by decide : 11 + 0 ≤ _), (by decide : 82 + 0 ≤ _)⟩)
                dsimp only [Pt.U, Pt.locs, Pt.cells, Pt.slots] at X350 l350 y350 z350 st350 hQ350
                have l350y := l350.symm
                clear l350
                subst l350y
                obtain rfl : k350 = 11 := y350
                obtain rfl : n350 = 82 := z350
                obtain ⟨rfl, N350q, e350⟩ := hQ350
                have N350 := Fr.app N338 N350q
                refine own_toH T350 (mkF m 239 #[.val (.int i0), .val (.int i1), .val (.int i2), .val (.int i3), .val (.int i4), .val (.int i5), .val (.int va), .val (.int vb), .val (.int vc), .val (.int vd), .val (.int ve), .val (.int (257 : Int32)), .val (.int (256 : Int32)), .val (.ref b6), .val (.ref b68), .val (.int (1 : Int32)), .val (.int (6 : Int32)), .val (.ref b338)] [(.int (Int32.ofNat (6 - 6)))]) (fun tq kq => st350.trans kq) ?_
                rw [show (Int32.ofNat (6 - 6)) = (0 : Int32) from by decide]
                refine own_toH T350 (mkF m 244 #[.val (.int i0), .val (.int i1), .val (.int i2), .val (.int i3), .val (.int i4), .val (.int i5), .val (.int va), .val (.int vb), .val (.int vc), .val (.int vd), .val (.int ve), .val (.int (257 : Int32)), .val (.int (256 : Int32)), .val (.ref b6), .val (.ref b68), .val (.int (1 : Int32)), .val (.int (6 : Int32)), .val (.ref b338)] [(.int ((6 : Int32) - (6 : Int32))), (.int (0 : Int32))]) (fun tq kq => XS.bipush X350.here hx rfl (hb hby at_239) (XS.iload X350.here hx rfl (hb hby at_241) rfl (XS.isub X350.here hx rfl (hb hby at_243) rfl kq))) ?_
                rw [show ((6 : Int32) - (6 : Int32)) = (0 : Int32) from by decide]
                refine own_toH T350 (mkF m 252 #[.val (.int i0), .val (.int i1), .val (.int i2), .val (.int i3), .val (.int i4), .val (.int i5), .val (.int va), .val (.int vb), .val (.int vc), .val (.int vd), .val (.int ve), .val (.int (257 : Int32)), .val (.int (256 : Int32)), .val (.ref b6), .val (.ref b68), .val (.int (1 : Int32)), .val (.int (6 : Int32)), .val (.ref b338)] [(.int (1 : Int32))]) (fun tq kq => XS.icmpNo X350.here hx rfl (hb hby at_244) rfl (teq (by decide : (0 : Int32) = (0 : Int32))).2 (XS.iconst X350.here hx rfl (hb hby at_247) (XS.goto X350.here hx rfl (pc0 := 248) (pc' := 252) rfl (hb hby at_248) (by decide) (by decide) kq))) ?_
                exact own_retZH X350 hS (by rw [e350]; exact hk) hZ hEL (by rw [e350]; exact C338) hx hret hlk (hb hby at_252) (by decide) (by decide) (Or.inr rfl) ⟨rfl, N350⟩
              · skip
                obtain ⟨cq351, kq351, q351a, q351b, q351c⟩ := isOf hZ rfl Er338
                obtain ⟨_, _, ⟨T351, L351, k351, n351⟩, -, X351, ⟨Lc351, hQ351, l351, y351, z351⟩, st351⟩ := X338.virtualBack hx (y := (⟨"java/lang/String", "length", "()I"⟩ : MethodName)) (z := (⟨"java/lang/String", "length", "()I"⟩ : MethodName)) hown (mvT hZ (own_w hw 150 rfl)) (mvT hZ (own_w hw 80 rfl)) (notFace_of_selects (args := #[]) (mvT hZ (own_w hw 82 rfl))) (mvT hZ (own_w hw 82 rfl)) (mvT hZ (own_w hw 81 rfl)) (by decide) (backOf (W := 0) (rmLen1 l Z a0 hw [] b338 tb338 (6 - 6) gg338 G1 T338.heap n0 Zs338 f342 hG Er338 Vr338 or338.1 (own_barreq Ar338 or338.2) (by decide)) hZ (own_w hw 83 rfl) (own_w hw 10 rfl) (by decide) (by decide)) q351a q351c (g := (mkF m 236 #[.val (.int i0), .val (.int i1), .val (.int i2), .val (.int i3), .val (.int i4), .val (.int i5), .val (.int va), .val (.int vb), .val (.int vc), .val (.int vd), .val (.int ve), .val (.int (257 : Int32)), .val (.int (256 : Int32)), .val (.ref b6), .val (.ref b68), .val (.int (1 : Int32)), .val (.int (6 : Int32)), .val (.ref b338)] [(.ref b338)])) rfl (by rw [hml]; rfl) (Steps.refl _) (argsL := []) (rest := []) (lenOf pd_15 rfl) rfl (by show 2 * 0 + _ ≤ _; exact Nat.le_of_eq rfl) (hb hby at_236) (fun _ _ => ⟨rfl, rfl, (by decide : 11 + 0 ≤ _), (by decide : 82 + 0 ≤ _)⟩)
                dsimp only [Pt.U, Pt.locs, Pt.cells, Pt.slots] at X351 l351 y351 z351 st351 hQ351
                have l351y := l351.symm
                clear l351
                subst l351y
                obtain rfl : k351 = 11 := y351
                obtain rfl : n351 = 82 := z351
                obtain ⟨rfl, N351q, e351⟩ := hQ351
                have N351 := Fr.app N338 N351q
                refine own_toH T351 (mkF m 239 #[.val (.int i0), .val (.int i1), .val (.int i2), .val (.int i3), .val (.int i4), .val (.int i5), .val (.int va), .val (.int vb), .val (.int vc), .val (.int vd), .val (.int ve), .val (.int (257 : Int32)), .val (.int (256 : Int32)), .val (.ref b6), .val (.ref b68), .val (.int (1 : Int32)), .val (.int (6 : Int32)), .val (.ref b338)] [(.int (Int32.ofNat (6 - 6)))]) (fun tq kq => st351.trans kq) ?_
                rw [show (Int32.ofNat (6 - 6)) = (0 : Int32) from by decide]
                refine own_toH T351 (mkF m 244 #[.val (.int i0), .val (.int i1), .val (.int i2), .val (.int i3), .val (.int i4), .val (.int i5), .val (.int va), .val (.int vb), .val (.int vc), .val (.int vd), .val (.int ve), .val (.int (257 : Int32)), .val (.int (256 : Int32)), .val (.ref b6), .val (.ref b68), .val (.int (1 : Int32)), .val (.int (6 : Int32)), .val (.ref b338)] [(.int ((6 : Int32) - (6 : Int32))), (.int (0 : Int32))]) (fun tq kq => XS.bipush X351.here hx rfl (hb hby at_239) (XS.iload X351.here hx rfl (hb hby at_241) rfl (XS.isub X351.here hx rfl (hb hby at_243) rfl kq))) ?_
                rw [show ((6 : Int32) - (6 : Int32)) = (0 : Int32) from by decide]
                refine own_toH T351 (mkF m 252 #[.val (.int i0), .val (.int i1), .val (.int i2), .val (.int i3), .val (.int i4), .val (.int i5), .val (.int va), .val (.int vb), .val (.int vc), .val (.int vd), .val (.int ve), .val (.int (257 : Int32)), .val (.int (256 : Int32)), .val (.ref b6), .val (.ref b68), .val (.int (1 : Int32)), .val (.int (6 : Int32)), .val (.ref b338)] [(.int (1 : Int32))]) (fun tq kq => XS.icmpNo X351.here hx rfl (hb hby at_244) rfl (teq (by decide : (0 : Int32) = (0 : Int32))).2 (XS.iconst X351.here hx rfl (hb hby at_247) (XS.goto X351.here hx rfl (pc0 := 248) (pc' := 252) rfl (hb hby at_248) (by decide) (by decide) kq))) ?_
                exact own_retZH X351 hS (by rw [e351]; exact hk) hZ hEL (by rw [e351]; exact C338) hx hret hlk (hb hby at_252) (by decide) (by decide) (Or.inr rfl) ⟨rfl, N351⟩
            · skip
              obtain ⟨_, _, ⟨T352, L352, k352, n352⟩, -, X352, ⟨Lc352, hQ352, l352, y352, z352⟩, st352⟩ := Jvm.LawKit.callS X324 hx (y := (⟨"com/example/wayline/wayline/HeaderReaderSkipWhiteSpacePinLaw", "ws", "(C)Z"⟩ : MethodName)) hown (mvT hZ (own_w hw 151 rfl)) (mvT hZ (own_w hw 152 rfl)) (mvT hZ (own_w hw 2 rfl)) (mvT hZ (own_w hw 153 rfl)) (by decide) (backOf (W := 0) (rmWs0 l Z a0 hw [] ve T171.heap n0 Zs171 hw4) hZ (own_w hw 153 rfl) (own_w hw 2 rfl) (by decide) (by decide)) (g := (mkF m 184 #[.val (.int i0), .val (.int i1), .val (.int i2), .val (.int i3), .val (.int i4), .val (.int i5), .val (.int va), .val (.int vb), .val (.int vc), .val (.int vd), .val (.int ve), .val (.int (257 : Int32)), .val (.int (256 : Int32)), .val (.ref b6), .val (.ref b68), .val (.int (1 : Int32)), .unset, .val (.ref b171)] [(.int ve)])) rfl (by rw [hml]; rfl) (argsL := [(.int ve)]) (rest := []) (lenOf pd_28 rfl) rfl (by show 2 * 0 + _ ≤ _; exact Nat.le_of_eq rfl) (hb hby at_184) (fun _ _ => ⟨rfl, e324, (by decide : 8 + 0 ≤ _), (by decide : 58 + 0 ≤ _)⟩)
              dsimp only [Pt.U, Pt.locs, Pt.cells, Pt.slots] at X352 l352 y352 z352 st352 hQ352
              have l352y := l352.symm
              clear l352
              subst l352y
              obtain rfl : k352 = 8 := y352
              obtain rfl : n352 = 58 := z352
              obtain ⟨rfl, N352q, e352⟩ := hQ352
              have N352 := Fr.app N324 N352q
              refine own_toH T352 (mkF m 222 #[.val (.int i0), .val (.int i1), .val (.int i2), .val (.int i3), .val (.int i4), .val (.int i5), .val (.int va), .val (.int vb), .val (.int vc), .val (.int vd), .val (.int ve), .val (.int (257 : Int32)), .val (.int (256 : Int32)), .val (.ref b6), .val (.ref b68), .val (.int (1 : Int32)), .val (.int (5 : Int32)), .val (.ref b171)] [(.ref b68)]) (fun tq kq => st352 _ (XS.ifNo X352.here hx rfl (hb hby at_187) rfl ((if0 _ _).trans (teq (by decide : (0 : Int32) = (0 : Int32))).2) (XS.iconst X352.here hx rfl (hb hby at_190) (XS.istore X352.here hx rfl (hb hby at_191) rfl (l' := #[.val (.int i0), .val (.int i1), .val (.int i2), .val (.int i3), .val (.int i4), .val (.int i5), .val (.int va), .val (.int vb), .val (.int vc), .val (.int vd), .val (.int ve), .val (.int (257 : Int32)), .val (.int (256 : Int32)), .val (.ref b6), .val (.ref b68), .val (.int (1 : Int32)), .val (.int (5 : Int32)), .val (.ref b171)]) rfl (XS.goto X352.here hx rfl (pc0 := 193) (pc' := 200) rfl (hb hby at_193) (by decide) (by decide) (XS.goto X352.here hx rfl (pc0 := 200) (pc' := 220) rfl (hb hby at_200) (by decide) (by decide) (XS.aload X352.here hx rfl (hb hby at_220) rfl rfl kq))))))) ?_
              obtain ⟨cq353, kq353, q353a, q353b, q353c⟩ := isOf hZ e352 E171q
              obtain ⟨_, _, ⟨T353, L353, k353, n353⟩, -, X353, ⟨Lc353, hQ353, l353, y353, z353⟩, st353⟩ := X352.virtualBack hx (y := (⟨"com/example/wayline/wayline/HeaderReader", "skipWhiteSpace", "()V"⟩ : MethodName)) (z := (⟨"com/example/wayline/wayline/HeaderReader", "skipWhiteSpace", "()V"⟩ : MethodName)) hown (mvT hZ (own_w hw 154 rfl)) (mvT hZ (own_w hw 155 rfl)) (notFace_of_selects (args := #[]) (mvT hZ (own_w hw 157 rfl))) (mvT hZ (own_w hw 157 rfl)) (mvT hZ (own_w hw 156 rfl)) (by decide) (backOf (W := 0) (rmSkip l Z a0 hw [] b68 b76 t88 2 ff88 (own_c7 va vb vc vd ve) G1 vF T171.heap n0 Zs171 f175 hG f176 hvF f172 f173 f174 E171q V171q P171q f178 f179 f180 f181 U88q (by omega) ne_b68_b76 ne_b68_t88 sz68) hZ (own_w hw 158 rfl) (own_w hw 7 rfl) (by decide) (by decide)) q353a q353c (g := (mkF m 222 #[.val (.int i0), .val (.int i1), .val (.int i2), .val (.int i3), .val (.int i4), .val (.int i5), .val (.int va), .val (.int vb), .val (.int vc), .val (.int vd), .val (.int ve), .val (.int (257 : Int32)), .val (.int (256 : Int32)), .val (.ref b6), .val (.ref b68), .val (.int (1 : Int32)), .val (.int (5 : Int32)), .val (.ref b171)] [(.ref b68)])) rfl (by rw [hml]; rfl) (Steps.refl _) (argsL := []) (rest := []) (lenOf pd_3 rfl) rfl (by show 2 * 0 + _ ≤ _; exact Nat.le_of_eq rfl) (hb hby at_222) (fun _ _ => ⟨rfl, e352, (by decide : 8 + 0 ≤ _), (by decide : 58 + 0 ≤ _)⟩)
              dsimp only [Pt.U, Pt.locs, Pt.cells, Pt.slots] at X353 l353 y353 z353 st353 hQ353
              have l353y := l353.symm
              clear l353
              subst l353y
              obtain rfl : k353 = 8 := y353
              obtain rfl : n353 = 58 := z353
              obtain ⟨rfl, N353q, K353q, E353q, V353q, q1, hq0, hqn, P353q, hall, hstop⟩ := hQ353
              have N353 := Fr.app N352 N353q
              have hle1 : ¬ 5 < q1 := (fun z => hw4 (hall 5 (by omega) z))
              have hge1 : ¬ q1 < 5 := fun z => by
                have h3 : q1 = 2 ∨ q1 = 3 ∨ q1 = 4 := (by omega)
                rcases h3 with rfl | rfl | rfl
                · exact hstop (by decide) hw1
                · exact hstop (by decide) hw2
                · exact hstop (by decide) hw3
              obtain rfl : q1 = 5 := (by omega)
              have f354 := own_staX f172 K353q E171q
              have f355 := own_staX f173 K353q E171q
              have f356 := own_staX f174 K353q E171q
              have f357 := own_staX f175 K353q E171q
              have f358 := own_staX f176 K353q E171q
              have f359 := E171q.keep K353q
              have f360 := f178.keep K353q
              have f361 := f179.keep K353q (ninS (Ne.symm ne_b68_b76) nin0)
              have f362 := f180.keep K353q (ninS (Ne.symm ne_b68_b76) nin0)
              have f363 := f181.keep K353q (ninS (Ne.symm ne_b68_t88) nin0)
              have f364 := Er171.keep K353q
              have Zs353 : n0 ≤ T353.heap.size := Nat.le_trans Zs171 K353q.1
              have hk := Nat.le_trans hk K353q.1
              have C353 := C171.trans (CHr.keep K353q (allS (Safe.exa hZ.alike E171q (by decide) (by decide)) all0) C171.1)
              refine own_toH T353 (mkF m 229 #[.val (.int i0), .val (.int i1), .val (.int i2), .val (.int i3), .val (.int i4), .val (.int i5), .val (.int va), .val (.int vb), .val (.int vc), .val (.int vd), .val (.int ve), .val (.int (257 : Int32)), .val (.int (256 : Int32)), .val (.ref b6), .val (.ref b68), .val (.int (1 : Int32)), .val (.int (5 : Int32)), .val (.ref b171)] [(.int (256 : Int32)), (.ref b68)]) (fun tq kq => st353.trans (XS.aload X353.here hx rfl (hb hby at_225) rfl rfl (XS.iload X353.here hx rfl (hb hby at_227) rfl kq))) ?_
              obtain ⟨cq365, kq365, q365a, q365b, q365c⟩ := isOf hZ rfl E353q
              obtain ⟨_, _, ⟨T365, L365, k365, n365⟩, -, X365, hS365, hgr365, ⟨Lc365, hQ365, l365, y365, z365, hC365⟩, st365⟩ := X353.virtualBackS hx (y := (⟨"com/example/wayline/wayline/HeaderReader", "textBefore", "(C)Ljava/lang/String;"⟩ : MethodName)) (z := (⟨"com/example/wayline/wayline/HeaderReader", "textBefore", "(C)Ljava/lang/String;"⟩ : MethodName)) hown (mvT hZ (own_w hw 62 rfl)) (mvT hZ (own_w hw 63 rfl)) (notFace_of_selects (args := #[]) (mvT hZ (own_w hw 65 rfl))) (mvT hZ (own_w hw 65 rfl)) (mvT hZ (own_w hw 64 rfl)) (by decide) (backOfSH (W := 0) (rmTB l Z a0 hw [] b68 b76 t88 5 6 ff88 (own_c7 va vb vc vd ve) (256 : Int32) G1 vF T353.heap n0 Zs353 f357 hG f358 hvF f354 f355 f356 E353q V353q P353q f360 f361 f362 f363 U88q (by decide) (by decide) (by decide) rfl (fun i h1 h2 => own_n256 hcva hcvb hcvc hcvd hcve h2) sz68 hEL) hZ (own_w hw 66 rfl) (own_w hw 7 rfl) (by decide) (by decide) hEL C353.1) q365a q365c (g := (mkF m 229 #[.val (.int i0), .val (.int i1), .val (.int i2), .val (.int i3), .val (.int i4), .val (.int i5), .val (.int va), .val (.int vb), .val (.int vc), .val (.int vd), .val (.int ve), .val (.int (257 : Int32)), .val (.int (256 : Int32)), .val (.ref b6), .val (.ref b68), .val (.int (1 : Int32)), .val (.int (5 : Int32)), .val (.ref b171)] [(.int (256 : Int32)), (.ref b68)])) rfl (by rw [hml]; rfl) (Steps.refl _) (argsL := [(.int (256 : Int32))]) (rest := []) (lenOf pd_12 rfl) rfl (by show 2 * 0 + _ ≤ _; exact Nat.le_of_eq rfl) (hb hby at_229) (fun _ _ => ⟨rfl, rfl, (by decide : 8 + 3 ≤ _), (by decide : 58 + 24 ≤ _)⟩)
              dsimp only [Pt.U, Pt.locs, Pt.cells, Pt.slots] at X365 l365 y365 z365 st365 hQ365
              have l365y := l365.symm
              clear l365
              subst l365y
              obtain rfl : k365 = 11 := y365
              obtain rfl : n365 = 82 := z365
              dsimp only [Pt.U, Pt.locs, Pt.cells, Pt.slots] at hS365 hgr365 hC365
              have C365 := C353.trans hC365
              obtain ⟨X365, hS, hZ, hown⟩ := rebS hS hk X365 hS365 hgr365 hZ hown
              have hk := Nat.le_refl T365.heap.size
              obtain ⟨b365, tb365, nn365, gg365, rfl, N365q, K365q, E365q, V365q, P365q, Er365, Vr365, Ar365, or365⟩ := hQ365
              have N365 := Fr.app N353 N365q
              have f366 := own_staX f354 K365q E353q
              have f367 := own_staX f355 K365q E353q
              have f368 := own_staX f356 K365q E353q
              have f369 := own_staX f357 K365q E353q
              have f370 := own_staX f358 K365q E353q
              have f371 := E353q.keep K365q
              have f372 := f360.keep K365q
              have f373 := f361.keep K365q (ninS (Ne.symm ne_b68_b76) nin0)
              have f374 := f362.keep K365q (ninS (Ne.symm ne_b68_b76) nin0)
              have f375 := f363.keep K365q (ninS (Ne.symm ne_b68_t88) nin0)
              have f376 := f364.keep K365q
              have Zs365 : n0 ≤ T365.heap.size := Nat.le_trans Zs353 K365q.1
              refine own_toH T365 (mkF m 236 #[.val (.int i0), .val (.int i1), .val (.int i2), .val (.int i3), .val (.int i4), .val (.int i5), .val (.int va), .val (.int vb), .val (.int vc), .val (.int vd), .val (.int ve), .val (.int (257 : Int32)), .val (.int (256 : Int32)), .val (.ref b6), .val (.ref b68), .val (.int (1 : Int32)), .val (.int (5 : Int32)), .val (.ref b365)] [(.ref b365)]) (fun tq kq => st365.trans (XS.astore X365.here hx rfl (hb hby at_232) rfl rfl (l' := #[.val (.int i0), .val (.int i1), .val (.int i2), .val (.int i3), .val (.int i4), .val (.int i5), .val (.int va), .val (.int vb), .val (.int vc), .val (.int vd), .val (.int ve), .val (.int (257 : Int32)), .val (.int (256 : Int32)), .val (.ref b6), .val (.ref b68), .val (.int (1 : Int32)), .val (.int (5 : Int32)), .val (.ref b365)]) rfl (XS.aload X365.here hx rfl (hb hby at_234) rfl rfl kq))) ?_
              rcases or365 with or365 | or365
              · skip
                obtain ⟨cq377, kq377, q377a, q377b, q377c⟩ := isOf hZ rfl Er365
                obtain ⟨_, _, ⟨T377, L377, k377, n377⟩, -, X377, ⟨Lc377, hQ377, l377, y377, z377⟩, st377⟩ := X365.virtualBack hx (y := (⟨"java/lang/String", "length", "()I"⟩ : MethodName)) (z := (⟨"java/lang/String", "length", "()I"⟩ : MethodName)) hown (mvT hZ (own_w hw 150 rfl)) (mvT hZ (own_w hw 80 rfl)) (notFace_of_selects (args := #[]) (mvT hZ (own_w hw 82 rfl))) (mvT hZ (own_w hw 82 rfl)) (mvT hZ (own_w hw 81 rfl)) (by decide) (backOf (W := 0) (rmLen l Z a0 hw [] b365 tb365 (6 - 5) gg365 G1 T365.heap n0 Zs365 f369 hG Er365 Vr365 or365.1 (own_barreq Ar365 or365.2)) hZ (own_w hw 83 rfl) (own_w hw 10 rfl) (by decide) (by decide)) q377a q377c (g := (mkF m 236 #[.val (.int i0), .val (.int i1), .val (.int i2), .val (.int i3), .val (.int i4), .val (.int i5), .val (.int va), .val (.int vb), .val (.int vc), .val (.int vd), .val (.int ve), .val (.int (257 : Int32)), .val (.int (256 : Int32)), .val (.ref b6), .val (.ref b68), .val (.int (1 : Int32)), .val (.int (5 : Int32)), .val (.ref b365)] [(.ref b365)])) rfl (by rw [hml]; rfl) (Steps.refl _) (argsL := []) (rest := []) (lenOf pd_15 rfl) rfl (by show 2 * 0 + _ ≤ _; exact Nat.le_of_eq rfl) (hb hby at_236) (fun _ _ => ⟨rfl, rfl, (by decide : 11 + 0 ≤ _), (by decide : 82 + 0 ≤ _)⟩)
                dsimp only [Pt.U, Pt.locs, Pt.cells, Pt.slots] at X377 l377 y377 z377 st377 hQ377
                have l377y := l377.symm
                clear l377
                subst l377y
                obtain rfl : k377 = 11 := y377
                obtain rfl : n377 = 82 := z377
                obtain ⟨rfl, N377q, e377⟩ := hQ377
                have N377 := Fr.app N365 N377q
                refine own_toH T377 (mkF m 239 #[.val (.int i0), .val (.int i1), .val (.int i2), .val (.int i3), .val (.int i4), .val (.int i5), .val (.int va), .val (.int vb), .val (.int vc), .val (.int vd), .val (.int ve), .val (.int (257 : Int32)), .val (.int (256 : Int32)), .val (.ref b6), .val (.ref b68), .val (.int (1 : Int32)), .val (.int (5 : Int32)), .val (.ref b365)] [(.int (Int32.ofNat (6 - 5)))]) (fun tq kq => st377.trans kq) ?_
                rw [show (Int32.ofNat (6 - 5)) = (1 : Int32) from by decide]
                refine own_toH T377 (mkF m 244 #[.val (.int i0), .val (.int i1), .val (.int i2), .val (.int i3), .val (.int i4), .val (.int i5), .val (.int va), .val (.int vb), .val (.int vc), .val (.int vd), .val (.int ve), .val (.int (257 : Int32)), .val (.int (256 : Int32)), .val (.ref b6), .val (.ref b68), .val (.int (1 : Int32)), .val (.int (5 : Int32)), .val (.ref b365)] [(.int ((6 : Int32) - (5 : Int32))), (.int (1 : Int32))]) (fun tq kq => XS.bipush X377.here hx rfl (hb hby at_239) (XS.iload X377.here hx rfl (hb hby at_241) rfl (XS.isub X377.here hx rfl (hb hby at_243) rfl kq))) ?_
                rw [show ((6 : Int32) - (5 : Int32)) = (1 : Int32) from by decide]
                refine own_toH T377 (mkF m 252 #[.val (.int i0), .val (.int i1), .val (.int i2), .val (.int i3), .val (.int i4), .val (.int i5), .val (.int va), .val (.int vb), .val (.int vc), .val (.int vd), .val (.int ve), .val (.int (257 : Int32)), .val (.int (256 : Int32)), .val (.ref b6), .val (.ref b68), .val (.int (1 : Int32)), .val (.int (5 : Int32)), .val (.ref b365)] [(.int (1 : Int32))]) (fun tq kq => XS.icmpNo X377.here hx rfl (hb hby at_244) rfl (teq (by decide : (1 : Int32) = (1 : Int32))).2 (XS.iconst X377.here hx rfl (hb hby at_247) (XS.goto X377.here hx rfl (pc0 := 248) (pc' := 252) rfl (hb hby at_248) (by decide) (by decide) kq))) ?_
                exact own_retZH X377 hS (by rw [e377]; exact hk) hZ hEL (by rw [e377]; exact C365) hx hret hlk (hb hby at_252) (by decide) (by decide) (Or.inr rfl) ⟨rfl, N377⟩
              · skip
                obtain ⟨cq378, kq378, q378a, q378b, q378c⟩ := isOf hZ rfl Er365
                obtain ⟨_, _, ⟨T378, L378, k378, n378⟩, -, X378, ⟨Lc378, hQ378, l378, y378, z378⟩, st378⟩ := X365.virtualBack hx (y := (⟨"java/lang/String", "length", "()I"⟩ : MethodName)) (z := (⟨"java/lang/String", "length", "()I"⟩ : MethodName)) hown (mvT hZ (own_w hw 150 rfl)) (mvT hZ (own_w hw 80 rfl)) (notFace_of_selects (args := #[]) (mvT hZ (own_w hw 82 rfl))) (mvT hZ (own_w hw 82 rfl)) (mvT hZ (own_w hw 81 rfl)) (by decide) (backOf (W := 0) (rmLen1 l Z a0 hw [] b365 tb365 (6 - 5) gg365 G1 T365.heap n0 Zs365 f369 hG Er365 Vr365 or365.1 (own_barreq Ar365 or365.2) (by decide)) hZ (own_w hw 83 rfl) (own_w hw 10 rfl) (by decide) (by decide)) q378a q378c (g := (mkF m 236 #[.val (.int i0), .val (.int i1), .val (.int i2), .val (.int i3), .val (.int i4), .val (.int i5), .val (.int va), .val (.int vb), .val (.int vc), .val (.int vd), .val (.int ve), .val (.int (257 : Int32)), .val (.int (256 : Int32)), .val (.ref b6), .val (.ref b68), .val (.int (1 : Int32)), .val (.int (5 : Int32)), .val (.ref b365)] [(.ref b365)])) rfl (by rw [hml]; rfl) (Steps.refl _) (argsL := []) (rest := []) (lenOf pd_15 rfl) rfl (by show 2 * 0 + _ ≤ _; exact Nat.le_of_eq rfl) (hb hby at_236) (fun _ _ => ⟨rfl, rfl, (by decide : 11 + 0 ≤ _), (by decide : 82 + 0 ≤ _)⟩)
                dsimp only [Pt.U, Pt.locs, Pt.cells, Pt.slots] at X378 l378 y378 z378 st378 hQ378
                have l378y := l378.symm
                clear l378
                subst l378y
                obtain rfl : k378 = 11 := y378
                obtain rfl : n378 = 82 := z378
                obtain ⟨rfl, N378q, e378⟩ := hQ378
                have N378 := Fr.app N365 N378q
                refine own_toH T378 (mkF m 239 #[.val (.int i0), .val (.int i1), .val (.int i2), .val (.int i3), .val (.int i4), .val (.int i5), .val (.int va), .val (.int vb), .val (.int vc), .val (.int vd), .val (.int ve), .val (.int (257 : Int32)), .val (.int (256 : Int32)), .val (.ref b6), .val (.ref b68), .val (.int (1 : Int32)), .val (.int (5 : Int32)), .val (.ref b365)] [(.int (Int32.ofNat (6 - 5)))]) (fun tq kq => st378.trans kq) ?_
                rw [show (Int32.ofNat (6 - 5)) = (1 : Int32) from by decide]
                refine own_toH T378 (mkF m 244 #[.val (.int i0), .val (.int i1), .val (.int i2), .val (.int i3), .val (.int i4), .val (.int i5), .val (.int va), .val (.int vb), .val (.int vc), .val (.int vd), .val (.int ve), .val (.int (257 : Int32)), .val (.int (256 : Int32)), .val (.ref b6), .val (.ref b68), .val (.int (1 : Int32)), .val (.int (5 : Int32)), .val (.ref b365)] [(.int ((6 : Int32) - (5 : Int32))), (.int (1 : Int32))]) (fun tq kq => XS.bipush X378.here hx rfl (hb hby at_239) (XS.iload X378.here hx rfl (hb hby at_241) rfl (XS.isub X378.here hx rfl (hb hby at_243) rfl kq))) ?_
                rw [show ((6 : Int32) - (5 : Int32)) = (1 : Int32) from by decide]
                refine own_toH T378 (mkF m 252 #[.val (.int i0), .val (.int i1), .val (.int i2), .val (.int i3), .val (.int i4), .val (.int i5), .val (.int va), .val (.int vb), .val (.int vc), .val (.int vd), .val (.int ve), .val (.int (257 : Int32)), .val (.int (256 : Int32)), .val (.ref b6), .val (.ref b68), .val (.int (1 : Int32)), .val (.int (5 : Int32)), .val (.ref b365)] [(.int (1 : Int32))]) (fun tq kq => XS.icmpNo X378.here hx rfl (hb hby at_244) rfl (teq (by decide : (1 : Int32) = (1 : Int32))).2 (XS.iconst X378.here hx rfl (hb hby at_247) (XS.goto X378.here hx rfl (pc0 := 248) (pc' := 252) rfl (hb hby at_248) (by decide) (by decide) kq))) ?_
                exact own_retZH X378 hS (by rw [e378]; exact hk) hZ hEL (by rw [e378]; exact C365) hx hret hlk (hb hby at_252) (by decide) (by decide) (Or.inr rfl) ⟨rfl, N378⟩
          · skip
            obtain ⟨_, _, ⟨T379, L379, k379, n379⟩, -, X379, ⟨Lc379, hQ379, l379, y379, z379⟩, st379⟩ := Jvm.LawKit.callS X323 hx (y := (⟨"com/example/wayline/wayline/HeaderReaderSkipWhiteSpacePinLaw", "ws", "(C)Z"⟩ : MethodName)) hown (mvT hZ (own_w hw 151 rfl)) (mvT hZ (own_w hw 152 rfl)) (mvT hZ (own_w hw 2 rfl)) (mvT hZ (own_w hw 153 rfl)) (by decide) (backOf (W := 0) (rmWs0 l Z a0 hw [] vd T171.heap n0 Zs171 hw3) hZ (own_w hw 153 rfl) (own_w hw 2 rfl) (by decide) (by decide)) (g := (mkF m 170 #[.val (.int i0), .val (.int i1), .val (.int i2), .val (.int i3), .val (.int i4), .val (.int i5), .val (.int va), .val (.int vb), .val (.int vc), .val (.int vd), .val (.int ve), .val (.int (257 : Int32)), .val (.int (256 : Int32)), .val (.ref b6), .val (.ref b68), .val (.int (1 : Int32)), .unset, .val (.ref b171)] [(.int vd)])) rfl (by rw [hml]; rfl) (argsL := [(.int vd)]) (rest := []) (lenOf pd_28 rfl) rfl (by show 2 * 0 + _ ≤ _; exact Nat.le_of_eq rfl) (hb hby at_170) (fun _ _ => ⟨rfl, e323, (by decide : 8 + 0 ≤ _), (by decide : 58 + 0 ≤ _)⟩)
            dsimp only [Pt.U, Pt.locs, Pt.cells, Pt.slots] at X379 l379 y379 z379 st379 hQ379
            have l379y := l379.symm
            clear l379
            subst l379y
            obtain rfl : k379 = 8 := y379
            obtain rfl : n379 = 58 := z379
            obtain ⟨rfl, N379q, e379⟩ := hQ379
            have N379 := Fr.app N323 N379q
            refine own_toH T379 (mkF m 222 #[.val (.int i0), .val (.int i1), .val (.int i2), .val (.int i3), .val (.int i4), .val (.int i5), .val (.int va), .val (.int vb), .val (.int vc), .val (.int vd), .val (.int ve), .val (.int (257 : Int32)), .val (.int (256 : Int32)), .val (.ref b6), .val (.ref b68), .val (.int (1 : Int32)), .val (.int (4 : Int32)), .val (.ref b171)] [(.ref b68)]) (fun tq kq => st379 _ (XS.ifNo X379.here hx rfl (hb hby at_173) rfl ((if0 _ _).trans (teq (by decide : (0 : Int32) = (0 : Int32))).2) (XS.iconst X379.here hx rfl (hb hby at_176) (XS.istore X379.here hx rfl (hb hby at_177) rfl (l' := #[.val (.int i0), .val (.int i1), .val (.int i2), .val (.int i3), .val (.int i4), .val (.int i5), .val (.int va), .val (.int vb), .val (.int vc), .val (.int vd), .val (.int ve), .val (.int (257 : Int32)), .val (.int (256 : Int32)), .val (.ref b6), .val (.ref b68), .val (.int (1 : Int32)), .val (.int (4 : Int32)), .val (.ref b171)]) rfl (XS.goto X379.here hx rfl (pc0 := 179) (pc' := 200) rfl (hb hby at_179) (by decide) (by decide) (XS.goto X379.here hx rfl (pc0 := 200) (pc' := 220) rfl (hb hby at_200) (by decide) (by decide) (XS.aload X379.here hx rfl (hb hby at_220) rfl rfl kq))))))) ?_
            obtain ⟨cq380, kq380, q380a, q380b, q380c⟩ := isOf hZ e379 E171q
            obtain ⟨_, _, ⟨T380, L380, k380, n380⟩, -, X380, ⟨Lc380, hQ380, l380, y380, z380⟩, st380⟩ := X379.virtualBack hx (y := (⟨"com/example/wayline/wayline/HeaderReader", "skipWhiteSpace", "()V"⟩ : MethodName)) (z := (⟨"com/example/wayline/wayline/HeaderReader", "skipWhiteSpace", "()V"⟩ : MethodName)) hown (mvT hZ (own_w hw 154 rfl)) (mvT hZ (own_w hw 155 rfl)) (notFace_of_selects (args := #[]) (mvT hZ (own_w hw 157 rfl))) (mvT hZ (own_w hw 157 rfl)) (mvT hZ (own_w hw 156 rfl)) (by decide) (backOf (W := 0) (rmSkip l Z a0 hw [] b68 b76 t88 2 ff88 (own_c7 va vb vc vd ve) G1 vF T171.heap n0 Zs171 f175 hG f176 hvF f172 f173 f174 E171q V171q P171q f178 f179 f180 f181 U88q (by omega) ne_b68_b76 ne_b68_t88 sz68) hZ (own_w hw 158 rfl) (own_w hw 7 rfl) (by decide) (by decide)) q380a q380c (g := (mkF m 222 #[.val (.int i0), .val (.int i1), .val (.int i2), .val (.int i3), .val (.int i4), .val (.int i5), .val (.int va), .val (.int vb), .val (.int vc), .val (.int vd), .val (.int ve), .val (.int (257 : Int32)), .val (.int (256 : Int32)), .val (.ref b6), .val (.ref b68), .val (.int (1 : Int32)), .val (.int (4 : Int32)), .val (.ref b171)] [(.ref b68)])) rfl (by rw [hml]; rfl) (Steps.refl _) (argsL := []) (rest := []) (lenOf pd_3 rfl) rfl (by show 2 * 0 + _ ≤ _; exact Nat.le_of_eq rfl) (hb hby at_222) (fun _ _ => ⟨rfl, e379, (by decide : 8 + 0 ≤ _), (by decide : 58 + 0 ≤ _)⟩)
            dsimp only [Pt.U, Pt.locs, Pt.cells, Pt.slots] at X380 l380 y380 z380 st380 hQ380
            have l380y := l380.symm
            clear l380
            subst l380y
            obtain rfl : k380 = 8 := y380
            obtain rfl : n380 = 58 := z380
            obtain ⟨rfl, N380q, K380q, E380q, V380q, q1, hq0, hqn, P380q, hall, hstop⟩ := hQ380
            have N380 := Fr.app N379 N380q
            have hle1 : ¬ 4 < q1 := (fun z => hw3 (hall 4 (by omega) z))
            have hge1 : ¬ q1 < 4 := fun z => by
              have h3 : q1 = 2 ∨ q1 = 3 := (by omega)
              rcases h3 with rfl | rfl
              · exact hstop (by decide) hw1
              · exact hstop (by decide) hw2
            obtain rfl : q1 = 4 := (by omega)
            have f381 := own_staX f172 K380q E171q
            have f382 := own_staX f173 K380q E171q
            have f383 := own_staX f174 K380q E171q
            have f384 := own_staX f175 K380q E171q
            have f385 := own_staX f176 K380q E171q
            have f386 := E171q.keep K380q
            have f387 := f178.keep K380q
            have f388 := f179.keep K380q (ninS (Ne.symm ne_b68_b76) nin0)
            have f389 := f180.keep K380q (ninS (Ne.symm ne_b68_b76) nin0)
            have f390 := f181.keep K380q (ninS (Ne.symm ne_b68_t88) nin0)
            have f391 := Er171.keep K380q
            have Zs380 : n0 ≤ T380.heap.size := Nat.le_trans Zs171 K380q.1
            have hk := Nat.le_trans hk K380q.1
            have C380 := C171.trans (CHr.keep K380q (allS (Safe.exa hZ.alike E171q (by decide) (by decide)) all0) C171.1)
            refine own_toH T380 (mkF m 229 #[.val (.int i0), .val (.int i1), .val (.int i2), .val (.int i3), .val (.int i4), .val (.int i5), .val (.int va), .val (.int vb), .val (.int vc), .val (.int vd), .val (.int ve), .val (.int (257 : Int32)), .val (.int (256 : Int32)), .val (.ref b6), .val (.ref b68), .val (.int (1 : Int32)), .val (.int (4 : Int32)), .val (.ref b171)] [(.int (256 : Int32)), (.ref b68)]) (fun tq kq => st380.trans (XS.aload X380.here hx rfl (hb hby at_225) rfl rfl (XS.iload X380.here hx rfl (hb hby at_227) rfl kq))) ?_
            obtain ⟨cq392, kq392, q392a, q392b, q392c⟩ := isOf hZ rfl E380q
            obtain ⟨_, _, ⟨T392, L392, k392, n392⟩, -, X392, hS392, hgr392, ⟨Lc392, hQ392, l392, y392, z392, hC392⟩, st392⟩ := X380.virtualBackS hx (y := (⟨"com/example/wayline/wayline/HeaderReader", "textBefore", "(C)Ljava/lang/String;"⟩ : MethodName)) (z := (⟨"com/example/wayline/wayline/HeaderReader", "textBefore", "(C)Ljava/lang/String;"⟩ : MethodName)) hown (mvT hZ (own_w hw 62 rfl)) (mvT hZ (own_w hw 63 rfl)) (notFace_of_selects (args := #[]) (mvT hZ (own_w hw 65 rfl))) (mvT hZ (own_w hw 65 rfl)) (mvT hZ (own_w hw 64 rfl)) (by decide) (backOfSH (W := 0) (rmTB l Z a0 hw [] b68 b76 t88 4 6 ff88 (own_c7 va vb vc vd ve) (256 : Int32) G1 vF T380.heap n0 Zs380 f384 hG f385 hvF f381 f382 f383 E380q V380q P380q f387 f388 f389 f390 U88q (by decide) (by decide) (by decide) rfl (fun i h1 h2 => own_n256 hcva hcvb hcvc hcvd hcve h2) sz68 hEL) hZ (own_w hw 66 rfl) (own_w hw 7 rfl) (by decide) (by decide) hEL C380.1) q392a q392c (g := (mkF m 229 #[.val (.int i0), .val (.int i1), .val (.int i2), .val (.int i3), .val (.int i4), .val (.int i5), .val (.int va), .val (.int vb), .val (.int vc), .val (.int vd), .val (.int ve), .val (.int (257 : Int32)), .val (.int (256 : Int32)), .val (.ref b6), .val (.ref b68), .val (.int (1 : Int32)), .val (.int (4 : Int32)), .val (.ref b171)] [(.int (256 : Int32)), (.ref b68)])) rfl (by rw [hml]; rfl) (Steps.refl _) (argsL := [(.int (256 : Int32))]) (rest := []) (lenOf pd_12 rfl) rfl (by show 2 * 0 + _ ≤ _; exact Nat.le_of_eq rfl) (hb hby at_229) (fun _ _ => ⟨rfl, rfl, (by decide : 8 + 3 ≤ _), (by decide : 58 + 24 ≤ _)⟩)
            dsimp only [Pt.U, Pt.locs, Pt.cells, Pt.slots] at X392 l392 y392 z392 st392 hQ392
            have l392y := l392.symm
            clear l392
            subst l392y
            obtain rfl : k392 = 11 := y392
            obtain rfl : n392 = 82 := z392
            dsimp only [Pt.U, Pt.locs, Pt.cells, Pt.slots] at hS392 hgr392 hC392
            have C392 := C380.trans hC392
            obtain ⟨X392, hS, hZ, hown⟩ := rebS hS hk X392 hS392 hgr392 hZ hown
            have hk := Nat.le_refl T392.heap.size
            obtain ⟨b392, tb392, nn392, gg392, rfl, N392q, K392q, E392q, V392q, P392q, Er392, Vr392, Ar392, or392⟩ := hQ392
            have N392 := Fr.app N380 N392q
            have f393 := own_staX f381 K392q E380q
            have f394 := own_staX f382 K392q E380q
            have f395 := own_staX f383 K392q E380q
            have f396 := own_staX f384 K392q E380q
            have f397 := own_staX f385 K392q E380q
            have f398 := E380q.keep K392q
            have f399 := f387.keep K392q
            have f400 := f388.keep K392q (ninS (Ne.symm ne_b68_b76) nin0)
            have f401 := f389.keep K392q (ninS (Ne.symm ne_b68_b76) nin0)
            have f402 := f390.keep K392q (ninS (Ne.symm ne_b68_t88) nin0)
            have f403 := f391.keep K392q
            have Zs392 : n0 ≤ T392.heap.size := Nat.le_trans Zs380 K392q.1
            refine own_toH T392 (mkF m 236 #[.val (.int i0), .val (.int i1), .val (.int i2), .val (.int i3), .val (.int i4), .val (.int i5), .val (.int va), .val (.int vb), .val (.int vc), .val (.int vd), .val (.int ve), .val (.int (257 : Int32)), .val (.int (256 : Int32)), .val (.ref b6), .val (.ref b68), .val (.int (1 : Int32)), .val (.int (4 : Int32)), .val (.ref b392)] [(.ref b392)]) (fun tq kq => st392.trans (XS.astore X392.here hx rfl (hb hby at_232) rfl rfl (l' := #[.val (.int i0), .val (.int i1), .val (.int i2), .val (.int i3), .val (.int i4), .val (.int i5), .val (.int va), .val (.int vb), .val (.int vc), .val (.int vd), .val (.int ve), .val (.int (257 : Int32)), .val (.int (256 : Int32)), .val (.ref b6), .val (.ref b68), .val (.int (1 : Int32)), .val (.int (4 : Int32)), .val (.ref b392)]) rfl (XS.aload X392.here hx rfl (hb hby at_234) rfl rfl kq))) ?_
            rcases or392 with or392 | or392
            · skip
              obtain ⟨cq404, kq404, q404a, q404b, q404c⟩ := isOf hZ rfl Er392
              obtain ⟨_, _, ⟨T404, L404, k404, n404⟩, -, X404, ⟨Lc404, hQ404, l404, y404, z404⟩, st404⟩ := X392.virtualBack hx (y := (⟨"java/lang/String", "length", "()I"⟩ : MethodName)) (z := (⟨"java/lang/String", "length", "()I"⟩ : MethodName)) hown (mvT hZ (own_w hw 150 rfl)) (mvT hZ (own_w hw 80 rfl)) (notFace_of_selects (args := #[]) (mvT hZ (own_w hw 82 rfl))) (mvT hZ (own_w hw 82 rfl)) (mvT hZ (own_w hw 81 rfl)) (by decide) (backOf (W := 0) (rmLen l Z a0 hw [] b392 tb392 (6 - 4) gg392 G1 T392.heap n0 Zs392 f396 hG Er392 Vr392 or392.1 (own_barreq Ar392 or392.2)) hZ (own_w hw 83 rfl) (own_w hw 10 rfl) (by decide) (by decide)) q404a q404c (g := (mkF m 236 #[.val (.int i0), .val (.int i1), .val (.int i2), .val (.int i3), .val (.int i4), .val (.int i5), .val (.int va), .val (.int vb), .val (.int vc), .val (.int vd), .val (.int ve), .val (.int (257 : Int32)), .val (.int (256 : Int32)), .val (.ref b6), .val (.ref b68), .val (.int (1 : Int32)), .val (.int (4 : Int32)), .val (.ref b392)] [(.ref b392)])) rfl (by rw [hml]; rfl) (Steps.refl _) (argsL := []) (rest := []) (lenOf pd_15 rfl) rfl (by show 2 * 0 + _ ≤ _; exact Nat.le_of_eq rfl) (hb hby at_236) (fun _ _ => ⟨rfl, rfl, (by decide : 11 + 0 ≤ _), (by decide : 82 + 0 ≤ _)⟩)
              dsimp only [Pt.U, Pt.locs, Pt.cells, Pt.slots] at X404 l404 y404 z404 st404 hQ404
              have l404y := l404.symm
              clear l404
              subst l404y
              obtain rfl : k404 = 11 := y404
              obtain rfl : n404 = 82 := z404
              obtain ⟨rfl, N404q, e404⟩ := hQ404
              have N404 := Fr.app N392 N404q
              refine own_toH T404 (mkF m 239 #[.val (.int i0), .val (.int i1), .val (.int i2), .val (.int i3), .val (.int i4), .val (.int i5), .val (.int va), .val (.int vb), .val (.int vc), .val (.int vd), .val (.int ve), .val (.int (257 : Int32)), .val (.int (256 : Int32)), .val (.ref b6), .val (.ref b68), .val (.int (1 : Int32)), .val (.int (4 : Int32)), .val (.ref b392)] [(.int (Int32.ofNat (6 - 4)))]) (fun tq kq => st404.trans kq) ?_
              rw [show (Int32.ofNat (6 - 4)) = (2 : Int32) from by decide]
              refine own_toH T404 (mkF m 244 #[.val (.int i0), .val (.int i1), .val (.int i2), .val (.int i3), .val (.int i4), .val (.int i5), .val (.int va), .val (.int vb), .val (.int vc), .val (.int vd), .val (.int ve), .val (.int (257 : Int32)), .val (.int (256 : Int32)), .val (.ref b6), .val (.ref b68), .val (.int (1 : Int32)), .val (.int (4 : Int32)), .val (.ref b392)] [(.int ((6 : Int32) - (4 : Int32))), (.int (2 : Int32))]) (fun tq kq => XS.bipush X404.here hx rfl (hb hby at_239) (XS.iload X404.here hx rfl (hb hby at_241) rfl (XS.isub X404.here hx rfl (hb hby at_243) rfl kq))) ?_
              rw [show ((6 : Int32) - (4 : Int32)) = (2 : Int32) from by decide]
              refine own_toH T404 (mkF m 252 #[.val (.int i0), .val (.int i1), .val (.int i2), .val (.int i3), .val (.int i4), .val (.int i5), .val (.int va), .val (.int vb), .val (.int vc), .val (.int vd), .val (.int ve), .val (.int (257 : Int32)), .val (.int (256 : Int32)), .val (.ref b6), .val (.ref b68), .val (.int (1 : Int32)), .val (.int (4 : Int32)), .val (.ref b392)] [(.int (1 : Int32))]) (fun tq kq => XS.icmpNo X404.here hx rfl (hb hby at_244) rfl (teq (by decide : (2 : Int32) = (2 : Int32))).2 (XS.iconst X404.here hx rfl (hb hby at_247) (XS.goto X404.here hx rfl (pc0 := 248) (pc' := 252) rfl (hb hby at_248) (by decide) (by decide) kq))) ?_
              exact own_retZH X404 hS (by rw [e404]; exact hk) hZ hEL (by rw [e404]; exact C392) hx hret hlk (hb hby at_252) (by decide) (by decide) (Or.inr rfl) ⟨rfl, N404⟩
            · skip
              obtain ⟨cq405, kq405, q405a, q405b, q405c⟩ := isOf hZ rfl Er392
              obtain ⟨_, _, ⟨T405, L405, k405, n405⟩, -, X405, ⟨Lc405, hQ405, l405, y405, z405⟩, st405⟩ := X392.virtualBack hx (y := (⟨"java/lang/String", "length", "()I"⟩ : MethodName)) (z := (⟨"java/lang/String", "length", "()I"⟩ : MethodName)) hown (mvT hZ (own_w hw 150 rfl)) (mvT hZ (own_w hw 80 rfl)) (notFace_of_selects (args := #[]) (mvT hZ (own_w hw 82 rfl))) (mvT hZ (own_w hw 82 rfl)) (mvT hZ (own_w hw 81 rfl)) (by decide) (backOf (W := 0) (rmLen1 l Z a0 hw [] b392 tb392 (6 - 4) gg392 G1 T392.heap n0 Zs392 f396 hG Er392 Vr392 or392.1 (own_barreq Ar392 or392.2) (by decide)) hZ (own_w hw 83 rfl) (own_w hw 10 rfl) (by decide) (by decide)) q405a q405c (g := (mkF m 236 #[.val (.int i0), .val (.int i1), .val (.int i2), .val (.int i3), .val (.int i4), .val (.int i5), .val (.int va), .val (.int vb), .val (.int vc), .val (.int vd), .val (.int ve), .val (.int (257 : Int32)), .val (.int (256 : Int32)), .val (.ref b6), .val (.ref b68), .val (.int (1 : Int32)), .val (.int (4 : Int32)), .val (.ref b392)] [(.ref b392)])) rfl (by rw [hml]; rfl) (Steps.refl _) (argsL := []) (rest := []) (lenOf pd_15 rfl) rfl (by show 2 * 0 + _ ≤ _; exact Nat.le_of_eq rfl) (hb hby at_236) (fun _ _ => ⟨rfl, rfl, (by decide : 11 + 0 ≤ _), (by decide : 82 + 0 ≤ _)⟩)
              dsimp only [Pt.U, Pt.locs, Pt.cells, Pt.slots] at X405 l405 y405 z405 st405 hQ405
              have l405y := l405.symm
              clear l405
              subst l405y
              obtain rfl : k405 = 11 := y405
              obtain rfl : n405 = 82 := z405
              obtain ⟨rfl, N405q, e405⟩ := hQ405
              have N405 := Fr.app N392 N405q
              refine own_toH T405 (mkF m 239 #[.val (.int i0), .val (.int i1), .val (.int i2), .val (.int i3), .val (.int i4), .val (.int i5), .val (.int va), .val (.int vb), .val (.int vc), .val (.int vd), .val (.int ve), .val (.int (257 : Int32)), .val (.int (256 : Int32)), .val (.ref b6), .val (.ref b68), .val (.int (1 : Int32)), .val (.int (4 : Int32)), .val (.ref b392)] [(.int (Int32.ofNat (6 - 4)))]) (fun tq kq => st405.trans kq) ?_
              rw [show (Int32.ofNat (6 - 4)) = (2 : Int32) from by decide]
              refine own_toH T405 (mkF m 244 #[.val (.int i0), .val (.int i1), .val (.int i2), .val (.int i3), .val (.int i4), .val (.int i5), .val (.int va), .val (.int vb), .val (.int vc), .val (.int vd), .val (.int ve), .val (.int (257 : Int32)), .val (.int (256 : Int32)), .val (.ref b6), .val (.ref b68), .val (.int (1 : Int32)), .val (.int (4 : Int32)), .val (.ref b392)] [(.int ((6 : Int32) - (4 : Int32))), (.int (2 : Int32))]) (fun tq kq => XS.bipush X405.here hx rfl (hb hby at_239) (XS.iload X405.here hx rfl (hb hby at_241) rfl (XS.isub X405.here hx rfl (hb hby at_243) rfl kq))) ?_
              rw [show ((6 : Int32) - (4 : Int32)) = (2 : Int32) from by decide]
              refine own_toH T405 (mkF m 252 #[.val (.int i0), .val (.int i1), .val (.int i2), .val (.int i3), .val (.int i4), .val (.int i5), .val (.int va), .val (.int vb), .val (.int vc), .val (.int vd), .val (.int ve), .val (.int (257 : Int32)), .val (.int (256 : Int32)), .val (.ref b6), .val (.ref b68), .val (.int (1 : Int32)), .val (.int (4 : Int32)), .val (.ref b392)] [(.int (1 : Int32))]) (fun tq kq => XS.icmpNo X405.here hx rfl (hb hby at_244) rfl (teq (by decide : (2 : Int32) = (2 : Int32))).2 (XS.iconst X405.here hx rfl (hb hby at_247) (XS.goto X405.here hx rfl (pc0 := 248) (pc' := 252) rfl (hb hby at_248) (by decide) (by decide) kq))) ?_
              exact own_retZH X405 hS (by rw [e405]; exact hk) hZ hEL (by rw [e405]; exact C392) hx hret hlk (hb hby at_252) (by decide) (by decide) (Or.inr rfl) ⟨rfl, N405⟩
        · skip
          obtain ⟨_, _, ⟨T406, L406, k406, n406⟩, -, X406, ⟨Lc406, hQ406, l406, y406, z406⟩, st406⟩ := Jvm.LawKit.callS X322 hx (y := (⟨"com/example/wayline/wayline/HeaderReaderSkipWhiteSpacePinLaw", "ws", "(C)Z"⟩ : MethodName)) hown (mvT hZ (own_w hw 151 rfl)) (mvT hZ (own_w hw 152 rfl)) (mvT hZ (own_w hw 2 rfl)) (mvT hZ (own_w hw 153 rfl)) (by decide) (backOf (W := 0) (rmWs0 l Z a0 hw [] vc T171.heap n0 Zs171 hw2) hZ (own_w hw 153 rfl) (own_w hw 2 rfl) (by decide) (by decide)) (g := (mkF m 156 #[.val (.int i0), .val (.int i1), .val (.int i2), .val (.int i3), .val (.int i4), .val (.int i5), .val (.int va), .val (.int vb), .val (.int vc), .val (.int vd), .val (.int ve), .val (.int (257 : Int32)), .val (.int (256 : Int32)), .val (.ref b6), .val (.ref b68), .val (.int (1 : Int32)), .unset, .val (.ref b171)] [(.int vc)])) rfl (by rw [hml]; rfl) (argsL := [(.int vc)]) (rest := []) (lenOf pd_28 rfl) rfl (by show 2 * 0 + _ ≤ _; exact Nat.le_of_eq rfl) (hb hby at_156) (fun _ _ => ⟨rfl, e322, (by decide : 8 + 0 ≤ _), (by decide : 58 + 0 ≤ _)⟩)
          dsimp only [Pt.U, Pt.locs, Pt.cells, Pt.slots] at X406 l406 y406 z406 st406 hQ406
          have l406y := l406.symm
          clear l406
          subst l406y
          obtain rfl : k406 = 8 := y406
          obtain rfl : n406 = 58 := z406
          obtain ⟨rfl, N406q, e406⟩ := hQ406
          have N406 := Fr.app N322 N406q
          refine own_toH T406 (mkF m 222 #[.val (.int i0), .val (.int i1), .val (.int i2), .val (.int i3), .val (.int i4), .val (.int i5), .val (.int va), .val (.int vb), .val (.int vc), .val (.int vd), .val (.int ve), .val (.int (257 : Int32)), .val (.int (256 : Int32)), .val (.ref b6), .val (.ref b68), .val (.int (1 : Int32)), .val (.int (3 : Int32)), .val (.ref b171)] [(.ref b68)]) (fun tq kq => st406 _ (XS.ifNo X406.here hx rfl (hb hby at_159) rfl ((if0 _ _).trans (teq (by decide : (0 : Int32) = (0 : Int32))).2) (XS.iconst X406.here hx rfl (hb hby at_162) (XS.istore X406.here hx rfl (hb hby at_163) rfl (l' := #[.val (.int i0), .val (.int i1), .val (.int i2), .val (.int i3), .val (.int i4), .val (.int i5), .val (.int va), .val (.int vb), .val (.int vc), .val (.int vd), .val (.int ve), .val (.int (257 : Int32)), .val (.int (256 : Int32)), .val (.ref b6), .val (.ref b68), .val (.int (1 : Int32)), .val (.int (3 : Int32)), .val (.ref b171)]) rfl (XS.goto X406.here hx rfl (pc0 := 165) (pc' := 200) rfl (hb hby at_165) (by decide) (by decide) (XS.goto X406.here hx rfl (pc0 := 200) (pc' := 220) rfl (hb hby at_200) (by decide) (by decide) (XS.aload X406.here hx rfl (hb hby at_220) rfl rfl kq))))))) ?_
          obtain ⟨cq407, kq407, q407a, q407b, q407c⟩ := isOf hZ e406 E171q
          obtain ⟨_, _, ⟨T407, L407, k407, n407⟩, -, X407, ⟨Lc407, hQ407, l407, y407, z407⟩, st407⟩ := X406.virtualBack hx (y := (⟨"com/example/wayline/wayline/HeaderReader", "skipWhiteSpace", "()V"⟩ : MethodName)) (z := (⟨"com/example/wayline/wayline/HeaderReader", "skipWhiteSpace", "()V"⟩ : MethodName)) hown (mvT hZ (own_w hw 154 rfl)) (mvT hZ (own_w hw 155 rfl)) (notFace_of_selects (args := #[]) (mvT hZ (own_w hw 157 rfl))) (mvT hZ (own_w hw 157 rfl)) (mvT hZ (own_w hw 156 rfl)) (by decide) (backOf (W := 0) (rmSkip l Z a0 hw [] b68 b76 t88 2 ff88 (own_c7 va vb vc vd ve) G1 vF T171.heap n0 Zs171 f175 hG f176 hvF f172 f173 f174 E171q V171q P171q f178 f179 f180 f181 U88q (by omega) ne_b68_b76 ne_b68_t88 sz68) hZ (own_w hw 158 rfl) (own_w hw 7 rfl) (by decide) (by decide)) q407a q407c (g := (mkF m 222 #[.val (.int i0), .val (.int i1), .val (.int i2), .val (.int i3), .val (.int i4), .val (.int i5), .val (.int va), .val (.int vb), .val (.int vc), .val (.int vd), .val (.int ve), .val (.int (257 : Int32)), .val (.int (256 : Int32)), .val (.ref b6), .val (.ref b68), .val (.int (1 : Int32)), .val (.int (3 : Int32)), .val (.ref b171)] [(.ref b68)])) rfl (by rw [hml]; rfl) (Steps.refl _) (argsL := []) (rest := []) (lenOf pd_3 rfl) rfl (by show 2 * 0 + _ ≤ _; exact Nat.le_of_eq rfl) (hb hby at_222) (fun _ _ => ⟨rfl, e406, (by decide : 8 + 0 ≤ _), (by decide : 58 + 0 ≤ _)⟩)
          dsimp only [Pt.U, Pt.locs, Pt.cells, Pt.slots] at X407 l407 y407 z407 st407 hQ407
          have l407y := l407.symm
          clear l407
          subst l407y
          obtain rfl : k407 = 8 := y407
          obtain rfl : n407 = 58 := z407
          obtain ⟨rfl, N407q, K407q, E407q, V407q, q1, hq0, hqn, P407q, hall, hstop⟩ := hQ407
          have N407 := Fr.app N406 N407q
          have hle1 : ¬ 3 < q1 := (fun z => hw2 (hall 3 (by omega) z))
          have hge1 : ¬ q1 < 3 := fun z => by
            have h3 : q1 = 2 := (by omega)
            rcases h3 with rfl
            · exact hstop (by decide) hw1
          obtain rfl : q1 = 3 := (by omega)
          have f408 := own_staX f172 K407q E171q
          have f409 := own_staX f173 K407q E171q
          have f410 := own_staX f174 K407q E171q
          have f411 := own_staX f175 K407q E171q
          have f412 := own_staX f176 K407q E171q
          have f413 := E171q.keep K407q
          have f414 := f178.keep K407q
          have f415 := f179.keep K407q (ninS (Ne.symm ne_b68_b76) nin0)
          have f416 := f180.keep K407q (ninS (Ne.symm ne_b68_b76) nin0)
          have f417 := f181.keep K407q (ninS (Ne.symm ne_b68_t88) nin0)
          have f418 := Er171.keep K407q
          have Zs407 : n0 ≤ T407.heap.size := Nat.le_trans Zs171 K407q.1
          have hk := Nat.le_trans hk K407q.1
          have C407 := C171.trans (CHr.keep K407q (allS (Safe.exa hZ.alike E171q (by decide) (by decide)) all0) C171.1)
          refine own_toH T407 (mkF m 229 #[.val (.int i0), .val (.int i1), .val (.int i2), .val (.int i3), .val (.int i4), .val (.int i5), .val (.int va), .val (.int vb), .val (.int vc), .val (.int vd), .val (.int ve), .val (.int (257 : Int32)), .val (.int (256 : Int32)), .val (.ref b6), .val (.ref b68), .val (.int (1 : Int32)), .val (.int (3 : Int32)), .val (.ref b171)] [(.int (256 : Int32)), (.ref b68)]) (fun tq kq => st407.trans (XS.aload X407.here hx rfl (hb hby at_225) rfl rfl (XS.iload X407.here hx rfl (hb hby at_227) rfl kq))) ?_
          obtain ⟨cq419, kq419, q419a, q419b, q419c⟩ := isOf hZ rfl E407q
          obtain ⟨_, _, ⟨T419, L419, k419, n419⟩, -, X419, hS419, hgr419, ⟨Lc419, hQ419, l419, y419, z419, hC419⟩, st419⟩ := X407.virtualBackS hx (y := (⟨"com/example/wayline/wayline/HeaderReader", "textBefore", "(C)Ljava/lang/String;"⟩ : MethodName)) (z := (⟨"com/example/wayline/wayline/HeaderReader", "textBefore", "(C)Ljava/lang/String;"⟩ : MethodName)) hown (mvT hZ (own_w hw 62 rfl)) (mvT hZ (own_w hw 63 rfl)) (notFace_of_selects (args := #[]) (mvT hZ (own_w hw 65 rfl))) (mvT hZ (own_w hw 65 rfl)) (mvT hZ (own_w hw 64 rfl)) (by decide) (backOfSH (W := 0) (rmTB l Z a0 hw [] b68 b76 t88 3 6 ff88 (own_c7 va vb vc vd ve) (256 : Int32) G1 vF T407.heap n0 Zs407 f411 hG f412 hvF f408 f409 f410 E407q V407q P407q f414 f415 f416 f417 U88q (by decide) (by decide) (by decide) rfl (fun i h1 h2 => own_n256 hcva hcvb hcvc hcvd hcve h2) sz68 hEL) hZ (own_w hw 66 rfl) (own_w hw 7 rfl) (by decide) (by decide) hEL C407.1) q419a q419c (g := (mkF m 229 #[.val (.int i0), .val (.int i1), .val (.int i2), .val (.int i3), .val (.int i4), .val (.int i5), .val (.int va), .val (.int vb), .val (.int vc), .val (.int vd), .val (.int ve), .val (.int (257 : Int32)), .val (.int (256 : Int32)), .val (.ref b6), .val (.ref b68), .val (.int (1 : Int32)), .val (.int (3 : Int32)), .val (.ref b171)] [(.int (256 : Int32)), (.ref b68)])) rfl (by rw [hml]; rfl) (Steps.refl _) (argsL := [(.int (256 : Int32))]) (rest := []) (lenOf pd_12 rfl) rfl (by show 2 * 0 + _ ≤ _; exact Nat.le_of_eq rfl) (hb hby at_229) (fun _ _ => ⟨rfl, rfl, (by decide : 8 + 3 ≤ _), (by decide : 58 + 24 ≤ _)⟩)
          dsimp only [Pt.U, Pt.locs, Pt.cells, Pt.slots] at X419 l419 y419 z419 st419 hQ419
          have l419y := l419.symm
          clear l419
          subst l419y
          obtain rfl : k419 = 11 := y419
          obtain rfl : n419 = 82 := z419
          dsimp only [Pt.U, Pt.locs, Pt.cells, Pt.slots] at hS419 hgr419 hC419
          have C419 := C407.trans hC419
          obtain ⟨X419, hS, hZ, hown⟩ := rebS hS hk X419 hS419 hgr419 hZ hown
          have hk := Nat.le_refl T419.heap.size
          obtain ⟨b419, tb419, nn419, gg419, rfl, N419q, K419q, E419q, V419q, P419q, Er419, Vr419, Ar419, or419⟩ := hQ419
          have N419 := Fr.app N407 N419q
          have f420 := own_staX f408 K419q E407q
          have f421 := own_staX f409 K419q E407q
          have f422 := own_staX f410 K419q E407q
          have f423 := own_staX f411 K419q E407q
          have f424 := own_staX f412 K419q E407q
          have f425 := E407q.keep K419q
          have f426 := f414.keep K419q
          have f427 := f415.keep K419q (ninS (Ne.symm ne_b68_b76) nin0)
          have f428 := f416.keep K419q (ninS (Ne.symm ne_b68_b76) nin0)
          have f429 := f417.keep K419q (ninS (Ne.symm ne_b68_t88) nin0)
          have f430 := f418.keep K419q
          have Zs419 : n0 ≤ T419.heap.size := Nat.le_trans Zs407 K419q.1
          refine own_toH T419 (mkF m 236 #[.val (.int i0), .val (.int i1), .val (.int i2), .val (.int i3), .val (.int i4), .val (.int i5), .val (.int va), .val (.int vb), .val (.int vc), .val (.int vd), .val (.int ve), .val (.int (257 : Int32)), .val (.int (256 : Int32)), .val (.ref b6), .val (.ref b68), .val (.int (1 : Int32)), .val (.int (3 : Int32)), .val (.ref b419)] [(.ref b419)]) (fun tq kq => st419.trans (XS.astore X419.here hx rfl (hb hby at_232) rfl rfl (l' := #[.val (.int i0), .val (.int i1), .val (.int i2), .val (.int i3), .val (.int i4), .val (.int i5), .val (.int va), .val (.int vb), .val (.int vc), .val (.int vd), .val (.int ve), .val (.int (257 : Int32)), .val (.int (256 : Int32)), .val (.ref b6), .val (.ref b68), .val (.int (1 : Int32)), .val (.int (3 : Int32)), .val (.ref b419)]) rfl (XS.aload X419.here hx rfl (hb hby at_234) rfl rfl kq))) ?_
          rcases or419 with or419 | or419
          · skip
            obtain ⟨cq431, kq431, q431a, q431b, q431c⟩ := isOf hZ rfl Er419
            obtain ⟨_, _, ⟨T431, L431, k431, n431⟩, -, X431, ⟨Lc431, hQ431, l431, y431, z431⟩, st431⟩ := X419.virtualBack hx (y := (⟨"java/lang/String", "length", "()I"⟩ : MethodName)) (z := (⟨"java/lang/String", "length", "()I"⟩ : MethodName)) hown (mvT hZ (own_w hw 150 rfl)) (mvT hZ (own_w hw 80 rfl)) (notFace_of_selects (args := #[]) (mvT hZ (own_w hw 82 rfl))) (mvT hZ (own_w hw 82 rfl)) (mvT hZ (own_w hw 81 rfl)) (by decide) (backOf (W := 0) (rmLen l Z a0 hw [] b419 tb419 (6 - 3) gg419 G1 T419.heap n0 Zs419 f423 hG Er419 Vr419 or419.1 (own_barreq Ar419 or419.2)) hZ (own_w hw 83 rfl) (own_w hw 10 rfl) (by decide) (by decide)) q431a q431c (g := (mkF m 236 #[.val (.int i0), .val (.int i1), .val (.int i2), .val (.int i3), .val (.int i4), .val (.int i5), .val (.int va), .val (.int vb), .val (.int vc), .val (.int vd), .val (.int ve), .val (.int (257 : Int32)), .val (.int (256 : Int32)), .val (.ref b6), .val (.ref b68), .val (.int (1 : Int32)), .val (.int (3 : Int32)), .val (.ref b419)] [(.ref b419)])) rfl (by rw [hml]; rfl) (Steps.refl _) (argsL := []) (rest := []) (lenOf pd_15 rfl) rfl (by show 2 * 0 + _ ≤ _; exact Nat.le_of_eq rfl) (hb hby at_236) (fun _ _ => ⟨rfl, rfl, (by decide : 11 + 0 ≤ _), (by decide : 82 + 0 ≤ _)⟩)
            dsimp only [Pt.U, Pt.locs, Pt.cells, Pt.slots] at X431 l431 y431 z431 st431 hQ431
            have l431y := l431.symm
            clear l431
            subst l431y
            obtain rfl : k431 = 11 := y431
            obtain rfl : n431 = 82 := z431
            obtain ⟨rfl, N431q, e431⟩ := hQ431
            have N431 := Fr.app N419 N431q
            refine own_toH T431 (mkF m 239 #[.val (.int i0), .val (.int i1), .val (.int i2), .val (.int i3), .val (.int i4), .val (.int i5), .val (.int va), .val (.int vb), .val (.int vc), .val (.int vd), .val (.int ve), .val (.int (257 : Int32)), .val (.int (256 : Int32)), .val (.ref b6), .val (.ref b68), .val (.int (1 : Int32)), .val (.int (3 : Int32)), .val (.ref b419)] [(.int (Int32.ofNat (6 - 3)))]) (fun tq kq => st431.trans kq) ?_
            rw [show (Int32.ofNat (6 - 3)) = (3 : Int32) from by decide]
            refine own_toH T431 (mkF m 244 #[.val (.int i0), .val (.int i1), .val (.int i2), .val (.int i3), .val (.int i4), .val (.int i5), .val (.int va), .val (.int vb), .val (.int vc), .val (.int vd), .val (.int ve), .val (.int (257 : Int32)), .val (.int (256 : Int32)), .val (.ref b6), .val (.ref b68), .val (.int (1 : Int32)), .val (.int (3 : Int32)), .val (.ref b419)] [(.int ((6 : Int32) - (3 : Int32))), (.int (3 : Int32))]) (fun tq kq => XS.bipush X431.here hx rfl (hb hby at_239) (XS.iload X431.here hx rfl (hb hby at_241) rfl (XS.isub X431.here hx rfl (hb hby at_243) rfl kq))) ?_
            rw [show ((6 : Int32) - (3 : Int32)) = (3 : Int32) from by decide]
            refine own_toH T431 (mkF m 252 #[.val (.int i0), .val (.int i1), .val (.int i2), .val (.int i3), .val (.int i4), .val (.int i5), .val (.int va), .val (.int vb), .val (.int vc), .val (.int vd), .val (.int ve), .val (.int (257 : Int32)), .val (.int (256 : Int32)), .val (.ref b6), .val (.ref b68), .val (.int (1 : Int32)), .val (.int (3 : Int32)), .val (.ref b419)] [(.int (1 : Int32))]) (fun tq kq => XS.icmpNo X431.here hx rfl (hb hby at_244) rfl (teq (by decide : (3 : Int32) = (3 : Int32))).2 (XS.iconst X431.here hx rfl (hb hby at_247) (XS.goto X431.here hx rfl (pc0 := 248) (pc' := 252) rfl (hb hby at_248) (by decide) (by decide) kq))) ?_
            exact own_retZH X431 hS (by rw [e431]; exact hk) hZ hEL (by rw [e431]; exact C419) hx hret hlk (hb hby at_252) (by decide) (by decide) (Or.inr rfl) ⟨rfl, N431⟩
          · skip
            obtain ⟨cq432, kq432, q432a, q432b, q432c⟩ := isOf hZ rfl Er419
            obtain ⟨_, _, ⟨T432, L432, k432, n432⟩, -, X432, ⟨Lc432, hQ432, l432, y432, z432⟩, st432⟩ := X419.virtualBack hx (y := (⟨"java/lang/String", "length", "()I"⟩ : MethodName)) (z := (⟨"java/lang/String", "length", "()I"⟩ : MethodName)) hown (mvT hZ (own_w hw 150 rfl)) (mvT hZ (own_w hw 80 rfl)) (notFace_of_selects (args := #[]) (mvT hZ (own_w hw 82 rfl))) (mvT hZ (own_w hw 82 rfl)) (mvT hZ (own_w hw 81 rfl)) (by decide) (backOf (W := 0) (rmLen1 l Z a0 hw [] b419 tb419 (6 - 3) gg419 G1 T419.heap n0 Zs419 f423 hG Er419 Vr419 or419.1 (own_barreq Ar419 or419.2) (by decide)) hZ (own_w hw 83 rfl) (own_w hw 10 rfl) (by decide) (by decide)) q432a q432c (g := (mkF m 236 #[.val (.int i0), .val (.int i1), .val (.int i2), .val (.int i3), .val (.int i4), .val (.int i5), .val (.int va), .val (.int vb), .val (.int vc), .val (.int vd), .val (.int ve), .val (.int (257 : Int32)), .val (.int (256 : Int32)), .val (.ref b6), .val (.ref b68), .val (.int (1 : Int32)), .val (.int (3 : Int32)), .val (.ref b419)] [(.ref b419)])) rfl (by rw [hml]; rfl) (Steps.refl _) (argsL := []) (rest := []) (lenOf pd_15 rfl) rfl (by show 2 * 0 + _ ≤ _; exact Nat.le_of_eq rfl) (hb hby at_236) (fun _ _ => ⟨rfl, rfl, (by decide : 11 + 0 ≤ _), (by decide : 82 + 0 ≤ _)⟩)
            dsimp only [Pt.U, Pt.locs, Pt.cells, Pt.slots] at X432 l432 y432 z432 st432 hQ432
            have l432y := l432.symm
            clear l432
            subst l432y
            obtain rfl : k432 = 11 := y432
            obtain rfl : n432 = 82 := z432
            obtain ⟨rfl, N432q, e432⟩ := hQ432
            have N432 := Fr.app N419 N432q
            refine own_toH T432 (mkF m 239 #[.val (.int i0), .val (.int i1), .val (.int i2), .val (.int i3), .val (.int i4), .val (.int i5), .val (.int va), .val (.int vb), .val (.int vc), .val (.int vd), .val (.int ve), .val (.int (257 : Int32)), .val (.int (256 : Int32)), .val (.ref b6), .val (.ref b68), .val (.int (1 : Int32)), .val (.int (3 : Int32)), .val (.ref b419)] [(.int (Int32.ofNat (6 - 3)))]) (fun tq kq => st432.trans kq) ?_
            rw [show (Int32.ofNat (6 - 3)) = (3 : Int32) from by decide]
            refine own_toH T432 (mkF m 244 #[.val (.int i0), .val (.int i1), .val (.int i2), .val (.int i3), .val (.int i4), .val (.int i5), .val (.int va), .val (.int vb), .val (.int vc), .val (.int vd), .val (.int ve), .val (.int (257 : Int32)), .val (.int (256 : Int32)), .val (.ref b6), .val (.ref b68), .val (.int (1 : Int32)), .val (.int (3 : Int32)), .val (.ref b419)] [(.int ((6 : Int32) - (3 : Int32))), (.int (3 : Int32))]) (fun tq kq => XS.bipush X432.here hx rfl (hb hby at_239) (XS.iload X432.here hx rfl (hb hby at_241) rfl (XS.isub X432.here hx rfl (hb hby at_243) rfl kq))) ?_
            rw [show ((6 : Int32) - (3 : Int32)) = (3 : Int32) from by decide]
            refine own_toH T432 (mkF m 252 #[.val (.int i0), .val (.int i1), .val (.int i2), .val (.int i3), .val (.int i4), .val (.int i5), .val (.int va), .val (.int vb), .val (.int vc), .val (.int vd), .val (.int ve), .val (.int (257 : Int32)), .val (.int (256 : Int32)), .val (.ref b6), .val (.ref b68), .val (.int (1 : Int32)), .val (.int (3 : Int32)), .val (.ref b419)] [(.int (1 : Int32))]) (fun tq kq => XS.icmpNo X432.here hx rfl (hb hby at_244) rfl (teq (by decide : (3 : Int32) = (3 : Int32))).2 (XS.iconst X432.here hx rfl (hb hby at_247) (XS.goto X432.here hx rfl (pc0 := 248) (pc' := 252) rfl (hb hby at_248) (by decide) (by decide) kq))) ?_
            exact own_retZH X432 hS (by rw [e432]; exact hk) hZ hEL (by rw [e432]; exact C419) hx hret hlk (hb hby at_252) (by decide) (by decide) (Or.inr rfl) ⟨rfl, N432⟩
      · skip
        obtain ⟨_, _, ⟨T433, L433, k433, n433⟩, -, X433, ⟨Lc433, hQ433, l433, y433, z433⟩, st433⟩ := Jvm.LawKit.callS X321 hx (y := (⟨"com/example/wayline/wayline/HeaderReaderSkipWhiteSpacePinLaw", "ws", "(C)Z"⟩ : MethodName)) hown (mvT hZ (own_w hw 151 rfl)) (mvT hZ (own_w hw 152 rfl)) (mvT hZ (own_w hw 2 rfl)) (mvT hZ (own_w hw 153 rfl)) (by decide) (backOf (W := 0) (rmWs0 l Z a0 hw [] vb T171.heap n0 Zs171 hw1) hZ (own_w hw 153 rfl) (own_w hw 2 rfl) (by decide) (by decide)) (g := (mkF m 142 #[.val (.int i0), .val (.int i1), .val (.int i2), .val (.int i3), .val (.int i4), .val (.int i5), .val (.int va), .val (.int vb), .val (.int vc), .val (.int vd), .val (.int ve), .val (.int (257 : Int32)), .val (.int (256 : Int32)), .val (.ref b6), .val (.ref b68), .val (.int (1 : Int32)), .unset, .val (.ref b171)] [(.int vb)])) rfl (by rw [hml]; rfl) (argsL := [(.int vb)]) (rest := []) (lenOf pd_28 rfl) rfl (by show 2 * 0 + _ ≤ _; exact Nat.le_of_eq rfl) (hb hby at_142) (fun _ _ => ⟨rfl, e321, (by decide : 8 + 0 ≤ _), (by decide : 58 + 0 ≤ _)⟩)
        dsimp only [Pt.U, Pt.locs, Pt.cells, Pt.slots] at X433 l433 y433 z433 st433 hQ433
        have l433y := l433.symm
        clear l433
        subst l433y
        obtain rfl : k433 = 8 := y433
        obtain rfl : n433 = 58 := z433
        obtain ⟨rfl, N433q, e433⟩ := hQ433
        have N433 := Fr.app N321 N433q
        refine own_toH T433 (mkF m 222 #[.val (.int i0), .val (.int i1), .val (.int i2), .val (.int i3), .val (.int i4), .val (.int i5), .val (.int va), .val (.int vb), .val (.int vc), .val (.int vd), .val (.int ve), .val (.int (257 : Int32)), .val (.int (256 : Int32)), .val (.ref b6), .val (.ref b68), .val (.int (1 : Int32)), .val (.int (2 : Int32)), .val (.ref b171)] [(.ref b68)]) (fun tq kq => st433 _ (XS.ifNo X433.here hx rfl (hb hby at_145) rfl ((if0 _ _).trans (teq (by decide : (0 : Int32) = (0 : Int32))).2) (XS.iconst X433.here hx rfl (hb hby at_148) (XS.istore X433.here hx rfl (hb hby at_149) rfl (l' := #[.val (.int i0), .val (.int i1), .val (.int i2), .val (.int i3), .val (.int i4), .val (.int i5), .val (.int va), .val (.int vb), .val (.int vc), .val (.int vd), .val (.int ve), .val (.int (257 : Int32)), .val (.int (256 : Int32)), .val (.ref b6), .val (.ref b68), .val (.int (1 : Int32)), .val (.int (2 : Int32)), .val (.ref b171)]) rfl (XS.goto X433.here hx rfl (pc0 := 151) (pc' := 200) rfl (hb hby at_151) (by decide) (by decide) (XS.goto X433.here hx rfl (pc0 := 200) (pc' := 220) rfl (hb hby at_200) (by decide) (by decide) (XS.aload X433.here hx rfl (hb hby at_220) rfl rfl kq))))))) ?_
        obtain ⟨cq434, kq434, q434a, q434b, q434c⟩ := isOf hZ e433 E171q
        obtain ⟨_, _, ⟨T434, L434, k434, n434⟩, -, X434, ⟨Lc434, hQ434, l434, y434, z434⟩, st434⟩ := X433.virtualBack hx (y := (⟨"com/example/wayline/wayline/HeaderReader", "skipWhiteSpace", "()V"⟩ : MethodName)) (z := (⟨"com/example/wayline/wayline/HeaderReader", "skipWhiteSpace", "()V"⟩ : MethodName)) hown (mvT hZ (own_w hw 154 rfl)) (mvT hZ (own_w hw 155 rfl)) (notFace_of_selects (args := #[]) (mvT hZ (own_w hw 157 rfl))) (mvT hZ (own_w hw 157 rfl)) (mvT hZ (own_w hw 156 rfl)) (by decide) (backOf (W := 0) (rmSkip l Z a0 hw [] b68 b76 t88 2 ff88 (own_c7 va vb vc vd ve) G1 vF T171.heap n0 Zs171 f175 hG f176 hvF f172 f173 f174 E171q V171q P171q f178 f179 f180 f181 U88q (by omega) ne_b68_b76 ne_b68_t88 sz68) hZ (own_w hw 158 rfl) (own_w hw 7 rfl) (by decide) (by decide)) q434a q434c (g := (mkF m 222 #[.val (.int i0), .val (.int i1), .val (.int i2), .val (.int i3), .val (.int i4), .val (.int i5), .val (.int va), .val (.int vb), .val (.int vc), .val (.int vd), .val (.int ve), .val (.int (257 : Int32)), .val (.int (256 : Int32)), .val (.ref b6), .val (.ref b68), .val (.int (1 : Int32)), .val (.int (2 : Int32)), .val (.ref b171)] [(.ref b68)])) rfl (by rw [hml]; rfl) (Steps.refl _) (argsL := []) (rest := []) (lenOf pd_3 rfl) rfl (by show 2 * 0 + _ ≤ _; exact Nat.le_of_eq rfl) (hb hby at_222) (fun _ _ => ⟨rfl, e433, (by decide : 8 + 0 ≤ _), (by decide : 58 + 0 ≤ _)⟩)
        dsimp only [Pt.U, Pt.locs, Pt.cells, Pt.slots] at X434 l434 y434 z434 st434 hQ434
        have l434y := l434.symm
        clear l434
        subst l434y
        obtain rfl : k434 = 8 := y434
        obtain rfl : n434 = 58 := z434
        obtain ⟨rfl, N434q, K434q, E434q, V434q, q1, hq0, hqn, P434q, hall, hstop⟩ := hQ434
        have N434 := Fr.app N433 N434q
        have hle1 : ¬ 2 < q1 := (fun z => hw1 (hall 2 (by omega) z))
        obtain rfl : q1 = 2 := (by omega)
        have f435 := own_staX f172 K434q E171q
        have f436 := own_staX f173 K434q E171q
        have f437 := own_staX f174 K434q E171q
        have f438 := own_staX f175 K434q E171q
        have f439 := own_staX f176 K434q E171q
        have f440 := E171q.keep K434q
        have f441 := f178.keep K434q
        have f442 := f179.keep K434q (ninS (Ne.symm ne_b68_b76) nin0)
        have f443 := f180.keep K434q (ninS (Ne.symm ne_b68_b76) nin0)
        have f444 := f181.keep K434q (ninS (Ne.symm ne_b68_t88) nin0)
        have f445 := Er171.keep K434q
        have Zs434 : n0 ≤ T434.heap.size := Nat.le_trans Zs171 K434q.1
        have hk := Nat.le_trans hk K434q.1
        have C434 := C171.trans (CHr.keep K434q (allS (Safe.exa hZ.alike E171q (by decide) (by decide)) all0) C171.1)
        refine own_toH T434 (mkF m 229 #[.val (.int i0), .val (.int i1), .val (.int i2), .val (.int i3), .val (.int i4), .val (.int i5), .val (.int va), .val (.int vb), .val (.int vc), .val (.int vd), .val (.int ve), .val (.int (257 : Int32)), .val (.int (256 : Int32)), .val (.ref b6), .val (.ref b68), .val (.int (1 : Int32)), .val (.int (2 : Int32)), .val (.ref b171)] [(.int (256 : Int32)), (.ref b68)]) (fun tq kq => st434.trans (XS.aload X434.here hx rfl (hb hby at_225) rfl rfl (XS.iload X434.here hx rfl (hb hby at_227) rfl kq))) ?_
        obtain ⟨cq446, kq446, q446a, q446b, q446c⟩ := isOf hZ rfl E434q
        obtain ⟨_, _, ⟨T446, L446, k446, n446⟩, -, X446, hS446, hgr446, ⟨Lc446, hQ446, l446, y446, z446, hC446⟩, st446⟩ := X434.virtualBackS hx (y := (⟨"com/example/wayline/wayline/HeaderReader", "textBefore", "(C)Ljava/lang/String;"⟩ : MethodName)) (z := (⟨"com/example/wayline/wayline/HeaderReader", "textBefore", "(C)Ljava/lang/String;"⟩ : MethodName)) hown (mvT hZ (own_w hw 62 rfl)) (mvT hZ (own_w hw 63 rfl)) (notFace_of_selects (args := #[]) (mvT hZ (own_w hw 65 rfl))) (mvT hZ (own_w hw 65 rfl)) (mvT hZ (own_w hw 64 rfl)) (by decide) (backOfSH (W := 0) (rmTB l Z a0 hw [] b68 b76 t88 2 6 ff88 (own_c7 va vb vc vd ve) (256 : Int32) G1 vF T434.heap n0 Zs434 f438 hG f439 hvF f435 f436 f437 E434q V434q P434q f441 f442 f443 f444 U88q (by decide) (by decide) (by decide) rfl (fun i h1 h2 => own_n256 hcva hcvb hcvc hcvd hcve h2) sz68 hEL) hZ (own_w hw 66 rfl) (own_w hw 7 rfl) (by decide) (by decide) hEL C434.1) q446a q446c (g := (mkF m 229 #[.val (.int i0), .val (.int i1), .val (.int i2), .val (.int i3), .val (.int i4), .val (.int i5), .val (.int va), .val (.int vb), .val (.int vc), .val (.int vd), .val (.int ve), .val (.int (257 : Int32)), .val (.int (256 : Int32)), .val (.ref b6), .val (.ref b68), .val (.int (1 : Int32)), .val (.int (2 : Int32)), .val (.ref b171)] [(.int (256 : Int32)), (.ref b68)])) rfl (by rw [hml]; rfl) (Steps.refl _) (argsL := [(.int (256 : Int32))]) (rest := []) (lenOf pd_12 rfl) rfl (by show 2 * 0 + _ ≤ _; exact Nat.le_of_eq rfl) (hb hby at_229) (fun _ _ => ⟨rfl, rfl, (by decide : 8 + 3 ≤ _), (by decide : 58 + 24 ≤ _)⟩)
        dsimp only [Pt.U, Pt.locs, Pt.cells, Pt.slots] at X446 l446 y446 z446 st446 hQ446
        have l446y := l446.symm
        clear l446
        subst l446y
        obtain rfl : k446 = 11 := y446
        obtain rfl : n446 = 82 := z446
        dsimp only [Pt.U, Pt.locs, Pt.cells, Pt.slots] at hS446 hgr446 hC446
        have C446 := C434.trans hC446
        obtain ⟨X446, hS, hZ, hown⟩ := rebS hS hk X446 hS446 hgr446 hZ hown
        have hk := Nat.le_refl T446.heap.size
        obtain ⟨b446, tb446, nn446, gg446, rfl, N446q, K446q, E446q, V446q, P446q, Er446, Vr446, Ar446, or446⟩ := hQ446
        have N446 := Fr.app N434 N446q
        have f447 := own_staX f435 K446q E434q
        have f448 := own_staX f436 K446q E434q
        have f449 := own_staX f437 K446q E434q
        have f450 := own_staX f438 K446q E434q
        have f451 := own_staX f439 K446q E434q
        have f452 := E434q.keep K446q
        have f453 := f441.keep K446q
        have f454 := f442.keep K446q (ninS (Ne.symm ne_b68_b76) nin0)
        have f455 := f443.keep K446q (ninS (Ne.symm ne_b68_b76) nin0)
        have f456 := f444.keep K446q (ninS (Ne.symm ne_b68_t88) nin0)
        have f457 := f445.keep K446q
        have Zs446 : n0 ≤ T446.heap.size := Nat.le_trans Zs434 K446q.1
        refine own_toH T446 (mkF m 236 #[.val (.int i0), .val (.int i1), .val (.int i2), .val (.int i3), .val (.int i4), .val (.int i5), .val (.int va), .val (.int vb), .val (.int vc), .val (.int vd), .val (.int ve), .val (.int (257 : Int32)), .val (.int (256 : Int32)), .val (.ref b6), .val (.ref b68), .val (.int (1 : Int32)), .val (.int (2 : Int32)), .val (.ref b446)] [(.ref b446)]) (fun tq kq => st446.trans (XS.astore X446.here hx rfl (hb hby at_232) rfl rfl (l' := #[.val (.int i0), .val (.int i1), .val (.int i2), .val (.int i3), .val (.int i4), .val (.int i5), .val (.int va), .val (.int vb), .val (.int vc), .val (.int vd), .val (.int ve), .val (.int (257 : Int32)), .val (.int (256 : Int32)), .val (.ref b6), .val (.ref b68), .val (.int (1 : Int32)), .val (.int (2 : Int32)), .val (.ref b446)]) rfl (XS.aload X446.here hx rfl (hb hby at_234) rfl rfl kq))) ?_
        rcases or446 with or446 | or446
        · skip
          obtain ⟨cq458, kq458, q458a, q458b, q458c⟩ := isOf hZ rfl Er446
          obtain ⟨_, _, ⟨T458, L458, k458, n458⟩, -, X458, ⟨Lc458, hQ458, l458, y458, z458⟩, st458⟩ := X446.virtualBack hx (y := (⟨"java/lang/String", "length", "()I"⟩ : MethodName)) (z := (⟨"java/lang/String", "length", "()I"⟩ : MethodName)) hown (mvT hZ (own_w hw 150 rfl)) (mvT hZ (own_w hw 80 rfl)) (notFace_of_selects (args := #[]) (mvT hZ (own_w hw 82 rfl))) (mvT hZ (own_w hw 82 rfl)) (mvT hZ (own_w hw 81 rfl)) (by decide) (backOf (W := 0) (rmLen l Z a0 hw [] b446 tb446 (6 - 2) gg446 G1 T446.heap n0 Zs446 f450 hG Er446 Vr446 or446.1 (own_barreq Ar446 or446.2)) hZ (own_w hw 83 rfl) (own_w hw 10 rfl) (by decide) (by decide)) q458a q458c (g := (mkF m 236 #[.val (.int i0), .val (.int i1), .val (.int i2), .val (.int i3), .val (.int i4), .val (.int i5), .val (.int va), .val (.int vb), .val (.int vc), .val (.int vd), .val (.int ve), .val (.int (257 : Int32)), .val (.int (256 : Int32)), .val (.ref b6), .val (.ref b68), .val (.int (1 : Int32)), .val (.int (2 : Int32)), .val (.ref b446)] [(.ref b446)])) rfl (by rw [hml]; rfl) (Steps.refl _) (argsL := []) (rest := []) (lenOf pd_15 rfl) rfl (by show 2 * 0 + _ ≤ _; exact Nat.le_of_eq rfl) (hb hby at_236) (fun _ _ => ⟨rfl, rfl, (by decide : 11 + 0 ≤ _), (by decide : 82 + 0 ≤ _)⟩)
          dsimp only [Pt.U, Pt.locs, Pt.cells, Pt.slots] at X458 l458 y458 z458 st458 hQ458
          have l458y := l458.symm
          clear l458
          subst l458y
          obtain rfl : k458 = 11 := y458
          obtain rfl : n458 = 82 := z458
          obtain ⟨rfl, N458q, e458⟩ := hQ458
          have N458 := Fr.app N446 N458q
          refine own_toH T458 (mkF m 239 #[.val (.int i0), .val (.int i1), .val (.int i2), .val (.int i3), .val (.int i4), .val (.int i5), .val (.int va), .val (.int vb), .val (.int vc), .val (.int vd), .val (.int ve), .val (.int (257 : Int32)), .val (.int (256 : Int32)), .val (.ref b6), .val (.ref b68), .val (.int (1 : Int32)), .val (.int (2 : Int32)), .val (.ref b446)] [(.int (Int32.ofNat (6 - 2)))]) (fun tq kq => st458.trans kq) ?_
          rw [show (Int32.ofNat (6 - 2)) = (4 : Int32) from by decide]
          refine own_toH T458 (mkF m 244 #[.val (.int i0), .val (.int i1), .val (.int i2), .val (.int i3), .val (.int i4), .val (.int i5), .val (.int va), .val (.int vb), .val (.int vc), .val (.int vd), .val (.int ve), .val (.int (257 : Int32)), .val (.int (256 : Int32)), .val (.ref b6), .val (.ref b68), .val (.int (1 : Int32)), .val (.int (2 : Int32)), .val (.ref b446)] [(.int ((6 : Int32) - (2 : Int32))), (.int (4 : Int32))]) (fun tq kq => XS.bipush X458.here hx rfl (hb hby at_239) (XS.iload X458.here hx rfl (hb hby at_241) rfl (XS.isub X458.here hx rfl (hb hby at_243) rfl kq))) ?_
          rw [show ((6 : Int32) - (2 : Int32)) = (4 : Int32) from by decide]
          refine own_toH T458 (mkF m 252 #[.val (.int i0), .val (.int i1), .val (.int i2), .val (.int i3), .val (.int i4), .val (.int i5), .val (.int va), .val (.int vb), .val (.int vc), .val (.int vd), .val (.int ve), .val (.int (257 : Int32)), .val (.int (256 : Int32)), .val (.ref b6), .val (.ref b68), .val (.int (1 : Int32)), .val (.int (2 : Int32)), .val (.ref b446)] [(.int (1 : Int32))]) (fun tq kq => XS.icmpNo X458.here hx rfl (hb hby at_244) rfl (teq (by decide : (4 : Int32) = (4 : Int32))).2 (XS.iconst X458.here hx rfl (hb hby at_247) (XS.goto X458.here hx rfl (pc0 := 248) (pc' := 252) rfl (hb hby at_248) (by decide) (by decide) kq))) ?_
          exact own_retZH X458 hS (by rw [e458]; exact hk) hZ hEL (by rw [e458]; exact C446) hx hret hlk (hb hby at_252) (by decide) (by decide) (Or.inr rfl) ⟨rfl, N458⟩
        · skip
          obtain ⟨cq459, kq459, q459a, q459b, q459c⟩ := isOf hZ rfl Er446
          obtain ⟨_, _, ⟨T459, L459, k459, n459⟩, -, X459, ⟨Lc459, hQ459, l459, y459, z459⟩, st459⟩ := X446.virtualBack hx (y := (⟨"java/lang/String", "length", "()I"⟩ : MethodName)) (z := (⟨"java/lang/String", "length", "()I"⟩ : MethodName)) hown (mvT hZ (own_w hw 150 rfl)) (mvT hZ (own_w hw 80 rfl)) (notFace_of_selects (args := #[]) (mvT hZ (own_w hw 82 rfl))) (mvT hZ (own_w hw 82 rfl)) (mvT hZ (own_w hw 81 rfl)) (by decide) (backOf (W := 0) (rmLen1 l Z a0 hw [] b446 tb446 (6 - 2) gg446 G1 T446.heap n0 Zs446 f450 hG Er446 Vr446 or446.1 (own_barreq Ar446 or446.2) (by decide)) hZ (own_w hw 83 rfl) (own_w hw 10 rfl) (by decide) (by decide)) q459a q459c (g := (mkF m 236 #[.val (.int i0), .val (.int i1), .val (.int i2), .val (.int i3), .val (.int i4), .val (.int i5), .val (.int va), .val (.int vb), .val (.int vc), .val (.int vd), .val (.int ve), .val (.int (257 : Int32)), .val (.int (256 : Int32)), .val (.ref b6), .val (.ref b68), .val (.int (1 : Int32)), .val (.int (2 : Int32)), .val (.ref b446)] [(.ref b446)])) rfl (by rw [hml]; rfl) (Steps.refl _) (argsL := []) (rest := []) (lenOf pd_15 rfl) rfl (by show 2 * 0 + _ ≤ _; exact Nat.le_of_eq rfl) (hb hby at_236) (fun _ _ => ⟨rfl, rfl, (by decide : 11 + 0 ≤ _), (by decide : 82 + 0 ≤ _)⟩)
          dsimp only [Pt.U, Pt.locs, Pt.cells, Pt.slots] at X459 l459 y459 z459 st459 hQ459
          have l459y := l459.symm
          clear l459
          subst l459y
          obtain rfl : k459 = 11 := y459
          obtain rfl : n459 = 82 := z459
          obtain ⟨rfl, N459q, e459⟩ := hQ459
          have N459 := Fr.app N446 N459q
          refine own_toH T459 (mkF m 239 #[.val (.int i0), .val (.int i1), .val (.int i2), .val (.int i3), .val (.int i4), .val (.int i5), .val (.int va), .val (.int vb), .val (.int vc), .val (.int vd), .val (.int ve), .val (.int (257 : Int32)), .val (.int (256 : Int32)), .val (.ref b6), .val (.ref b68), .val (.int (1 : Int32)), .val (.int (2 : Int32)), .val (.ref b446)] [(.int (Int32.ofNat (6 - 2)))]) (fun tq kq => st459.trans kq) ?_
          rw [show (Int32.ofNat (6 - 2)) = (4 : Int32) from by decide]
          refine own_toH T459 (mkF m 244 #[.val (.int i0), .val (.int i1), .val (.int i2), .val (.int i3), .val (.int i4), .val (.int i5), .val (.int va), .val (.int vb), .val (.int vc), .val (.int vd), .val (.int ve), .val (.int (257 : Int32)), .val (.int (256 : Int32)), .val (.ref b6), .val (.ref b68), .val (.int (1 : Int32)), .val (.int (2 : Int32)), .val (.ref b446)] [(.int ((6 : Int32) - (2 : Int32))), (.int (4 : Int32))]) (fun tq kq => XS.bipush X459.here hx rfl (hb hby at_239) (XS.iload X459.here hx rfl (hb hby at_241) rfl (XS.isub X459.here hx rfl (hb hby at_243) rfl kq))) ?_
          rw [show ((6 : Int32) - (2 : Int32)) = (4 : Int32) from by decide]
          refine own_toH T459 (mkF m 252 #[.val (.int i0), .val (.int i1), .val (.int i2), .val (.int i3), .val (.int i4), .val (.int i5), .val (.int va), .val (.int vb), .val (.int vc), .val (.int vd), .val (.int ve), .val (.int (257 : Int32)), .val (.int (256 : Int32)), .val (.ref b6), .val (.ref b68), .val (.int (1 : Int32)), .val (.int (2 : Int32)), .val (.ref b446)] [(.int (1 : Int32))]) (fun tq kq => XS.icmpNo X459.here hx rfl (hb hby at_244) rfl (teq (by decide : (4 : Int32) = (4 : Int32))).2 (XS.iconst X459.here hx rfl (hb hby at_247) (XS.goto X459.here hx rfl (pc0 := 248) (pc' := 252) rfl (hb hby at_248) (by decide) (by decide) kq))) ?_
          exact own_retZH X459 hS (by rw [e459]; exact hk) hZ hEL (by rw [e459]; exact C446) hx hret hlk (hb hby at_252) (by decide) (by decide) (Or.inr rfl) ⟨rfl, N459⟩
theorem own_eqR {args : Array Value} {s : State} {t u : Term} {w : Addr} (h : (Jvm.Cond.eq t u).value args s none s [] = some true) (hb : u.eval args s none [] s = some (.ref w)) : t.eval args s none [] s = some (.ref w) := by
  obtain ⟨x, y, ha, hb', k1, k2⟩ := cmp_v (Or.inl h)
  rw [hb] at hb'
  cases hb'
  have hx : x.isRef = true := by cases x <;> simp_all [Kin, Value.isRef]
  have q := gotT (eq_R ha hb hx rfl) h
  rw [ha, q]
theorem own_eqI {args : Array Value} {s : State} {t : Term} {n : Int32} (h : (Jvm.Cond.eq t (.int n)).value args s none s [] = some true) : t.eval args s none [] s = some (.int n) := by
  obtain ⟨x, y, ha, hb', k1, k2⟩ := cmp_v (Or.inl h)
  have hb : (Term.int n).eval args s none [] s = some (.int n) := Term.int_eval n
  rw [hb] at hb'
  cases hb'
  obtain ⟨z, rfl⟩ := k2
  have q : (Jvm.Cond.eq t (.int n)).value args s none s [] = some (decide (z = n)) := by simp [Jvm.Cond.value, ha, hb]
  have q' : z = n := gotT q h
  rw [ha, q']
set_option maxRecDepth 65536 in
set_option maxHeartbeats 40000000 in
theorem comes_1 {Post : Tables → Env → Array Value → State → Outcome → State → Prop} (hpost : ∀ tb e args s v u, (limb_1_1.after args s (.returned v) u = true ∧ limb_1_2.after args s (.returned v) u = true ∧ True) → FramedW s (.returned v) u (Jvm.fieldLocs frame_1_writes args s ++ Jvm.arrayLocs frame_1_arrays args s ++ Jvm.staticLocs frame_1_statics s) 32 1216 → Post tb e args s (.returned v) u) :
    ArmFor flags0 classFile x code maxLocals ret World_1 tables_1 room_1 Calls_1 rest_1 Pre_1 Post := by
  intro l hfl _ _ p e ha hc hk s m args below hf hA hF happ hP
  obtain ⟨hcalls, hrest, hpre⟩ := hP
  obtain ⟨-, -, -, hnamed, -, -, -, hat⟩ := (Spec.applies_iff hf).mp happ
  obtain ⟨hg, hn⟩ := and_e (Cond.before_iff.mp (show (Jvm.Cond.and given_1 narrow_1).before args s = true from hpre))
  obtain ⟨q1, q2⟩ := and_e hg
  obtain ⟨q3, q4⟩ := and_e q2
  obtain ⟨q5, q6⟩ := and_e q4
  obtain ⟨q7, q8⟩ := and_e q6
  obtain ⟨q9, q10⟩ := and_e q8
  obtain ⟨q11, q12⟩ := and_e q10
  obtain ⟨w0, w1, w2, w3, w4, w5, rfl⟩ : ∃ w0 w1 w2 w3 w4 w5 : Value, args = #[w0, w1, w2, w3, w4, w5] := by
    have hs : args.size = 6 := by simpa [Cond.value, given_1] using q1
    obtain ⟨L⟩ := args
    match L, hs with
    | [w0, w1, w2, w3, w4, w5], _ => exact ⟨w0, w1, w2, w3, w4, w5, rfl⟩
  have hw := fun d (hd : d ∈ tables_1) => atoms_spec (ws := Jvm.Cond.code x code maxLocals ret :: tables_1) hat d (List.mem_cons_of_mem _ hd)
  have hfit : Fit s := fun {y c} hc i hi => by
    obtain ⟨ha, rfl⟩ := Array.getElem?_eq_some_iff.mp hc
    have q := List.all_eq_true.mp ((Array.all_eq_true_iff_forall_mem.mp hF) _ (Array.getElem_mem ha)) i (List.mem_range.mpr hi)
    simpa [Array.getElem?_eq_getElem hi] using q
  obtain ⟨hsets, hown0⟩ := atoms_of _ (rest_1_c_eq ▸ (show rest_1_c.before _ s = true from hrest))
  have hr0 := Cond.before_iff.mp hown0
  obtain ⟨i0, ei0⟩ := is_v q3
  obtain rfl : w0 = (.int i0) := Option.some.inj ei0
  obtain ⟨i1, ei1⟩ := is_v q5
  obtain rfl : w1 = (.int i1) := Option.some.inj ei1
  obtain ⟨i2, ei2⟩ := is_v q7
  obtain rfl : w2 = (.int i2) := Option.some.inj ei2
  obtain ⟨i3, ei3⟩ := is_v q9
  obtain rfl : w3 = (.int i3) := Option.some.inj ei3
  obtain ⟨i4, ei4⟩ := is_v q11
  obtain rfl : w4 = (.int i4) := Option.some.inj ei4
  obtain ⟨i5, ei5⟩ := is_v q12
  obtain rfl : w5 = (.int i5) := Option.some.inj ei5
  have nC := not_v (Cond.before_iff.mp (hsets _ (List.mem_of_getElem? (i := 2) rfl)))
  obtain ⟨G1, eG1⟩ := is_v (Cond.before_iff.mp (hsets _ (List.mem_of_getElem? (i := 1) rfl)))
  have O2 : Sta s s.heap "java/lang/String" "COMPACT_STRINGS" "Z" (.int G1) := Sta.start eG1 (Or.inl (hsets _ (List.mem_of_getElem? (i := 0) rfl)))
  have hG1 : ¬ (G1 = (0 : Int32)) := gotF (Cond.eq_ints eG1 (Term.int_eval (0))) nC
  obtain ⟨vF, eF, hvF⟩ := isR_v (Cond.before_iff.mp (hsets _ (List.mem_of_getElem? (i := 8) rfl)))
  have O4 : Sta s s.heap "jdk/internal/util/Preconditions" "SIOOBE_FORMATTER" "Ljava/util/function/BiFunction;" vF := Sta.start eF (Or.inl (hsets _ (List.mem_of_getElem? (i := 7) rfl)))
  have OA : Sta s s.heap "java/lang/StringUTF16" "$assertionsDisabled" "Z" (.int (1 : Int32)) := Sta.start (own_eqI (Cond.before_iff.mp (hsets _ (List.mem_of_getElem? (i := 12) rfl)))) (Or.inl (hsets _ (List.mem_of_getElem? (i := 11) rfl)))
  have OH : Sta s s.heap "java/lang/StringUTF16" "HI_BYTE_SHIFT" "I" (.int (0 : Int32)) := Sta.start (own_eqI (Cond.before_iff.mp (hsets _ (List.mem_of_getElem? (i := 15) rfl)))) (Or.inl (hsets _ (List.mem_of_getElem? (i := 14) rfl)))
  have OL : Sta s s.heap "java/lang/StringUTF16" "LO_BYTE_SHIFT" "I" (.int (8 : Int32)) := Sta.start (own_eqI (Cond.before_iff.mp (hsets _ (List.mem_of_getElem? (i := 18) rfl)))) (Or.inl (hsets _ (List.mem_of_getElem? (i := 17) rfl)))
  have hEL : EW s _ consts_1 := (EW.cons (own_w hw 197 rfl) (by decide) EW.nil)
  have hCH0 : CHv s consts_1 s.vm s.heap := CHv.start hEL hcalls.1 (hsets _ (List.mem_of_getElem? (i := 2) rfl)) (own_w hw 26 rfl) (own_w hw 9 rfl)
  obtain ⟨n, o, h1, h2, h3, _, L, rfl, ⟨rfl, N⟩, -, hq⟩ := rm0 l s _ hw tables_1 i0 i1 i2 i3 i4 i5 G1 vF s.heap s.heap.size (Nat.le_refl _) O2 hG1 O4 hvF OA OH OL hEL p e ha hc hk s m _ below hf ((Spec.applies_iff_loose hf).mp happ).1 ⟨rfl, State.Warmed39.refl s, rfl, hCH0⟩ trivial
  refine ⟨n, _, h1, h2, h3, hpost _ _ _ _ _ _ ⟨Cond.after_iff.mpr rfl, Cond.after_iff.mpr (eq_i res_at (Term.int_eval (1)) rfl), trivial⟩ ⟨hq.1, hq.2.1, hq.2.2.1, (hq.2.2.2.sift fun y hy => Or.inr (N y hy)).mono (by decide) (by decide)⟩⟩
theorem main_1_1 : Claimed_1_1 := comes_1 fun _ _ _ _ _ _ h hF => ⟨h.1, hF⟩
theorem main_1_2 : Claimed_1_2 := comes_1 fun _ _ _ _ _ _ h hF => ⟨h.2.1, hF⟩
end Jvm.Pilot.@@N@@
namespace Jvm.Pilot.@@N@@
open Jvm Jvm.ClassFile Sem Op Lib Jvm.Free Jvm.Stand Jvm.Pilot.@@N@@.Jvm.D
/-! MADE BY PROGRAM (witnessworld.py) out of the Statement's table words and the real class files: 23 classes; the members and pool entries that the words name. The judged class is class 1, her method 3. -/
namespace start1
open Jvm.ClassFile
def u (s : String) : CpInfo := .utf8 (stringToUtf16 s)
/-- a pool by its gaps: so many unusable entries, then the entry; so many at the end -/
def gap : Nat → List CpInfo → List CpInfo
  | 0, r => r
  | n + 1, r => .unusable :: gap n r
def poolList (es : List (Nat × CpInfo)) (last : Nat) : List CpInfo := es.foldr (fun e r => gap e.1 (e.2 :: r)) (gap last [])
def pool (es : List (Nat × CpInfo)) (last : Nat) : Array CpInfo := ⟨poolList es last⟩
def fileOf (pool : Array CpInfo) (this : Nat) (attrs : Array Attribute := #[]) (ms : Array MethodInfo := #[]) (fl : Nat := 33) (sup : Nat := 0) (ifs : Array Nat := #[]) (fds : Array FieldInfo := #[]) : ClassFile where
  minorVersion := 0
  majorVersion := 65
  constantPool := pool
  accessFlags := fl
  thisClass := this
  superClass := sup
  interfaces := ifs
  fields := fds
  methods := ms
  attributes := attrs
def plain (name : String) (sup : Option ClassId) : Class where
  name := name
  kind := .ordinary
  loader := none
  accessFlags := 33
  super := sup
  interfaces := #[]
  cf := none
  fields := #[]
  methods := #[]
  instanceTypes := #[]
  staticTypes := #[]
  resolved := #[]
  callSites := []
  init := .initialized
  statics := none
  mirror := none

def pool0 : Array CpInfo := pool [(5, u "<init>"), (0, u "()V"), (1, .class_ 10), (1, u "java/lang/Object")] 113

def k0c0 : Code := { maxStack := 0, maxLocals := 1, code := object_method_1_code, exceptionTable := #[], attributes := #[] }
def k0m0 : Method := { name := "<init>", desc := "()V", sig := { parameters := [], returnType := none }, accessFlags := 1, code := some k0c0 }
/-- java/lang/Object -/
def k0 : Class := { plain "java/lang/Object" none with
  accessFlags := 33
  interfaces := #[]
  cf := some (fileOf pool0 8 #[] #[{ accessFlags := 1, nameIndex := 5, descriptorIndex := 6, attributes := #[] }] 33 0 #[] #[])
  fields := #[]
  methods := #[k0m0]
  instanceTypes := #[]
  staticTypes := #[]
  resolved := Array.replicate 124 none
  statics := none }

def pool1 : Array CpInfo := pool [(2, .class_ 4), (1, u "java/lang/Object"), (0, u "<init>"), (0, u "()V"), (0, .methodref 8 9), (0, .class_ 10), (0, .nameAndType 11 12), (0, u "com/example/wayline/wayline/HeaderReaderSkipWhiteSpacePinLaw"), (0, u "draw"), (0, u "(I)C"), (0, .class_ 14), (0, u "com/example/wayline/wayline/HeaderReader"), (0, .class_ 16), (0, u "java/lang/String"), (0, .methodref 15 18), (0, .nameAndType 5 19), (0, u "([C)V"), (0, .methodref 13 21), (0, .nameAndType 5 22), (0, u "(Ljava/lang/String;)V"), (0, .methodref 13 24), (0, .nameAndType 25 26), (0, u "textBefore"), (0, u "(C)Ljava/lang/String;"), (0, .methodref 15 28), (0, .nameAndType 29 30), (0, u "length"), (0, u "()I"), (0, .methodref 8 32), (0, .nameAndType 33 34), (0, u "ws"), (0, u "(C)Z"), (0, .methodref 13 36), (0, .nameAndType 37 6), (0, u "skipWhiteSpace"), (3, u "law"), (0, u "(IIIIII)Z")] 4

def k1m0 : Method := { name := "<init>", desc := "()V", sig := { parameters := [], returnType := none }, accessFlags := 1, code := none }
def k1c1 : Code := { maxStack := 2, maxLocals := 2, code := method_2_code, exceptionTable := #[], attributes := #[] }
def k1m1 : Method := { name := "draw", desc := "(I)C", sig := { parameters := [.int], returnType := some .char }, accessFlags := 10, code := some k1c1 }
def k1c2 : Code := { maxStack := 2, maxLocals := 1, code := method_3_code, exceptionTable := #[], attributes := #[] }
def k1m2 : Method := { name := "ws", desc := "(C)Z", sig := { parameters := [.char], returnType := some .boolean }, accessFlags := 10, code := some k1c2 }
def k1c3 : Code := { maxStack := 5, maxLocals := 18, code := code, exceptionTable := #[], attributes := #[] }
def k1m3 : Method := { name := "law", desc := "(IIIIII)Z", sig := { parameters := [.int, .int, .int, .int, .int, .int], returnType := some .boolean }, accessFlags := 9, code := some k1c3 }
/-- com/example/wayline/wayline/HeaderReaderSkipWhiteSpacePinLaw -/
def k1 : Class := { plain "com/example/wayline/wayline/HeaderReaderSkipWhiteSpacePinLaw" (some 0) with
  accessFlags := 49
  interfaces := #[]
  cf := some (fileOf pool1 8 #[] #[{ accessFlags := 1, nameIndex := 5, descriptorIndex := 6, attributes := #[] }, { accessFlags := 10, nameIndex := 11, descriptorIndex := 12, attributes := #[] }, { accessFlags := 10, nameIndex := 33, descriptorIndex := 34, attributes := #[] }, { accessFlags := 9, nameIndex := 41, descriptorIndex := 42, attributes := #[] }] 49 2 #[] #[])
  fields := #[]
  methods := #[k1m0, k1m1, k1m2, k1m3]
  instanceTypes := #[]
  staticTypes := #[]
  resolved := Array.replicate 47 none
  statics := none }

def pool2 : Array CpInfo := pool [(1, .methodref 2 3), (0, .class_ 4), (0, .nameAndType 5 6), (0, u "java/lang/Object"), (0, u "<init>"), (0, u "()V"), (0, .fieldref 8 9), (0, .class_ 10), (0, .nameAndType 11 12), (0, u "com/example/wayline/wayline/HeaderReader"), (0, u "value"), (0, u "Ljava/lang/String;"), (0, .fieldref 8 14), (0, .nameAndType 15 16), (0, u "position"), (0, u "I"), (0, .methodref 18 19), (0, .class_ 20), (0, .nameAndType 21 22), (0, u "java/lang/String"), (0, u "length"), (0, u "()I"), (6, u "skipWhiteSpace"), (0, .methodref 8 31), (0, .nameAndType 32 33), (0, u "atEnd"), (0, u "()Z"), (0, .methodref 18 35), (0, .nameAndType 36 37), (0, u "charAt"), (0, u "(I)C"), (21, .methodref 18 60), (0, .nameAndType 61 62), (0, u "substring"), (0, u "(II)Ljava/lang/String;"), (14, .methodref 18 78), (0, .nameAndType 79 80), (0, u "indexOf"), (0, u "(II)I"), (24, u "(Ljava/lang/String;)V"), (90, u "TOKEN_SYMBOLS"), (7, u "(C)Ljava/lang/String;"), (0, u "textBefore")] 61

def k2c0 : Code := { maxStack := 2, maxLocals := 2, code := prog_11_method_1_code, exceptionTable := #[], attributes := #[] }
def k2m0 : Method := { name := "<init>", desc := "(Ljava/lang/String;)V", sig := { parameters := [(.object "java/lang/String")], returnType := none }, accessFlags := 0, code := some k2c0 }
def k2c1 : Code := { maxStack := 2, maxLocals := 1, code := prog_11_method_2_code, exceptionTable := #[], attributes := #[] }
def k2m1 : Method := { name := "atEnd", desc := "()Z", sig := { parameters := [], returnType := some .boolean }, accessFlags := 0, code := some k2c1 }
def k2c2 : Code := { maxStack := 3, maxLocals := 4, code := prog_11_method_11_code, exceptionTable := #[], attributes := #[] }
def k2m2 : Method := { name := "textBefore", desc := "(C)Ljava/lang/String;", sig := { parameters := [.char], returnType := some (.object "java/lang/String") }, accessFlags := 0, code := some k2c2 }
def k2c3 : Code := { maxStack := 3, maxLocals := 1, code := prog_11_method_14_code, exceptionTable := #[], attributes := #[] }
def k2m3 : Method := { name := "skipWhiteSpace", desc := "()V", sig := { parameters := [], returnType := none }, accessFlags := 0, code := some k2c3 }
/-- com/example/wayline/wayline/HeaderReader -/
def k2 : Class := { plain "com/example/wayline/wayline/HeaderReader" (some 0) with
  accessFlags := 48
  interfaces := #[]
  cf := some (fileOf pool2 8 #[] #[{ accessFlags := 0, nameIndex := 5, descriptorIndex := 105, attributes := #[] }, { accessFlags := 0, nameIndex := 32, descriptorIndex := 33, attributes := #[] }, { accessFlags := 0, nameIndex := 205, descriptorIndex := 204, attributes := #[] }, { accessFlags := 0, nameIndex := 29, descriptorIndex := 6, attributes := #[] }] 48 2 #[] #[{ accessFlags := 26, nameIndex := 196, descriptorIndex := 12, attributes := #[] }, { accessFlags := 18, nameIndex := 11, descriptorIndex := 12, attributes := #[] }, { accessFlags := 2, nameIndex := 15, descriptorIndex := 16, attributes := #[] }])
  fields := #[{ name := "TOKEN_SYMBOLS", type := (.object "java/lang/String"), accessFlags := 26, slot := 0, constantValue := 0 }, { name := "value", type := (.object "java/lang/String"), accessFlags := 18, slot := 0, constantValue := 0 }, { name := "position", type := .int, accessFlags := 2, slot := 1, constantValue := 0 }]
  methods := #[k2m0, k2m1, k2m2, k2m3]
  instanceTypes := #[(.object "java/lang/String"), .int]
  staticTypes := #[(.object "java/lang/String")]
  resolved := Array.replicate 267 none
  statics := none }

def pool3 : Array CpInfo := pool [(1, .class_ 2), (0, u "java/io/Serializable"), (0, .class_ 4), (0, u "java/lang/Object")] 2

/-- java/io/Serializable -/
def k3 : Class := { plain "java/io/Serializable" (some 0) with
  accessFlags := 1537
  interfaces := #[]
  cf := some (fileOf pool3 1 #[] #[] 1537 3 #[] #[])
  fields := #[]
  methods := #[]
  instanceTypes := #[]
  staticTypes := #[]
  resolved := Array.replicate 7 none
  statics := none }

def pool4 : Array CpInfo := pool [(1, .class_ 2), (0, u "java/lang/Comparable"), (0, .class_ 4), (0, u "java/lang/Object")] 7

/-- java/lang/Comparable -/
def k4 : Class := { plain "java/lang/Comparable" (some 0) with
  accessFlags := 1537
  interfaces := #[]
  cf := some (fileOf pool4 1 #[] #[] 1537 3 #[] #[])
  fields := #[]
  methods := #[]
  instanceTypes := #[]
  staticTypes := #[]
  resolved := Array.replicate 12 none
  statics := none }

def pool5 : Array CpInfo := pool [(2, .class_ 4), (1, u "java/lang/CharSequence"), (42, .class_ 48), (0, u "java/lang/CharSequence$1CodePointIterator"), (10, .class_ 60), (0, u "java/lang/CharSequence$1CharIterator"), (5, .class_ 67), (0, u "java/lang/Object")] 63

/-- java/lang/CharSequence -/
def k5 : Class := { plain "java/lang/CharSequence" (some 0) with
  accessFlags := 1537
  interfaces := #[]
  cf := some (fileOf pool5 2 #[.nestMembers #[47, 59]] #[] 1537 66 #[] #[])
  fields := #[]
  methods := #[]
  instanceTypes := #[]
  staticTypes := #[]
  resolved := Array.replicate 131 none
  statics := none }

def pool6 : Array CpInfo := pool [(1, .class_ 2), (0, u "java/lang/constant/Constable"), (0, .class_ 4), (0, u "java/lang/Object")] 6

/-- java/lang/constant/Constable -/
def k6 : Class := { plain "java/lang/constant/Constable" (some 0) with
  accessFlags := 1537
  interfaces := #[]
  cf := some (fileOf pool6 1 #[] #[] 1537 3 #[] #[])
  fields := #[]
  methods := #[]
  instanceTypes := #[]
  staticTypes := #[]
  resolved := Array.replicate 11 none
  statics := none }

def pool7 : Array CpInfo := pool [(1, .class_ 2), (0, u "java/lang/constant/ConstantDesc"), (0, .class_ 4), (0, u "java/lang/Object")] 32

/-- java/lang/constant/ConstantDesc -/
def k7 : Class := { plain "java/lang/constant/ConstantDesc" (some 0) with
  accessFlags := 1537
  interfaces := #[]
  cf := some (fileOf pool7 1 #[] #[] 1537 3 #[] #[])
  fields := #[]
  methods := #[]
  instanceTypes := #[]
  staticTypes := #[]
  resolved := Array.replicate 37 none
  statics := none }

def pool8 : Array CpInfo := pool [(1, .methodref 2 3), (0, .class_ 4), (0, .nameAndType 5 6), (0, u "java/lang/Object"), (0, u "<init>"), (0, u "()V"), (2, .fieldref 10 11), (0, .class_ 12), (0, .nameAndType 13 14), (0, u "java/lang/String"), (0, u "value"), (0, u "[B"), (0, .fieldref 10 16), (0, .nameAndType 17 18), (0, u "coder"), (0, u "B"), (2, u "hash"), (0, u "I"), (2, u "hashIsZero"), (0, u "Z"), (0, .methodref 10 28), (0, .nameAndType 5 29), (0, u "([CIILjava/lang/Void;)V"), (6, u "checkBoundsOffCount"), (0, u "(III)I"), (0, .fieldref 10 39), (0, .nameAndType 40 26), (0, u "COMPACT_STRINGS"), (1, .class_ 44), (1, u "java/lang/StringUTF16"), (0, u "compress"), (1, .methodref 42 48), (0, .nameAndType 49 50), (0, u "coderFromArrayLen"), (0, u "([BI)B"), (91, u "()Z"), (34, .methodref 42 178), (0, .nameAndType 45 179), (0, u "([CII)[B"), (31, u "([BB)V"), (122, u "()I"), (0, .methodref 10 336), (0, .nameAndType 17 337), (0, u "()B"), (25, u "([BI)C"), (27, u "(II)V"), (35, u "(I)C"), (64, .methodref 10 493), (0, .nameAndType 494 142), (0, u "isLatin1"), (1, .nameAndType 497 363), (0, u "charAt"), (0, .methodref 42 496), (2, u "checkIndex"), (3, .methodref 10 506), (0, .nameAndType 507 334), (0, u "length"), (5, u "checkFromToIndex"), (7, .methodref 10 522), (0, .nameAndType 523 524), (0, u "checkBoundsBeginEnd"), (0, u "(III)V"), (50, .class_ 576), (0, u "java/lang/CharSequence"), (22, u "CASE_INSENSITIVE_ORDER"), (0, u "Ljava/util/Comparator;"), (34, u "indexOf"), (0, u "(II)I"), (1, .nameAndType 635 639), (0, u "([BIII)I"), (0, .methodref 42 638), (42, u "substring"), (0, u "(II)Ljava/lang/String;"), (1, .nameAndType 687 688), (0, u "newString"), (0, u "([BII)Ljava/lang/String;"), (0, .methodref 42 686), (320, u "([C)V"), (42, .fieldref 1054 1055), (0, .class_ 1056), (0, .nameAndType 1057 1058), (0, u "jdk/internal/util/Preconditions"), (0, u "SIOOBE_FORMATTER"), (0, u "Ljava/util/function/BiFunction;"), (0, .methodref 1054 1060), (0, .nameAndType 501 1061), (0, u "(IILjava/util/function/BiFunction;)I"), (0, .methodref 1054 1063), (0, .nameAndType 513 1064), (0, u "(IIILjava/util/function/BiFunction;)I"), (0, .methodref 1054 1066), (0, .nameAndType 1067 1064), (0, u "checkFromIndexSize"), (33, u "serialPersistentFields"), (0, u "[Ljava/io/ObjectStreamField;"), (0, .class_ 1104), (0, u "java/lang/String$CaseInsensitiveComparator"), (1, .class_ 1107), (0, u "java/io/Serializable"), (0, .class_ 1109), (0, u "java/lang/Comparable"), (0, .class_ 1111), (0, u "java/lang/constant/Constable"), (0, .class_ 1113), (0, u "java/lang/constant/ConstantDesc"), (2, u "serialVersionUID"), (0, u "J"), (3, u "REPL"), (0, u "C"), (2, u "LATIN1"), (1, u "UTF16")] 323

def k8m0 : Method := { name := "<init>", desc := "()V", sig := { parameters := [], returnType := none }, accessFlags := 1, code := none }
def k8c1 : Code := { maxStack := 5, maxLocals := 2, code := jdk_42_method_3_code, exceptionTable := #[], attributes := #[] }
def k8m1 : Method := { name := "<init>", desc := "([C)V", sig := { parameters := [(.array .char)], returnType := none }, accessFlags := 1, code := some k8c1 }
def k8c2 : Code := { maxStack := 2, maxLocals := 1, code := jdk_42_method_54_code, exceptionTable := #[], attributes := #[] }
def k8m2 : Method := { name := "length", desc := "()I", sig := { parameters := [], returnType := some .int }, accessFlags := 1, code := some k8c2 }
def k8c3 : Code := { maxStack := 2, maxLocals := 2, code := jdk_42_method_56_code, exceptionTable := #[], attributes := #[] }
def k8m3 : Method := { name := "charAt", desc := "(I)C", sig := { parameters := [.int], returnType := some .char }, accessFlags := 1, code := some k8c3 }
def k8c4 : Code := { maxStack := 4, maxLocals := 3, code := jdk_42_method_80_code, exceptionTable := #[], attributes := #[] }
def k8m4 : Method := { name := "indexOf", desc := "(II)I", sig := { parameters := [.int, .int], returnType := some .int }, accessFlags := 1, code := some k8c4 }
def k8c5 : Code := { maxStack := 3, maxLocals := 5, code := jdk_42_method_92_code, exceptionTable := #[], attributes := #[] }
def k8m5 : Method := { name := "substring", desc := "(II)Ljava/lang/String;", sig := { parameters := [.int, .int], returnType := some (.object "java/lang/String") }, accessFlags := 1, code := some k8c5 }
def k8c6 : Code := { maxStack := 4, maxLocals := 6, code := jdk_42_method_149_code, exceptionTable := #[], attributes := #[] }
def k8m6 : Method := { name := "<init>", desc := "([CIILjava/lang/Void;)V", sig := { parameters := [(.array .char), .int, .int, (.object "java/lang/Void")], returnType := none }, accessFlags := 2, code := some k8c6 }
def k8c7 : Code := { maxStack := 2, maxLocals := 3, code := jdk_42_method_151_code, exceptionTable := #[], attributes := #[] }
def k8m7 : Method := { name := "<init>", desc := "([BB)V", sig := { parameters := [(.array .byte), .byte], returnType := none }, accessFlags := 0, code := some k8c7 }
def k8c8 : Code := { maxStack := 1, maxLocals := 1, code := jdk_42_method_152_code, exceptionTable := #[], attributes := #[] }
def k8m8 : Method := { name := "coder", desc := "()B", sig := { parameters := [], returnType := some .byte }, accessFlags := 0, code := some k8c8 }
def k8c9 : Code := { maxStack := 1, maxLocals := 1, code := jdk_42_method_154_code, exceptionTable := #[], attributes := #[] }
def k8m9 : Method := { name := "isLatin1", desc := "()Z", sig := { parameters := [], returnType := some .boolean }, accessFlags := 0, code := some k8c9 }
def k8c10 : Code := { maxStack := 3, maxLocals := 2, code := jdk_42_method_155_code, exceptionTable := #[], attributes := #[] }
def k8m10 : Method := { name := "checkIndex", desc := "(II)V", sig := { parameters := [.int, .int], returnType := none }, accessFlags := 8, code := some k8c10 }
def k8c11 : Code := { maxStack := 4, maxLocals := 3, code := jdk_42_method_157_code, exceptionTable := #[], attributes := #[] }
def k8m11 : Method := { name := "checkBoundsOffCount", desc := "(III)I", sig := { parameters := [.int, .int, .int], returnType := some .int }, accessFlags := 8, code := some k8c11 }
def k8c12 : Code := { maxStack := 4, maxLocals := 3, code := jdk_42_method_158_code, exceptionTable := #[], attributes := #[] }
def k8m12 : Method := { name := "checkBoundsBeginEnd", desc := "(III)V", sig := { parameters := [.int, .int, .int], returnType := none }, accessFlags := 8, code := some k8c12 }
/-- java/lang/String -/
def k8 : Class := { plain "java/lang/String" (some 0) with
  accessFlags := 49
  interfaces := #[3, 4, 5, 6, 7]
  cf := some (fileOf pool8 10 #[.nestMembers #[1103]] #[{ accessFlags := 1, nameIndex := 5, descriptorIndex := 6, attributes := #[] }, { accessFlags := 1, nameIndex := 5, descriptorIndex := 1010, attributes := #[] }, { accessFlags := 1, nameIndex := 507, descriptorIndex := 334, attributes := #[] }, { accessFlags := 1, nameIndex := 497, descriptorIndex := 427, attributes := #[] }, { accessFlags := 1, nameIndex := 635, descriptorIndex := 636, attributes := #[] }, { accessFlags := 1, nameIndex := 683, descriptorIndex := 684, attributes := #[] }, { accessFlags := 2, nameIndex := 5, descriptorIndex := 29, attributes := #[] }, { accessFlags := 0, nameIndex := 5, descriptorIndex := 211, attributes := #[] }, { accessFlags := 0, nameIndex := 17, descriptorIndex := 337, attributes := #[] }, { accessFlags := 0, nameIndex := 494, descriptorIndex := 142, attributes := #[] }, { accessFlags := 8, nameIndex := 501, descriptorIndex := 391, attributes := #[] }, { accessFlags := 8, nameIndex := 36, descriptorIndex := 37, attributes := #[] }, { accessFlags := 8, nameIndex := 523, descriptorIndex := 524, attributes := #[] }] 49 2 #[1106, 1108, 575, 1110, 1112] #[{ accessFlags := 18, nameIndex := 13, descriptorIndex := 14, attributes := #[] }, { accessFlags := 18, nameIndex := 17, descriptorIndex := 18, attributes := #[] }, { accessFlags := 2, nameIndex := 21, descriptorIndex := 22, attributes := #[] }, { accessFlags := 2, nameIndex := 25, descriptorIndex := 26, attributes := #[] }, { accessFlags := 26, nameIndex := 1116, descriptorIndex := 1117, attributes := #[] }, { accessFlags := 24, nameIndex := 40, descriptorIndex := 26, attributes := #[] }, { accessFlags := 26, nameIndex := 1101, descriptorIndex := 1102, attributes := #[] }, { accessFlags := 26, nameIndex := 1121, descriptorIndex := 1122, attributes := #[] }, { accessFlags := 25, nameIndex := 599, descriptorIndex := 600, attributes := #[] }, { accessFlags := 24, nameIndex := 1125, descriptorIndex := 18, attributes := #[] }, { accessFlags := 24, nameIndex := 1127, descriptorIndex := 18, attributes := #[] }])
  fields := #[{ name := "value", type := (.array .byte), accessFlags := 18, slot := 0, constantValue := 0 }, { name := "coder", type := .byte, accessFlags := 18, slot := 1, constantValue := 0 }, { name := "hash", type := .int, accessFlags := 2, slot := 2, constantValue := 0 }, { name := "hashIsZero", type := .boolean, accessFlags := 2, slot := 3, constantValue := 0 }, { name := "serialVersionUID", type := .long, accessFlags := 26, slot := 0, constantValue := 0 }, { name := "COMPACT_STRINGS", type := .boolean, accessFlags := 24, slot := 1, constantValue := 0 }, { name := "serialPersistentFields", type := (.array (.object "java/io/ObjectStreamField")), accessFlags := 26, slot := 2, constantValue := 0 }, { name := "REPL", type := .char, accessFlags := 26, slot := 3, constantValue := 0 }, { name := "CASE_INSENSITIVE_ORDER", type := (.object "java/util/Comparator"), accessFlags := 25, slot := 4, constantValue := 0 }, { name := "LATIN1", type := .byte, accessFlags := 24, slot := 5, constantValue := 0 }, { name := "UTF16", type := .byte, accessFlags := 24, slot := 6, constantValue := 0 }]
  methods := #[k8m0, k8m1, k8m2, k8m3, k8m4, k8m5, k8m6, k8m7, k8m8, k8m9, k8m10, k8m11, k8m12]
  instanceTypes := #[(.array .byte), .byte, .int, .boolean]
  staticTypes := #[.long, .boolean, (.array (.object "java/io/ObjectStreamField")), .char, (.object "java/util/Comparator"), .byte, .byte]
  resolved := Array.replicate 1451 none
  statics := some 0 }

def pool9 : Array CpInfo := pool [(3, .class_ 4), (0, u "java/lang/String"), (1, .class_ 8), (1, u "java/lang/Object"), (0, u "<init>"), (0, u "()V"), (0, .methodref 12 13), (0, .class_ 14), (0, .nameAndType 15 16), (0, u "java/lang/StringUTF16"), (0, u "newBytesLength"), (0, u "(I)I"), (3, .integer 1073741823), (23, .fieldref 12 45), (0, .nameAndType 46 47), (0, u "$assertionsDisabled"), (0, u "Z"), (0, .methodref 12 49), (0, .nameAndType 50 51), (0, u "length"), (0, u "([B)I"), (7, .fieldref 12 60), (0, .nameAndType 61 62), (0, u "HI_BYTE_SHIFT"), (0, u "I"), (0, .fieldref 12 64), (0, .nameAndType 65 62), (0, u "LO_BYTE_SHIFT"), (1, .methodref 12 68), (0, .nameAndType 69 70), (0, u "checkIndex"), (0, u "(I[B)V"), (0, .methodref 12 72), (0, .nameAndType 73 74), (0, u "getChar"), (0, u "([BI)C"), (21, .methodref 12 97), (0, .nameAndType 98 99), (0, u "checkBoundsBeginEnd"), (0, u "(II[B)V"), (7, .methodref 12 108), (0, .nameAndType 109 110), (0, u "newBytesFor"), (0, u "(I)[B"), (0, .methodref 12 112), (0, .nameAndType 113 114), (0, u "putChar"), (0, u "([BII)V"), (0, .methodref 12 116), (0, .nameAndType 117 118), (0, u "compress"), (0, u "([CI[BII)I"), (0, .methodref 12 120), (0, .nameAndType 121 122), (0, u "toBytes"), (0, u "([CII)[B"), (0, .methodref 12 124), (0, .nameAndType 117 125), (0, u "([BI[BII)I"), (0, .methodref 127 128), (0, .class_ 129), (0, .nameAndType 130 131), (0, u "java/util/Arrays"), (0, u "copyOfRange"), (0, u "([BII)[B"), (41, .methodref 12 174), (0, .nameAndType 175 99), (0, u "checkBoundsOffCount"), (7, .methodref 184 185), (0, .class_ 186), (0, .nameAndType 187 188), (0, u "java/lang/Math"), (0, u "min"), (0, u "(II)I"), (35, .methodref 184 225), (0, .nameAndType 226 188), (0, u "max"), (0, .integer 65536), (0, .methodref 12 229), (0, .nameAndType 230 231), (0, u "indexOfChar"), (0, u "([BIII)I"), (9, .methodref 3 242), (0, .nameAndType 98 243), (0, u "(III)V"), (0, .methodref 12 245), (0, .nameAndType 246 231), (0, u "indexOfCharUnsafe"), (4, .fieldref 3 252), (0, .nameAndType 253 47), (0, u "COMPACT_STRINGS"), (3, .methodref 12 258), (0, .nameAndType 117 131), (0, .methodref 12 260), (0, .nameAndType 261 262), (0, u "coderFromArrayLen"), (0, u "([BI)B"), (0, .methodref 3 264), (0, .nameAndType 9 265), (0, u "([BB)V"), (2, u "indexOf"), (12, u "(III)I"), (13, .string 296), (0, u ""), (30, u "newString"), (0, u "([BII)Ljava/lang/String;"), (40, .class_ 371), (1, u "java/lang/StringUTF16$LinesSpliterator"), (20, u "charAt"), (21, .methodref 3 415), (0, .nameAndType 69 416), (0, u "(II)V"), (2, .methodref 3 420), (0, .nameAndType 175 281), (9, u "MAX_LENGTH"), (196, .class_ 628), (0, u "java/lang/StringUTF16$CodePointsSpliterator"), (0, .class_ 630), (0, u "java/lang/StringUTF16$CharsSpliterator")] 4

def k9m0 : Method := { name := "<init>", desc := "()V", sig := { parameters := [], returnType := none }, accessFlags := 0, code := none }
def k9c1 : Code := { maxStack := 1, maxLocals := 1, code := jdk_52_method_2_code, exceptionTable := #[], attributes := #[] }
def k9m1 : Method := { name := "newBytesFor", desc := "(I)[B", sig := { parameters := [.int], returnType := some (.array .byte) }, accessFlags := 9, code := some k9c1 }
def k9c2 : Code := { maxStack := 4, maxLocals := 1, code := jdk_52_method_3_code, exceptionTable := #[], attributes := #[] }
def k9m2 : Method := { name := "newBytesLength", desc := "(I)I", sig := { parameters := [.int], returnType := some .int }, accessFlags := 9, code := some k9c2 }
def k9c3 : Code := { maxStack := 4, maxLocals := 3, code := jdk_52_method_4_code, exceptionTable := #[], attributes := #[] }
def k9m3 : Method := { name := "putChar", desc := "([BII)V", sig := { parameters := [(.array .byte), .int, .int], returnType := none }, accessFlags := 8, code := some k9c3 }
def k9c4 : Code := { maxStack := 3, maxLocals := 2, code := jdk_52_method_5_code, exceptionTable := #[], attributes := #[] }
def k9m4 : Method := { name := "getChar", desc := "([BI)C", sig := { parameters := [(.array .byte), .int], returnType := some .char }, accessFlags := 8, code := some k9c4 }
def k9c5 : Code := { maxStack := 2, maxLocals := 1, code := jdk_52_method_6_code, exceptionTable := #[], attributes := #[] }
def k9m5 : Method := { name := "length", desc := "([B)I", sig := { parameters := [(.array .byte)], returnType := some .int }, accessFlags := 9, code := some k9c5 }
def k9c6 : Code := { maxStack := 4, maxLocals := 5, code := jdk_52_method_14_code, exceptionTable := #[], attributes := #[] }
def k9m6 : Method := { name := "toBytes", desc := "([CII)[B", sig := { parameters := [(.array .char), .int, .int], returnType := some (.array .byte) }, accessFlags := 9, code := some k9c6 }
def k9c7 : Code := { maxStack := 2, maxLocals := 2, code := jdk_52_method_15_code, exceptionTable := #[], attributes := #[] }
def k9m7 : Method := { name := "coderFromArrayLen", desc := "([BI)B", sig := { parameters := [(.array .byte), .int], returnType := some .byte }, accessFlags := 8, code := some k9c7 }
def k9c8 : Code := { maxStack := 5, maxLocals := 6, code := jdk_52_method_16_code, exceptionTable := #[], attributes := #[] }
def k9m8 : Method := { name := "compress", desc := "([CII)[B", sig := { parameters := [(.array .char), .int, .int], returnType := some (.array .byte) }, accessFlags := 9, code := some k9c8 }
def k9c9 : Code := { maxStack := 5, maxLocals := 6, code := jdk_52_method_17_code, exceptionTable := #[], attributes := #[] }
def k9m9 : Method := { name := "compress", desc := "([BII)[B", sig := { parameters := [(.array .byte), .int, .int], returnType := some (.array .byte) }, accessFlags := 9, code := some k9c9 }
def k9c10 : Code := { maxStack := 3, maxLocals := 7, code := jdk_52_method_21_code, exceptionTable := #[], attributes := #[] }
def k9m10 : Method := { name := "compress", desc := "([CI[BII)I", sig := { parameters := [(.array .char), .int, (.array .byte), .int, .int], returnType := some .int }, accessFlags := 9, code := some k9c10 }
def k9c11 : Code := { maxStack := 3, maxLocals := 7, code := jdk_52_method_22_code, exceptionTable := #[], attributes := #[] }
def k9m11 : Method := { name := "compress", desc := "([BI[BII)I", sig := { parameters := [(.array .byte), .int, (.array .byte), .int, .int], returnType := some .int }, accessFlags := 9, code := some k9c11 }
def k9c12 : Code := { maxStack := 4, maxLocals := 4, code := jdk_52_method_40_code, exceptionTable := #[], attributes := #[] }
def k9m12 : Method := { name := "indexOf", desc := "([BIII)I", sig := { parameters := [(.array .byte), .int, .int, .int], returnType := some .int }, accessFlags := 9, code := some k9c12 }
def k9c13 : Code := { maxStack := 4, maxLocals := 4, code := jdk_52_method_47_code, exceptionTable := #[], attributes := #[] }
def k9m13 : Method := { name := "indexOfChar", desc := "([BIII)I", sig := { parameters := [(.array .byte), .int, .int, .int], returnType := some .int }, accessFlags := 10, code := some k9c13 }
def k9c14 : Code := { maxStack := 2, maxLocals := 5, code := jdk_52_method_48_code, exceptionTable := #[], attributes := #[] }
def k9m14 : Method := { name := "indexOfCharUnsafe", desc := "([BIII)I", sig := { parameters := [(.array .byte), .int, .int, .int], returnType := some .int }, accessFlags := 10, code := some k9c14 }
def k9c15 : Code := { maxStack := 6, maxLocals := 5, code := jdk_52_method_69_code, exceptionTable := #[], attributes := #[] }
def k9m15 : Method := { name := "newString", desc := "([BII)Ljava/lang/String;", sig := { parameters := [(.array .byte), .int, .int], returnType := some (.object "java/lang/String") }, accessFlags := 9, code := some k9c15 }
def k9c16 : Code := { maxStack := 2, maxLocals := 2, code := jdk_52_method_83_code, exceptionTable := #[], attributes := #[] }
def k9m16 : Method := { name := "charAt", desc := "([BI)C", sig := { parameters := [(.array .byte), .int], returnType := some .char }, accessFlags := 9, code := some k9c16 }
def k9c17 : Code := { maxStack := 2, maxLocals := 2, code := jdk_52_method_91_code, exceptionTable := #[], attributes := #[] }
def k9m17 : Method := { name := "checkIndex", desc := "(I[B)V", sig := { parameters := [.int, (.array .byte)], returnType := none }, accessFlags := 9, code := some k9c17 }
def k9c18 : Code := { maxStack := 3, maxLocals := 3, code := jdk_52_method_93_code, exceptionTable := #[], attributes := #[] }
def k9m18 : Method := { name := "checkBoundsBeginEnd", desc := "(II[B)V", sig := { parameters := [.int, .int, (.array .byte)], returnType := none }, accessFlags := 9, code := some k9c18 }
def k9c19 : Code := { maxStack := 3, maxLocals := 3, code := jdk_52_method_94_code, exceptionTable := #[], attributes := #[] }
def k9m19 : Method := { name := "checkBoundsOffCount", desc := "(II[B)V", sig := { parameters := [.int, .int, (.array .byte)], returnType := none }, accessFlags := 9, code := some k9c19 }
/-- java/lang/StringUTF16 -/
def k9 : Class := { plain "java/lang/StringUTF16" (some 0) with
  accessFlags := 48
  interfaces := #[]
  cf := some (fileOf pool9 12 #[.nestMembers #[627, 629, 369]] #[{ accessFlags := 0, nameIndex := 9, descriptorIndex := 10, attributes := #[] }, { accessFlags := 9, nameIndex := 109, descriptorIndex := 110, attributes := #[] }, { accessFlags := 9, nameIndex := 15, descriptorIndex := 16, attributes := #[] }, { accessFlags := 8, nameIndex := 113, descriptorIndex := 114, attributes := #[] }, { accessFlags := 8, nameIndex := 73, descriptorIndex := 74, attributes := #[] }, { accessFlags := 9, nameIndex := 50, descriptorIndex := 51, attributes := #[] }, { accessFlags := 9, nameIndex := 121, descriptorIndex := 122, attributes := #[] }, { accessFlags := 8, nameIndex := 261, descriptorIndex := 262, attributes := #[] }, { accessFlags := 9, nameIndex := 117, descriptorIndex := 122, attributes := #[] }, { accessFlags := 9, nameIndex := 117, descriptorIndex := 131, attributes := #[] }, { accessFlags := 9, nameIndex := 117, descriptorIndex := 118, attributes := #[] }, { accessFlags := 9, nameIndex := 117, descriptorIndex := 125, attributes := #[] }, { accessFlags := 9, nameIndex := 268, descriptorIndex := 231, attributes := #[] }, { accessFlags := 10, nameIndex := 230, descriptorIndex := 231, attributes := #[] }, { accessFlags := 10, nameIndex := 246, descriptorIndex := 231, attributes := #[] }, { accessFlags := 9, nameIndex := 327, descriptorIndex := 328, attributes := #[] }, { accessFlags := 9, nameIndex := 392, descriptorIndex := 74, attributes := #[] }, { accessFlags := 9, nameIndex := 69, descriptorIndex := 70, attributes := #[] }, { accessFlags := 9, nameIndex := 98, descriptorIndex := 99, attributes := #[] }, { accessFlags := 9, nameIndex := 175, descriptorIndex := 99, attributes := #[] }] 48 6 #[] #[{ accessFlags := 26, nameIndex := 61, descriptorIndex := 62, attributes := #[] }, { accessFlags := 26, nameIndex := 65, descriptorIndex := 62, attributes := #[] }, { accessFlags := 24, nameIndex := 430, descriptorIndex := 62, attributes := #[] }, { accessFlags := 4120, nameIndex := 46, descriptorIndex := 47, attributes := #[] }])
  fields := #[{ name := "HI_BYTE_SHIFT", type := .int, accessFlags := 26, slot := 0, constantValue := 0 }, { name := "LO_BYTE_SHIFT", type := .int, accessFlags := 26, slot := 1, constantValue := 0 }, { name := "MAX_LENGTH", type := .int, accessFlags := 24, slot := 2, constantValue := 0 }, { name := "$assertionsDisabled", type := .boolean, accessFlags := 4120, slot := 3, constantValue := 0 }]
  methods := #[k9m0, k9m1, k9m2, k9m3, k9m4, k9m5, k9m6, k9m7, k9m8, k9m9, k9m10, k9m11, k9m12, k9m13, k9m14, k9m15, k9m16, k9m17, k9m18, k9m19]
  instanceTypes := #[]
  staticTypes := #[.int, .int, .int, .boolean]
  resolved := Array.replicate 635 none
  statics := some 1 }

def pool10 : Array CpInfo := pool [(1, .class_ 2), (0, u "java/lang/Math"), (1, .class_ 6), (1, u "java/lang/Object"), (0, u "<init>"), (0, u "()V"), (89, .class_ 100), (1, u "java/lang/Math$RandomNumberGeneratorHolder"), (71, u "negativeZeroFloatBits"), (0, u "J"), (2, u "negativeZeroDoubleBits"), (21, u "max"), (2, u "min"), (43, u "$assertionsDisabled"), (0, u "Z"), (88, u "(II)I"), (2, u "twoToTheDoubleScaleDown"), (0, u "D"), (4, u "twoToTheDoubleScaleUp"), (9, u "E"), (3, u "PI"), (2, u "TAU"), (2, u "DEGREES_TO_RADIANS"), (0, u "RADIANS_TO_DEGREES")] 94

def k10m0 : Method := { name := "<init>", desc := "()V", sig := { parameters := [], returnType := none }, accessFlags := 2, code := none }
def k10c1 : Code := { maxStack := 2, maxLocals := 2, code := jdk_29_method_65_code, exceptionTable := #[], attributes := #[] }
def k10m1 : Method := { name := "max", desc := "(II)I", sig := { parameters := [.int, .int], returnType := some .int }, accessFlags := 9, code := some k10c1 }
def k10c2 : Code := { maxStack := 2, maxLocals := 2, code := jdk_29_method_69_code, exceptionTable := #[], attributes := #[] }
def k10m2 : Method := { name := "min", desc := "(II)I", sig := { parameters := [.int, .int], returnType := some .int }, accessFlags := 9, code := some k10c2 }
/-- java/lang/Math -/
def k10 : Class := { plain "java/lang/Math" (some 0) with
  accessFlags := 49
  interfaces := #[]
  cf := some (fileOf pool10 1 #[.nestMembers #[98]] #[{ accessFlags := 2, nameIndex := 7, descriptorIndex := 8, attributes := #[] }, { accessFlags := 9, nameIndex := 198, descriptorIndex := 335, attributes := #[] }, { accessFlags := 9, nameIndex := 201, descriptorIndex := 335, attributes := #[] }] 49 4 #[] #[{ accessFlags := 25, nameIndex := 354, descriptorIndex := 339, attributes := #[] }, { accessFlags := 25, nameIndex := 358, descriptorIndex := 339, attributes := #[] }, { accessFlags := 25, nameIndex := 361, descriptorIndex := 339, attributes := #[] }, { accessFlags := 26, nameIndex := 364, descriptorIndex := 339, attributes := #[] }, { accessFlags := 26, nameIndex := 365, descriptorIndex := 339, attributes := #[] }, { accessFlags := 26, nameIndex := 172, descriptorIndex := 173, attributes := #[] }, { accessFlags := 26, nameIndex := 176, descriptorIndex := 173, attributes := #[] }, { accessFlags := 8, nameIndex := 344, descriptorIndex := 339, attributes := #[] }, { accessFlags := 8, nameIndex := 338, descriptorIndex := 339, attributes := #[] }, { accessFlags := 4120, nameIndex := 245, descriptorIndex := 246, attributes := #[] }])
  fields := #[{ name := "E", type := .double, accessFlags := 25, slot := 0, constantValue := 0 }, { name := "PI", type := .double, accessFlags := 25, slot := 1, constantValue := 0 }, { name := "TAU", type := .double, accessFlags := 25, slot := 2, constantValue := 0 }, { name := "DEGREES_TO_RADIANS", type := .double, accessFlags := 26, slot := 3, constantValue := 0 }, { name := "RADIANS_TO_DEGREES", type := .double, accessFlags := 26, slot := 4, constantValue := 0 }, { name := "negativeZeroFloatBits", type := .long, accessFlags := 26, slot := 5, constantValue := 0 }, { name := "negativeZeroDoubleBits", type := .long, accessFlags := 26, slot := 6, constantValue := 0 }, { name := "twoToTheDoubleScaleUp", type := .double, accessFlags := 8, slot := 7, constantValue := 0 }, { name := "twoToTheDoubleScaleDown", type := .double, accessFlags := 8, slot := 8, constantValue := 0 }, { name := "$assertionsDisabled", type := .boolean, accessFlags := 4120, slot := 9, constantValue := 0 }]
  methods := #[k10m0, k10m1, k10m2]
  instanceTypes := #[]
  staticTypes := #[.double, .double, .double, .double, .double, .long, .long, .double, .double, .boolean]
  resolved := Array.replicate 460 none
  statics := none }

def pool11 : Array CpInfo := pool [(2, .class_ 4), (1, u "java/lang/Object"), (0, u "<init>"), (0, u "()V"), (17, .class_ 26), (1, u "jdk/internal/util/Preconditions"), (6, u "checkIndex"), (13, u "checkFromToIndex"), (1, u "checkFromIndexSize"), (5, .class_ 56), (0, u "jdk/internal/util/Preconditions$4"), (57, .class_ 115), (0, u "jdk/internal/util/Preconditions$1"), (7, u "SIOOBE_FORMATTER"), (0, u "Ljava/util/function/BiFunction;"), (0, .class_ 126), (0, u "jdk/internal/util/Preconditions$2"), (3, u "AIOOBE_FORMATTER"), (0, .class_ 132), (0, u "jdk/internal/util/Preconditions$3"), (3, u "IOOBE_FORMATTER"), (41, u "(IILjava/util/function/BiFunction;)I"), (4, u "(IIILjava/util/function/BiFunction;)I")] 10

def k11m0 : Method := { name := "<init>", desc := "()V", sig := { parameters := [], returnType := none }, accessFlags := 1, code := none }
def k11c1 : Code := { maxStack := 3, maxLocals := 3, code := jdk_41_method_11_code, exceptionTable := #[], attributes := #[] }
def k11m1 : Method := { name := "checkIndex", desc := "(IILjava/util/function/BiFunction;)I", sig := { parameters := [.int, .int, (.object "java/util/function/BiFunction")], returnType := some .int }, accessFlags := 9, code := some k11c1 }
def k11c2 : Code := { maxStack := 4, maxLocals := 4, code := jdk_41_method_12_code, exceptionTable := #[], attributes := #[] }
def k11m2 : Method := { name := "checkFromToIndex", desc := "(IIILjava/util/function/BiFunction;)I", sig := { parameters := [.int, .int, .int, (.object "java/util/function/BiFunction")], returnType := some .int }, accessFlags := 9, code := some k11c2 }
def k11c3 : Code := { maxStack := 4, maxLocals := 4, code := jdk_41_method_13_code, exceptionTable := #[], attributes := #[] }
def k11m3 : Method := { name := "checkFromIndexSize", desc := "(IIILjava/util/function/BiFunction;)I", sig := { parameters := [.int, .int, .int, (.object "java/util/function/BiFunction")], returnType := some .int }, accessFlags := 9, code := some k11c3 }
/-- jdk/internal/util/Preconditions -/
def k11 : Class := { plain "jdk/internal/util/Preconditions" (some 0) with
  accessFlags := 33
  interfaces := #[]
  cf := some (fileOf pool11 24 #[.nestMembers #[55, 131, 125, 114]] #[{ accessFlags := 1, nameIndex := 5, descriptorIndex := 6, attributes := #[] }, { accessFlags := 9, nameIndex := 33, descriptorIndex := 178, attributes := #[] }, { accessFlags := 9, nameIndex := 47, descriptorIndex := 183, attributes := #[] }, { accessFlags := 9, nameIndex := 49, descriptorIndex := 183, attributes := #[] }] 33 2 #[] #[{ accessFlags := 25, nameIndex := 123, descriptorIndex := 124, attributes := #[] }, { accessFlags := 25, nameIndex := 130, descriptorIndex := 124, attributes := #[] }, { accessFlags := 25, nameIndex := 136, descriptorIndex := 124, attributes := #[] }])
  fields := #[{ name := "SIOOBE_FORMATTER", type := (.object "java/util/function/BiFunction"), accessFlags := 25, slot := 0, constantValue := 0 }, { name := "AIOOBE_FORMATTER", type := (.object "java/util/function/BiFunction"), accessFlags := 25, slot := 1, constantValue := 0 }, { name := "IOOBE_FORMATTER", type := (.object "java/util/function/BiFunction"), accessFlags := 25, slot := 2, constantValue := 0 }]
  methods := #[k11m0, k11m1, k11m2, k11m3]
  instanceTypes := #[]
  staticTypes := #[(.object "java/util/function/BiFunction"), (.object "java/util/function/BiFunction"), (.object "java/util/function/BiFunction")]
  resolved := Array.replicate 194 none
  statics := some 2 }

def pool12 : Array CpInfo := pool [(2, .class_ 4), (1, u "java/lang/Object"), (0, u "<init>"), (0, u "()V"), (7, .class_ 16), (1, u "java/util/Arrays"), (57, .class_ 76), (1, u "java/util/Arrays$NaturalOrder"), (36, .class_ 115), (1, u "java/util/Arrays$LegacyMergeSort"), (1, u "Z"), (21, u "copyOfRange"), (10, .methodref 151 152), (0, .class_ 153), (0, .nameAndType 154 155), (0, u "java/lang/System"), (0, u "arraycopy"), (0, u "(Ljava/lang/Object;ILjava/lang/Object;II)V"), (148, .methodref 305 306), (0, .class_ 307), (0, .nameAndType 308 309), (0, u "java/lang/Math"), (0, u "min"), (0, u "(II)I"), (29, .methodref 14 340), (0, .nameAndType 341 342), (0, u "copyOfRangeByte"), (0, u "([BII)[B"), (0, .methodref 14 344), (0, .nameAndType 345 346), (0, u "checkLength"), (0, u "(II)V"), (28, .class_ 376), (0, u "java/util/Arrays$ArrayList"), (68, u "$assertionsDisabled"), (269, u "MIN_ARRAY_SORT_GRAN"), (0, u "I"), (2, u "INSERTIONSORT_THRESHOLD"), (255, .class_ 976), (0, u "java/util/Arrays$ArrayItr")] 52

def k12m0 : Method := { name := "<init>", desc := "()V", sig := { parameters := [], returnType := none }, accessFlags := 2, code := none }
def k12c1 : Code := { maxStack := 4, maxLocals := 2, code := jdk_65_method_131_code, exceptionTable := #[], attributes := #[] }
def k12m1 : Method := { name := "checkLength", desc := "(II)V", sig := { parameters := [.int, .int], returnType := none }, accessFlags := 10, code := some k12c1 }
def k12c2 : Code := { maxStack := 3, maxLocals := 3, code := jdk_65_method_132_code, exceptionTable := #[], attributes := #[] }
def k12m2 : Method := { name := "copyOfRange", desc := "([BII)[B", sig := { parameters := [(.array .byte), .int, .int], returnType := some (.array .byte) }, accessFlags := 9, code := some k12c2 }
def k12c3 : Code := { maxStack := 6, maxLocals := 5, code := jdk_65_method_133_code, exceptionTable := #[], attributes := #[] }
def k12m3 : Method := { name := "copyOfRangeByte", desc := "([BII)[B", sig := { parameters := [(.array .byte), .int, .int], returnType := some (.array .byte) }, accessFlags := 10, code := some k12c3 }
/-- java/util/Arrays -/
def k12 : Class := { plain "java/util/Arrays" (some 0) with
  accessFlags := 49
  interfaces := #[]
  cf := some (fileOf pool12 14 #[.nestMembers #[975, 375, 113, 74]] #[{ accessFlags := 2, nameIndex := 5, descriptorIndex := 6, attributes := #[] }, { accessFlags := 10, nameIndex := 345, descriptorIndex := 346, attributes := #[] }, { accessFlags := 9, nameIndex := 139, descriptorIndex := 342, attributes := #[] }, { accessFlags := 10, nameIndex := 341, descriptorIndex := 342, attributes := #[] }] 49 2 #[] #[{ accessFlags := 26, nameIndex := 715, descriptorIndex := 716, attributes := #[] }, { accessFlags := 26, nameIndex := 719, descriptorIndex := 716, attributes := #[] }, { accessFlags := 4120, nameIndex := 445, descriptorIndex := 117, attributes := #[] }])
  fields := #[{ name := "MIN_ARRAY_SORT_GRAN", type := .int, accessFlags := 26, slot := 0, constantValue := 0 }, { name := "INSERTIONSORT_THRESHOLD", type := .int, accessFlags := 26, slot := 1, constantValue := 0 }, { name := "$assertionsDisabled", type := .boolean, accessFlags := 4120, slot := 2, constantValue := 0 }]
  methods := #[k12m0, k12m1, k12m2, k12m3]
  instanceTypes := #[]
  staticTypes := #[.int, .int, .boolean]
  resolved := Array.replicate 1029 none
  statics := none }

def pool13 : Array CpInfo := pool [(2, .class_ 4), (1, u "java/lang/Object"), (0, u "<init>"), (0, u "()V"), (1, .class_ 10), (1, u "java/lang/System"), (0, u "allowSecurityManager"), (0, u "I"), (16, u "cons"), (0, u "Ljava/io/Console;"), (77, .class_ 110), (1, u "java/lang/System$CallersHolder"), (43, u "initialErrStream"), (0, u "Ljava/io/PrintStream;"), (19, u "security"), (0, u "Ljava/lang/SecurityManager;"), (31, .class_ 209), (0, u "java/lang/System$1"), (7, u "props"), (0, u "Ljava/util/Properties;"), (2, u "lineSeparator"), (0, u "Ljava/lang/String;"), (96, .class_ 321), (1, u "java/lang/System$LoggerFinder"), (5, .class_ 328), (0, u "java/lang/System$Logger"), (67, u "err"), (2, u "out"), (91, u "notSupportedJnuEncoding"), (15, u "in"), (17, u "initialIn"), (0, u "Ljava/io/InputStream;"), (35, u "bootLayer"), (0, u "Ljava/lang/ModuleLayer;"), (99, .class_ 664), (0, u "java/lang/System$2"), (9, u "NEVER"), (2, u "MAYBE"), (49, u "arraycopy"), (0, u "(Ljava/lang/Object;ILjava/lang/Object;II)V"), (72, .class_ 802), (0, u "java/lang/System$Logger$Level")] 31

def k13m0 : Method := { name := "<init>", desc := "()V", sig := { parameters := [], returnType := none }, accessFlags := 2, code := none }
def k13m1 : Method := { name := "arraycopy", desc := "(Ljava/lang/Object;ILjava/lang/Object;II)V", sig := { parameters := [(.object "java/lang/Object"), .int, (.object "java/lang/Object"), .int, .int], returnType := none }, accessFlags := 265, code := none }
/-- java/lang/System -/
def k13 : Class := { plain "java/lang/System" (some 0) with
  accessFlags := 49
  interfaces := #[]
  cf := some (fileOf pool13 8 #[.nestMembers #[319, 327, 801, 108, 663, 208]] #[{ accessFlags := 2, nameIndex := 5, descriptorIndex := 6, attributes := #[] }, { accessFlags := 265, nameIndex := 727, descriptorIndex := 728, attributes := #[] }] 49 2 #[] #[{ accessFlags := 25, nameIndex := 507, descriptorIndex := 526, attributes := #[] }, { accessFlags := 25, nameIndex := 399, descriptorIndex := 155, attributes := #[] }, { accessFlags := 25, nameIndex := 396, descriptorIndex := 155, attributes := #[] }, { accessFlags := 10, nameIndex := 525, descriptorIndex := 526, attributes := #[] }, { accessFlags := 26, nameIndex := 674, descriptorIndex := 12, attributes := #[] }, { accessFlags := 26, nameIndex := 677, descriptorIndex := 12, attributes := #[] }, { accessFlags := 10, nameIndex := 11, descriptorIndex := 12, attributes := #[] }, { accessFlags := 74, nameIndex := 175, descriptorIndex := 176, attributes := #[] }, { accessFlags := 10, nameIndex := 491, descriptorIndex := 222, attributes := #[] }, { accessFlags := 74, nameIndex := 29, descriptorIndex := 30, attributes := #[] }, { accessFlags := 74, nameIndex := 154, descriptorIndex := 155, attributes := #[] }, { accessFlags := 10, nameIndex := 217, descriptorIndex := 218, attributes := #[] }, { accessFlags := 10, nameIndex := 221, descriptorIndex := 222, attributes := #[] }, { accessFlags := 8, nameIndex := 562, descriptorIndex := 563, attributes := #[] }])
  fields := #[{ name := "in", type := (.object "java/io/InputStream"), accessFlags := 25, slot := 0, constantValue := 0 }, { name := "out", type := (.object "java/io/PrintStream"), accessFlags := 25, slot := 1, constantValue := 0 }, { name := "err", type := (.object "java/io/PrintStream"), accessFlags := 25, slot := 2, constantValue := 0 }, { name := "initialIn", type := (.object "java/io/InputStream"), accessFlags := 10, slot := 3, constantValue := 0 }, { name := "NEVER", type := .int, accessFlags := 26, slot := 4, constantValue := 0 }, { name := "MAYBE", type := .int, accessFlags := 26, slot := 5, constantValue := 0 }, { name := "allowSecurityManager", type := .int, accessFlags := 10, slot := 6, constantValue := 0 }, { name := "security", type := (.object "java/lang/SecurityManager"), accessFlags := 74, slot := 7, constantValue := 0 }, { name := "notSupportedJnuEncoding", type := (.object "java/lang/String"), accessFlags := 10, slot := 8, constantValue := 0 }, { name := "cons", type := (.object "java/io/Console"), accessFlags := 74, slot := 9, constantValue := 0 }, { name := "initialErrStream", type := (.object "java/io/PrintStream"), accessFlags := 74, slot := 10, constantValue := 0 }, { name := "props", type := (.object "java/util/Properties"), accessFlags := 10, slot := 11, constantValue := 0 }, { name := "lineSeparator", type := (.object "java/lang/String"), accessFlags := 10, slot := 12, constantValue := 0 }, { name := "bootLayer", type := (.object "java/lang/ModuleLayer"), accessFlags := 8, slot := 13, constantValue := 0 }]
  methods := #[k13m0, k13m1]
  instanceTypes := #[]
  staticTypes := #[(.object "java/io/InputStream"), (.object "java/io/PrintStream"), (.object "java/io/PrintStream"), (.object "java/io/InputStream"), .int, .int, .int, (.object "java/lang/SecurityManager"), (.object "java/lang/String"), (.object "java/io/Console"), (.object "java/io/PrintStream"), (.object "java/util/Properties"), (.object "java/lang/String"), (.object "java/lang/ModuleLayer")]
  resolved := Array.replicate 834 none
  statics := none }

def pool14 : Array CpInfo := pool [(4, .class_ 6), (1, u "java/lang/Object"), (0, u "<init>"), (0, u "()V"), (5, .class_ 16), (1, u "java/lang/StringLatin1"), (104, u "$assertionsDisabled"), (0, u "Z"), (98, .class_ 223), (1, u "java/lang/StringLatin1$LinesSpliterator"), (166, .class_ 391), (0, u "java/lang/StringLatin1$CharsSpliterator")] 3

def k14m0 : Method := { name := "<init>", desc := "()V", sig := { parameters := [], returnType := none }, accessFlags := 0, code := none }
/-- java/lang/StringLatin1 -/
def k14 : Class := { plain "java/lang/StringLatin1" (some 0) with
  accessFlags := 48
  interfaces := #[]
  cf := some (fileOf pool14 14 #[.nestMembers #[390, 221]] #[{ accessFlags := 0, nameIndex := 7, descriptorIndex := 8, attributes := #[] }] 48 4 #[] #[{ accessFlags := 4120, nameIndex := 121, descriptorIndex := 122, attributes := #[] }])
  fields := #[{ name := "$assertionsDisabled", type := .boolean, accessFlags := 4120, slot := 0, constantValue := 0 }]
  methods := #[k14m0]
  instanceTypes := #[]
  staticTypes := #[.boolean]
  resolved := Array.replicate 395 none
  statics := none }

def pool15 : Array CpInfo := pool [(9, u "<init>"), (6, .class_ 18), (1, u "java/lang/Object"), (0, u "()V"), (1, .class_ 23), (1, u "jdk/internal/util/ArraysSupport"), (0, u "LOG2_ARRAY_LONG_INDEX_SCALE"), (0, u "I"), (2, u "U"), (0, u "Ljdk/internal/misc/Unsafe;"), (8, u "BIG_ENDIAN"), (0, u "Z"), (8, u "LOG2_BYTE_BIT_SIZE"), (4, u "LOG2_ARRAY_INT_INDEX_SCALE"), (54, u "JLA"), (0, u "Ljdk/internal/access/JavaLangAccess;"), (11, u "LOG2_ARRAY_BOOLEAN_INDEX_SCALE"), (9, u "LOG2_ARRAY_BYTE_INDEX_SCALE"), (5, u "LOG2_ARRAY_CHAR_INDEX_SCALE"), (5, u "LOG2_ARRAY_SHORT_INDEX_SCALE"), (18, u "LOG2_ARRAY_FLOAT_INDEX_SCALE"), (24, u "LOG2_ARRAY_DOUBLE_INDEX_SCALE"), (89, u "T_BOOLEAN"), (2, u "T_CHAR"), (1, u "T_FLOAT"), (1, u "T_DOUBLE"), (1, u "T_BYTE"), (1, u "T_SHORT"), (1, u "T_INT"), (1, u "T_LONG"), (1, u "SOFT_MAX_ARRAY_LENGTH")] 83

def k15m0 : Method := { name := "<init>", desc := "()V", sig := { parameters := [], returnType := none }, accessFlags := 2, code := none }
/-- jdk/internal/util/ArraysSupport -/
def k15 : Class := { plain "jdk/internal/util/ArraysSupport" (some 0) with
  accessFlags := 33
  interfaces := #[]
  cf := some (fileOf pool15 21 #[] #[{ accessFlags := 2, nameIndex := 9, descriptorIndex := 19, attributes := #[] }] 33 16 #[] #[{ accessFlags := 24, nameIndex := 28, descriptorIndex := 29, attributes := #[] }, { accessFlags := 26, nameIndex := 38, descriptorIndex := 39, attributes := #[] }, { accessFlags := 25, nameIndex := 121, descriptorIndex := 25, attributes := #[] }, { accessFlags := 25, nameIndex := 131, descriptorIndex := 25, attributes := #[] }, { accessFlags := 25, nameIndex := 137, descriptorIndex := 25, attributes := #[] }, { accessFlags := 25, nameIndex := 143, descriptorIndex := 25, attributes := #[] }, { accessFlags := 25, nameIndex := 53, descriptorIndex := 25, attributes := #[] }, { accessFlags := 25, nameIndex := 24, descriptorIndex := 25, attributes := #[] }, { accessFlags := 25, nameIndex := 162, descriptorIndex := 25, attributes := #[] }, { accessFlags := 25, nameIndex := 187, descriptorIndex := 25, attributes := #[] }, { accessFlags := 26, nameIndex := 48, descriptorIndex := 25, attributes := #[] }, { accessFlags := 25, nameIndex := 277, descriptorIndex := 25, attributes := #[] }, { accessFlags := 25, nameIndex := 280, descriptorIndex := 25, attributes := #[] }, { accessFlags := 25, nameIndex := 282, descriptorIndex := 25, attributes := #[] }, { accessFlags := 25, nameIndex := 284, descriptorIndex := 25, attributes := #[] }, { accessFlags := 25, nameIndex := 286, descriptorIndex := 25, attributes := #[] }, { accessFlags := 25, nameIndex := 288, descriptorIndex := 25, attributes := #[] }, { accessFlags := 25, nameIndex := 290, descriptorIndex := 25, attributes := #[] }, { accessFlags := 25, nameIndex := 292, descriptorIndex := 25, attributes := #[] }, { accessFlags := 26, nameIndex := 108, descriptorIndex := 109, attributes := #[] }, { accessFlags := 25, nameIndex := 294, descriptorIndex := 25, attributes := #[] }])
  fields := #[{ name := "U", type := (.object "jdk/internal/misc/Unsafe"), accessFlags := 24, slot := 0, constantValue := 0 }, { name := "BIG_ENDIAN", type := .boolean, accessFlags := 26, slot := 1, constantValue := 0 }, { name := "LOG2_ARRAY_BOOLEAN_INDEX_SCALE", type := .int, accessFlags := 25, slot := 2, constantValue := 0 }, { name := "LOG2_ARRAY_BYTE_INDEX_SCALE", type := .int, accessFlags := 25, slot := 3, constantValue := 0 }, { name := "LOG2_ARRAY_CHAR_INDEX_SCALE", type := .int, accessFlags := 25, slot := 4, constantValue := 0 }, { name := "LOG2_ARRAY_SHORT_INDEX_SCALE", type := .int, accessFlags := 25, slot := 5, constantValue := 0 }, { name := "LOG2_ARRAY_INT_INDEX_SCALE", type := .int, accessFlags := 25, slot := 6, constantValue := 0 }, { name := "LOG2_ARRAY_LONG_INDEX_SCALE", type := .int, accessFlags := 25, slot := 7, constantValue := 0 }, { name := "LOG2_ARRAY_FLOAT_INDEX_SCALE", type := .int, accessFlags := 25, slot := 8, constantValue := 0 }, { name := "LOG2_ARRAY_DOUBLE_INDEX_SCALE", type := .int, accessFlags := 25, slot := 9, constantValue := 0 }, { name := "LOG2_BYTE_BIT_SIZE", type := .int, accessFlags := 26, slot := 10, constantValue := 0 }, { name := "T_BOOLEAN", type := .int, accessFlags := 25, slot := 11, constantValue := 0 }, { name := "T_CHAR", type := .int, accessFlags := 25, slot := 12, constantValue := 0 }, { name := "T_FLOAT", type := .int, accessFlags := 25, slot := 13, constantValue := 0 }, { name := "T_DOUBLE", type := .int, accessFlags := 25, slot := 14, constantValue := 0 }, { name := "T_BYTE", type := .int, accessFlags := 25, slot := 15, constantValue := 0 }, { name := "T_SHORT", type := .int, accessFlags := 25, slot := 16, constantValue := 0 }, { name := "T_INT", type := .int, accessFlags := 25, slot := 17, constantValue := 0 }, { name := "T_LONG", type := .int, accessFlags := 25, slot := 18, constantValue := 0 }, { name := "JLA", type := (.object "jdk/internal/access/JavaLangAccess"), accessFlags := 26, slot := 19, constantValue := 0 }, { name := "SOFT_MAX_ARRAY_LENGTH", type := .int, accessFlags := 25, slot := 20, constantValue := 0 }]
  methods := #[k15m0]
  instanceTypes := #[]
  staticTypes := #[(.object "jdk/internal/misc/Unsafe"), .boolean, .int, .int, .int, .int, .int, .int, .int, .int, .int, .int, .int, .int, .int, .int, .int, .int, .int, (.object "jdk/internal/access/JavaLangAccess"), .int]
  resolved := Array.replicate 378 none
  statics := none }

def pool16 : Array CpInfo := pool [(1, u "java/lang/Cloneable"), (0, .class_ 1), (0, u "java/lang/Object"), (0, .class_ 3)] 3

/-- java/lang/Cloneable -/
def k16 : Class := { plain "java/lang/Cloneable" (some 0) with
  accessFlags := 1537
  interfaces := #[]
  cf := some (fileOf pool16 2 #[] #[] 1537 4 #[] #[])
  fields := #[]
  methods := #[]
  instanceTypes := #[]
  staticTypes := #[]
  resolved := Array.replicate 8 none
  statics := none }

/-- the primitive byte -/
def k17 : Class := { plain "byte" none with kind := .primitive 'B', accessFlags := 0x411 }
/-- [B -/
def k18 : Class := { plain "[B" (some 0) with kind := .array 17 .byte, interfaces := #[16, 3], accessFlags := 1041 }

/-- the primitive char -/
def k19 : Class := { plain "char" none with kind := .primitive 'C', accessFlags := 0x411 }
/-- [C -/
def k20 : Class := { plain "[C" (some 0) with kind := .array 19 .char, interfaces := #[16, 3], accessFlags := 1041 }

/-- the primitive int -/
def k21 : Class := { plain "int" none with kind := .primitive 'I', accessFlags := 0x411 }
/-- [I -/
def k22 : Class := { plain "[I" (some 0) with kind := .array 21 .int, interfaces := #[16, 3], accessFlags := 1041 }

def heap : Heap := #[{ cls := 8, slots := #[.long 0, .int 1, .null, .int 0, .null, .int 0, .int 0], vm := .statics 8 },
  { cls := 9, slots := #[.int 0, .int 8, .int 0, .int 1], vm := .statics 9 },
  { cls := 11, slots := #[.null, .null, .null], vm := .statics 11 }]
def classes : Array Class := #[k0, k1, k2, k3, k4, k5, k6, k7, k8, k9, k10, k11, k12, k13, k14, k15, k16, k17, k18, k19, k20, k21, k22]
def interned : List (Array UInt16 × Addr) := []
def slotsUsed : Nat := 14
def theMethod : MethodId := ⟨1, 3⟩
def args0 : Array Value := #[.int 260, .int 0, .int 1, .int 264, .int 268, .int 1]
def aboutOver (below : List Frame) : State where
  vm := { classes := classes, interned := interned.toArray }
  heap := heap
  slotsUsed := slotsUsed
  threads := #[{ frames := .invoking theMethod args0 :: below }]
def below0 : List Frame := [.native { method := ⟨0, 0⟩, args := #[] }]
def about1 : State := aboutOver below0
def p0 : Program := .bare "" "" ""
def e0 : Env := launch0.env 0 0 0
theorem w_frames : about1.frames = Frame.invoking theMethod args0 :: below0 := rfl
set_option maxRecDepth 65536 in
theorem w_args : argsFit about1.vm theMethod args0 = true := by decide +kernel
set_option maxRecDepth 65536 in
theorem w_heap : heapFits about1 = true := by decide +kernel
set_option maxRecDepth 65536 in
theorem w_runnable : about1.curStatus? = some .runnable := by decide +kernel
set_option maxRecDepth 65536 in
theorem w_alone : about1.alone = true := by decide +kernel
set_option maxRecDepth 65536 in
theorem w_named : about1.methodNamed? x = some theMethod := by decide +kernel
set_option maxRecDepth 65536 in
theorem w_hears : about1.hears theMethod below0 = true := by decide +kernel
set_option maxRecDepth 65536 in
theorem w_ripe : about1.ripe theMethod args0 below0 = true := by decide +kernel
theorem w_running : about1.status = .running := rfl
set_option maxRecDepth 65536 in
theorem w_room : about1.hasRoom e0.platform room_1 = true :=
  launch0.hasRoom_least _ room_1 (by decide +kernel) (by decide +kernel) (by decide +kernel) (by decide +kernel) (by decide +kernel) (by decide +kernel)
theorem allAtoms_all (ts : List Jvm.Cond) (a : Array Jvm.Value) (st : Jvm.State) : (allAtoms ts).before a st = ts.all (fun c => c.before a st) := by
  induction ts with
  | nil => rfl
  | cons c t ih =>
    show (Jvm.Cond.and c (allAtoms t)).before a st = _
    rw [Jvm.Cond.before_and, ih, List.all_cons]
def words1 : List Jvm.Cond := Jvm.Cond.code x code maxLocals ret :: tables_1
/-- a 'code' word, met by the world's own term for the bytes: nothing is compared byte by byte -/
theorem code_word {y : MethodName} {bytes : ByteArray} {mx : Nat} {rt : Option FieldType} {a : Array Value} {s : State} {m : MethodId} {meth : Method} {c : Code} (h1 : s.methodNamed? y = some m) (h2 : s.vm.method? m = some meth) (h3 : meth.code = some c) (h4 : c.code = bytes)
    (h5 : (c.maxLocals == mx && c.exceptionTable.isEmpty && decide (c.maxStack ≤ mostOperands) && decide (meth.sig.returnType = rt) && !meth.locks && decide (parseMethodDescriptor y.desc = some meth.sig)) = true) : (Jvm.Cond.code y bytes mx rt).before a s = true := by
  simp only [Bool.and_eq_true, beq_iff_eq, Bool.not_eq_true', decide_eq_true_eq] at h5
  obtain ⟨⟨⟨⟨⟨g1, g2⟩, g3⟩, g4⟩, g5⟩, g6⟩ := h5
  simp [Cond.before, Cond.holds, Cond.value, h1, h2, h3, h4, g1, g2, g3, g4, g5, g6]
def isCode : Jvm.Cond → Bool
  | .code _ _ _ _ => true
  | _ => false
theorem all_split {L : List Jvm.Cond} {P : Jvm.Cond → Bool} (h1 : L.all (fun c => isCode c || P c) = true) (h2 : ∀ c ∈ L.filter isCode, P c = true) : L.all P = true := by
  refine List.all_eq_true.mpr fun c hc => ?_
  have h := List.all_eq_true.mp h1 c hc
  rcases Bool.eq_false_or_eq_true (isCode c) with hi | hi
  · exact h2 c (List.mem_filter.mpr ⟨hc, hi⟩)
  · simpa [hi] using h
set_option maxRecDepth 65536 in
theorem w_c0 : (Jvm.Cond.code x code maxLocals ret).before args0 about1 = true := code_word (m := ⟨1, 3⟩) (meth := k1m3) (c := k1c3) (by decide +kernel) rfl rfl rfl (by decide +kernel)
set_option maxRecDepth 65536 in
theorem w_c1 : (Jvm.Cond.code ({ cls := "com/example/wayline/wayline/HeaderReaderSkipWhiteSpacePinLaw", name := "draw", desc := "(I)C" } : Jvm.MethodName) method_2_code (2 : Nat) (Option.some Jvm.ClassFile.FieldType.char)).before args0 about1 = true := code_word (m := ⟨1, 1⟩) (meth := k1m1) (c := k1c1) (by decide +kernel) rfl rfl rfl (by decide +kernel)
set_option maxRecDepth 65536 in
theorem w_c2 : (Jvm.Cond.code ({ cls := "java/lang/String", name := "<init>", desc := "([C)V" } : Jvm.MethodName) jdk_42_method_3_code (2 : Nat) (Option.none : Option Jvm.ClassFile.FieldType)).before args0 about1 = true := code_word (m := ⟨8, 1⟩) (meth := k8m1) (c := k8c1) (by decide +kernel) rfl rfl rfl (by decide +kernel)
set_option maxRecDepth 65536 in
theorem w_c3 : (Jvm.Cond.code ({ cls := "java/lang/String", name := "<init>", desc := "([CIILjava/lang/Void;)V" } : Jvm.MethodName) jdk_42_method_149_code (6 : Nat) (Option.none : Option Jvm.ClassFile.FieldType)).before args0 about1 = true := code_word (m := ⟨8, 6⟩) (meth := k8m6) (c := k8c6) (by decide +kernel) rfl rfl rfl (by decide +kernel)
set_option maxRecDepth 65536 in
theorem w_c4 : (Jvm.Cond.code ({ cls := "java/lang/Object", name := "<init>", desc := "()V" } : Jvm.MethodName) object_method_1_code (1 : Nat) (Option.none : Option Jvm.ClassFile.FieldType)).before args0 about1 = true := code_word (m := ⟨0, 0⟩) (meth := k0m0) (c := k0c0) (by decide +kernel) rfl rfl rfl (by decide +kernel)
set_option maxRecDepth 65536 in
theorem w_c5 : (Jvm.Cond.code ({ cls := "java/lang/StringUTF16", name := "compress", desc := "([CII)[B" } : Jvm.MethodName) jdk_52_method_16_code (6 : Nat) (Option.some (Jvm.ClassFile.FieldType.array Jvm.ClassFile.FieldType.byte))).before args0 about1 = true := code_word (m := ⟨9, 8⟩) (meth := k9m8) (c := k9c8) (by decide +kernel) rfl rfl rfl (by decide +kernel)
set_option maxRecDepth 65536 in
theorem w_c6 : (Jvm.Cond.code ({ cls := "java/lang/StringUTF16", name := "compress", desc := "([CI[BII)I" } : Jvm.MethodName) jdk_52_method_21_code (7 : Nat) (Option.some Jvm.ClassFile.FieldType.int)).before args0 about1 = true := code_word (m := ⟨9, 10⟩) (meth := k9m10) (c := k9c10) (by decide +kernel) rfl rfl rfl (by decide +kernel)
set_option maxRecDepth 65536 in
theorem w_c7 : (Jvm.Cond.code ({ cls := "java/lang/StringUTF16", name := "toBytes", desc := "([CII)[B" } : Jvm.MethodName) jdk_52_method_14_code (5 : Nat) (Option.some (Jvm.ClassFile.FieldType.array Jvm.ClassFile.FieldType.byte))).before args0 about1 = true := code_word (m := ⟨9, 6⟩) (meth := k9m6) (c := k9c6) (by decide +kernel) rfl rfl rfl (by decide +kernel)
set_option maxRecDepth 65536 in
theorem w_c8 : (Jvm.Cond.code ({ cls := "java/lang/StringUTF16", name := "newBytesFor", desc := "(I)[B" } : Jvm.MethodName) jdk_52_method_2_code (1 : Nat) (Option.some (Jvm.ClassFile.FieldType.array Jvm.ClassFile.FieldType.byte))).before args0 about1 = true := code_word (m := ⟨9, 1⟩) (meth := k9m1) (c := k9c1) (by decide +kernel) rfl rfl rfl (by decide +kernel)
set_option maxRecDepth 65536 in
theorem w_c9 : (Jvm.Cond.code ({ cls := "java/lang/StringUTF16", name := "newBytesLength", desc := "(I)I" } : Jvm.MethodName) jdk_52_method_3_code (1 : Nat) (Option.some Jvm.ClassFile.FieldType.int)).before args0 about1 = true := code_word (m := ⟨9, 2⟩) (meth := k9m2) (c := k9c2) (by decide +kernel) rfl rfl rfl (by decide +kernel)
set_option maxRecDepth 65536 in
theorem w_c10 : (Jvm.Cond.code ({ cls := "java/lang/StringUTF16", name := "putChar", desc := "([BII)V" } : Jvm.MethodName) jdk_52_method_4_code (3 : Nat) (Option.none : Option Jvm.ClassFile.FieldType)).before args0 about1 = true := code_word (m := ⟨9, 3⟩) (meth := k9m3) (c := k9c3) (by decide +kernel) rfl rfl rfl (by decide +kernel)
set_option maxRecDepth 65536 in
theorem w_c11 : (Jvm.Cond.code ({ cls := "java/lang/StringUTF16", name := "getChar", desc := "([BI)C" } : Jvm.MethodName) jdk_52_method_5_code (2 : Nat) (Option.some Jvm.ClassFile.FieldType.char)).before args0 about1 = true := code_word (m := ⟨9, 4⟩) (meth := k9m4) (c := k9c4) (by decide +kernel) rfl rfl rfl (by decide +kernel)
set_option maxRecDepth 65536 in
theorem w_c12 : (Jvm.Cond.code ({ cls := "java/lang/StringUTF16", name := "coderFromArrayLen", desc := "([BI)B" } : Jvm.MethodName) jdk_52_method_15_code (2 : Nat) (Option.some Jvm.ClassFile.FieldType.byte)).before args0 about1 = true := code_word (m := ⟨9, 7⟩) (meth := k9m7) (c := k9c7) (by decide +kernel) rfl rfl rfl (by decide +kernel)
set_option maxRecDepth 65536 in
theorem w_c13 : (Jvm.Cond.code ({ cls := "com/example/wayline/wayline/HeaderReader", name := "<init>", desc := "(Ljava/lang/String;)V" } : Jvm.MethodName) prog_11_method_1_code (2 : Nat) (Option.none : Option Jvm.ClassFile.FieldType)).before args0 about1 = true := code_word (m := ⟨2, 0⟩) (meth := k2m0) (c := k2c0) (by decide +kernel) rfl rfl rfl (by decide +kernel)
set_option maxRecDepth 65536 in
theorem w_c14 : (Jvm.Cond.code ({ cls := "com/example/wayline/wayline/HeaderReader", name := "textBefore", desc := "(C)Ljava/lang/String;" } : Jvm.MethodName) prog_11_method_11_code (4 : Nat) (Option.some (Jvm.ClassFile.FieldType.object "java/lang/String"))).before args0 about1 = true := code_word (m := ⟨2, 2⟩) (meth := k2m2) (c := k2c2) (by decide +kernel) rfl rfl rfl (by decide +kernel)
set_option maxRecDepth 65536 in
theorem w_c15 : (Jvm.Cond.code ({ cls := "java/lang/String", name := "indexOf", desc := "(II)I" } : Jvm.MethodName) jdk_42_method_80_code (3 : Nat) (Option.some Jvm.ClassFile.FieldType.int)).before args0 about1 = true := code_word (m := ⟨8, 4⟩) (meth := k8m4) (c := k8c4) (by decide +kernel) rfl rfl rfl (by decide +kernel)
set_option maxRecDepth 65536 in
theorem w_c16 : (Jvm.Cond.code ({ cls := "java/lang/String", name := "isLatin1", desc := "()Z" } : Jvm.MethodName) jdk_42_method_154_code (1 : Nat) (Option.some Jvm.ClassFile.FieldType.boolean)).before args0 about1 = true := code_word (m := ⟨8, 9⟩) (meth := k8m9) (c := k8c9) (by decide +kernel) rfl rfl rfl (by decide +kernel)
set_option maxRecDepth 65536 in
theorem w_c17 : (Jvm.Cond.code ({ cls := "java/lang/String", name := "length", desc := "()I" } : Jvm.MethodName) jdk_42_method_54_code (1 : Nat) (Option.some Jvm.ClassFile.FieldType.int)).before args0 about1 = true := code_word (m := ⟨8, 2⟩) (meth := k8m2) (c := k8c2) (by decide +kernel) rfl rfl rfl (by decide +kernel)
set_option maxRecDepth 65536 in
theorem w_c18 : (Jvm.Cond.code ({ cls := "java/lang/String", name := "coder", desc := "()B" } : Jvm.MethodName) jdk_42_method_152_code (1 : Nat) (Option.some Jvm.ClassFile.FieldType.byte)).before args0 about1 = true := code_word (m := ⟨8, 8⟩) (meth := k8m8) (c := k8c8) (by decide +kernel) rfl rfl rfl (by decide +kernel)
set_option maxRecDepth 65536 in
theorem w_c19 : (Jvm.Cond.code ({ cls := "java/lang/StringUTF16", name := "indexOf", desc := "([BIII)I" } : Jvm.MethodName) jdk_52_method_40_code (4 : Nat) (Option.some Jvm.ClassFile.FieldType.int)).before args0 about1 = true := code_word (m := ⟨9, 12⟩) (meth := k9m12) (c := k9c12) (by decide +kernel) rfl rfl rfl (by decide +kernel)
set_option maxRecDepth 65536 in
theorem w_c20 : (Jvm.Cond.code ({ cls := "java/lang/Math", name := "max", desc := "(II)I" } : Jvm.MethodName) jdk_29_method_65_code (2 : Nat) (Option.some Jvm.ClassFile.FieldType.int)).before args0 about1 = true := code_word (m := ⟨10, 1⟩) (meth := k10m1) (c := k10c1) (by decide +kernel) rfl rfl rfl (by decide +kernel)
set_option maxRecDepth 65536 in
theorem w_c21 : (Jvm.Cond.code ({ cls := "java/lang/Math", name := "min", desc := "(II)I" } : Jvm.MethodName) jdk_29_method_69_code (2 : Nat) (Option.some Jvm.ClassFile.FieldType.int)).before args0 about1 = true := code_word (m := ⟨10, 2⟩) (meth := k10m2) (c := k10c2) (by decide +kernel) rfl rfl rfl (by decide +kernel)
set_option maxRecDepth 65536 in
theorem w_c22 : (Jvm.Cond.code ({ cls := "java/lang/StringUTF16", name := "indexOfChar", desc := "([BIII)I" } : Jvm.MethodName) jdk_52_method_47_code (4 : Nat) (Option.some Jvm.ClassFile.FieldType.int)).before args0 about1 = true := code_word (m := ⟨9, 13⟩) (meth := k9m13) (c := k9c13) (by decide +kernel) rfl rfl rfl (by decide +kernel)
set_option maxRecDepth 65536 in
theorem w_c23 : (Jvm.Cond.code ({ cls := "java/lang/StringUTF16", name := "checkBoundsBeginEnd", desc := "(II[B)V" } : Jvm.MethodName) jdk_52_method_93_code (3 : Nat) (Option.none : Option Jvm.ClassFile.FieldType)).before args0 about1 = true := code_word (m := ⟨9, 18⟩) (meth := k9m18) (c := k9c18) (by decide +kernel) rfl rfl rfl (by decide +kernel)
set_option maxRecDepth 65536 in
theorem w_c24 : (Jvm.Cond.code ({ cls := "java/lang/StringUTF16", name := "length", desc := "([B)I" } : Jvm.MethodName) jdk_52_method_6_code (1 : Nat) (Option.some Jvm.ClassFile.FieldType.int)).before args0 about1 = true := code_word (m := ⟨9, 5⟩) (meth := k9m5) (c := k9c5) (by decide +kernel) rfl rfl rfl (by decide +kernel)
set_option maxRecDepth 65536 in
theorem w_c25 : (Jvm.Cond.code ({ cls := "java/lang/String", name := "checkBoundsBeginEnd", desc := "(III)V" } : Jvm.MethodName) jdk_42_method_158_code (3 : Nat) (Option.none : Option Jvm.ClassFile.FieldType)).before args0 about1 = true := code_word (m := ⟨8, 12⟩) (meth := k8m12) (c := k8c12) (by decide +kernel) rfl rfl rfl (by decide +kernel)
set_option maxRecDepth 65536 in
theorem w_c26 : (Jvm.Cond.code ({ cls := "jdk/internal/util/Preconditions", name := "checkFromToIndex", desc := "(IIILjava/util/function/BiFunction;)I" } : Jvm.MethodName) jdk_41_method_12_code (4 : Nat) (Option.some Jvm.ClassFile.FieldType.int)).before args0 about1 = true := code_word (m := ⟨11, 2⟩) (meth := k11m2) (c := k11c2) (by decide +kernel) rfl rfl rfl (by decide +kernel)
set_option maxRecDepth 65536 in
theorem w_c27 : (Jvm.Cond.code ({ cls := "java/lang/StringUTF16", name := "indexOfCharUnsafe", desc := "([BIII)I" } : Jvm.MethodName) jdk_52_method_48_code (5 : Nat) (Option.some Jvm.ClassFile.FieldType.int)).before args0 about1 = true := code_word (m := ⟨9, 14⟩) (meth := k9m14) (c := k9c14) (by decide +kernel) rfl rfl rfl (by decide +kernel)
set_option maxRecDepth 65536 in
theorem w_c28 : (Jvm.Cond.code ({ cls := "java/lang/String", name := "substring", desc := "(II)Ljava/lang/String;" } : Jvm.MethodName) jdk_42_method_92_code (5 : Nat) (Option.some (Jvm.ClassFile.FieldType.object "java/lang/String"))).before args0 about1 = true := code_word (m := ⟨8, 5⟩) (meth := k8m5) (c := k8c5) (by decide +kernel) rfl rfl rfl (by decide +kernel)
set_option maxRecDepth 65536 in
theorem w_c29 : (Jvm.Cond.code ({ cls := "java/lang/StringUTF16", name := "newString", desc := "([BII)Ljava/lang/String;" } : Jvm.MethodName) jdk_52_method_69_code (5 : Nat) (Option.some (Jvm.ClassFile.FieldType.object "java/lang/String"))).before args0 about1 = true := code_word (m := ⟨9, 15⟩) (meth := k9m15) (c := k9c15) (by decide +kernel) rfl rfl rfl (by decide +kernel)
set_option maxRecDepth 65536 in
theorem w_c30 : (Jvm.Cond.code ({ cls := "java/lang/StringUTF16", name := "compress", desc := "([BII)[B" } : Jvm.MethodName) jdk_52_method_17_code (6 : Nat) (Option.some (Jvm.ClassFile.FieldType.array Jvm.ClassFile.FieldType.byte))).before args0 about1 = true := code_word (m := ⟨9, 9⟩) (meth := k9m9) (c := k9c9) (by decide +kernel) rfl rfl rfl (by decide +kernel)
set_option maxRecDepth 65536 in
theorem w_c31 : (Jvm.Cond.code ({ cls := "java/lang/StringUTF16", name := "compress", desc := "([BI[BII)I" } : Jvm.MethodName) jdk_52_method_22_code (7 : Nat) (Option.some Jvm.ClassFile.FieldType.int)).before args0 about1 = true := code_word (m := ⟨9, 11⟩) (meth := k9m11) (c := k9c11) (by decide +kernel) rfl rfl rfl (by decide +kernel)
set_option maxRecDepth 65536 in
theorem w_c32 : (Jvm.Cond.code ({ cls := "java/lang/StringUTF16", name := "checkBoundsOffCount", desc := "(II[B)V" } : Jvm.MethodName) jdk_52_method_94_code (3 : Nat) (Option.none : Option Jvm.ClassFile.FieldType)).before args0 about1 = true := code_word (m := ⟨9, 19⟩) (meth := k9m19) (c := k9c19) (by decide +kernel) rfl rfl rfl (by decide +kernel)
set_option maxRecDepth 65536 in
theorem w_c33 : (Jvm.Cond.code ({ cls := "java/lang/String", name := "checkBoundsOffCount", desc := "(III)I" } : Jvm.MethodName) jdk_42_method_157_code (3 : Nat) (Option.some Jvm.ClassFile.FieldType.int)).before args0 about1 = true := code_word (m := ⟨8, 11⟩) (meth := k8m11) (c := k8c11) (by decide +kernel) rfl rfl rfl (by decide +kernel)
set_option maxRecDepth 65536 in
theorem w_c34 : (Jvm.Cond.code ({ cls := "jdk/internal/util/Preconditions", name := "checkFromIndexSize", desc := "(IIILjava/util/function/BiFunction;)I" } : Jvm.MethodName) jdk_41_method_13_code (4 : Nat) (Option.some Jvm.ClassFile.FieldType.int)).before args0 about1 = true := code_word (m := ⟨11, 3⟩) (meth := k11m3) (c := k11c3) (by decide +kernel) rfl rfl rfl (by decide +kernel)
set_option maxRecDepth 65536 in
theorem w_c35 : (Jvm.Cond.code ({ cls := "java/lang/String", name := "<init>", desc := "([BB)V" } : Jvm.MethodName) jdk_42_method_151_code (3 : Nat) (Option.none : Option Jvm.ClassFile.FieldType)).before args0 about1 = true := code_word (m := ⟨8, 7⟩) (meth := k8m7) (c := k8c7) (by decide +kernel) rfl rfl rfl (by decide +kernel)
set_option maxRecDepth 65536 in
theorem w_c36 : (Jvm.Cond.code ({ cls := "com/example/wayline/wayline/HeaderReaderSkipWhiteSpacePinLaw", name := "ws", desc := "(C)Z" } : Jvm.MethodName) method_3_code (1 : Nat) (Option.some Jvm.ClassFile.FieldType.boolean)).before args0 about1 = true := code_word (m := ⟨1, 2⟩) (meth := k1m2) (c := k1c2) (by decide +kernel) rfl rfl rfl (by decide +kernel)
set_option maxRecDepth 65536 in
theorem w_c37 : (Jvm.Cond.code ({ cls := "com/example/wayline/wayline/HeaderReader", name := "skipWhiteSpace", desc := "()V" } : Jvm.MethodName) prog_11_method_14_code (1 : Nat) (Option.none : Option Jvm.ClassFile.FieldType)).before args0 about1 = true := code_word (m := ⟨2, 3⟩) (meth := k2m3) (c := k2c3) (by decide +kernel) rfl rfl rfl (by decide +kernel)
set_option maxRecDepth 65536 in
theorem w_c38 : (Jvm.Cond.code ({ cls := "com/example/wayline/wayline/HeaderReader", name := "atEnd", desc := "()Z" } : Jvm.MethodName) prog_11_method_2_code (1 : Nat) (Option.some Jvm.ClassFile.FieldType.boolean)).before args0 about1 = true := code_word (m := ⟨2, 1⟩) (meth := k2m1) (c := k2c1) (by decide +kernel) rfl rfl rfl (by decide +kernel)
set_option maxRecDepth 65536 in
theorem w_c39 : (Jvm.Cond.code ({ cls := "java/lang/String", name := "charAt", desc := "(I)C" } : Jvm.MethodName) jdk_42_method_56_code (2 : Nat) (Option.some Jvm.ClassFile.FieldType.char)).before args0 about1 = true := code_word (m := ⟨8, 3⟩) (meth := k8m3) (c := k8c3) (by decide +kernel) rfl rfl rfl (by decide +kernel)
set_option maxRecDepth 65536 in
theorem w_c40 : (Jvm.Cond.code ({ cls := "java/lang/StringUTF16", name := "charAt", desc := "([BI)C" } : Jvm.MethodName) jdk_52_method_83_code (2 : Nat) (Option.some Jvm.ClassFile.FieldType.char)).before args0 about1 = true := code_word (m := ⟨9, 16⟩) (meth := k9m16) (c := k9c16) (by decide +kernel) rfl rfl rfl (by decide +kernel)
set_option maxRecDepth 65536 in
theorem w_c41 : (Jvm.Cond.code ({ cls := "java/lang/StringUTF16", name := "checkIndex", desc := "(I[B)V" } : Jvm.MethodName) jdk_52_method_91_code (2 : Nat) (Option.none : Option Jvm.ClassFile.FieldType)).before args0 about1 = true := code_word (m := ⟨9, 17⟩) (meth := k9m17) (c := k9c17) (by decide +kernel) rfl rfl rfl (by decide +kernel)
set_option maxRecDepth 65536 in
theorem w_c42 : (Jvm.Cond.code ({ cls := "java/lang/String", name := "checkIndex", desc := "(II)V" } : Jvm.MethodName) jdk_42_method_155_code (2 : Nat) (Option.none : Option Jvm.ClassFile.FieldType)).before args0 about1 = true := code_word (m := ⟨8, 10⟩) (meth := k8m10) (c := k8c10) (by decide +kernel) rfl rfl rfl (by decide +kernel)
set_option maxRecDepth 65536 in
theorem w_c43 : (Jvm.Cond.code ({ cls := "jdk/internal/util/Preconditions", name := "checkIndex", desc := "(IILjava/util/function/BiFunction;)I" } : Jvm.MethodName) jdk_41_method_11_code (3 : Nat) (Option.some Jvm.ClassFile.FieldType.int)).before args0 about1 = true := code_word (m := ⟨11, 1⟩) (meth := k11m1) (c := k11c1) (by decide +kernel) rfl rfl rfl (by decide +kernel)
set_option maxRecDepth 65536 in
theorem w_c44 : (Jvm.Cond.code ({ cls := "java/util/Arrays", name := "copyOfRange", desc := "([BII)[B" } : Jvm.MethodName) jdk_65_method_132_code (3 : Nat) (Option.some (Jvm.ClassFile.FieldType.array Jvm.ClassFile.FieldType.byte))).before args0 about1 = true := code_word (m := ⟨12, 2⟩) (meth := k12m2) (c := k12c2) (by decide +kernel) rfl rfl rfl (by decide +kernel)
set_option maxRecDepth 65536 in
theorem w_c45 : (Jvm.Cond.code ({ cls := "java/util/Arrays", name := "copyOfRangeByte", desc := "([BII)[B" } : Jvm.MethodName) jdk_65_method_133_code (5 : Nat) (Option.some (Jvm.ClassFile.FieldType.array Jvm.ClassFile.FieldType.byte))).before args0 about1 = true := code_word (m := ⟨12, 3⟩) (meth := k12m3) (c := k12c3) (by decide +kernel) rfl rfl rfl (by decide +kernel)
set_option maxRecDepth 65536 in
theorem w_c46 : (Jvm.Cond.code ({ cls := "java/util/Arrays", name := "checkLength", desc := "(II)V" } : Jvm.MethodName) jdk_65_method_131_code (2 : Nat) (Option.none : Option Jvm.ClassFile.FieldType)).before args0 about1 = true := code_word (m := ⟨12, 1⟩) (meth := k12m1) (c := k12c1) (by decide +kernel) rfl rfl rfl (by decide +kernel)
def codes1 : List Jvm.Cond := [Jvm.Cond.code x code maxLocals ret, Jvm.Cond.code ({ cls := "com/example/wayline/wayline/HeaderReaderSkipWhiteSpacePinLaw", name := "draw", desc := "(I)C" } : Jvm.MethodName) method_2_code (2 : Nat) (Option.some Jvm.ClassFile.FieldType.char), Jvm.Cond.code ({ cls := "java/lang/String", name := "<init>", desc := "([C)V" } : Jvm.MethodName) jdk_42_method_3_code (2 : Nat) (Option.none : Option Jvm.ClassFile.FieldType), Jvm.Cond.code ({ cls := "java/lang/String", name := "<init>", desc := "([CIILjava/lang/Void;)V" } : Jvm.MethodName) jdk_42_method_149_code (6 : Nat) (Option.none : Option Jvm.ClassFile.FieldType), Jvm.Cond.code ({ cls := "java/lang/Object", name := "<init>", desc := "()V" } : Jvm.MethodName) object_method_1_code (1 : Nat) (Option.none : Option Jvm.ClassFile.FieldType), Jvm.Cond.code ({ cls := "java/lang/StringUTF16", name := "compress", desc := "([CII)[B" } : Jvm.MethodName) jdk_52_method_16_code (6 : Nat) (Option.some (Jvm.ClassFile.FieldType.array Jvm.ClassFile.FieldType.byte)), Jvm.Cond.code ({ cls := "java/lang/StringUTF16", name := "compress", desc := "([CI[BII)I" } : Jvm.MethodName) jdk_52_method_21_code (7 : Nat) (Option.some Jvm.ClassFile.FieldType.int), Jvm.Cond.code ({ cls := "java/lang/StringUTF16", name := "toBytes", desc := "([CII)[B" } : Jvm.MethodName) jdk_52_method_14_code (5 : Nat) (Option.some (Jvm.ClassFile.FieldType.array Jvm.ClassFile.FieldType.byte)), Jvm.Cond.code ({ cls := "java/lang/StringUTF16", name := "newBytesFor", desc := "(I)[B" } : Jvm.MethodName) jdk_52_method_2_code (1 : Nat) (Option.some (Jvm.ClassFile.FieldType.array Jvm.ClassFile.FieldType.byte)), Jvm.Cond.code ({ cls := "java/lang/StringUTF16", name := "newBytesLength", desc := "(I)I" } : Jvm.MethodName) jdk_52_method_3_code (1 : Nat) (Option.some Jvm.ClassFile.FieldType.int), Jvm.Cond.code ({ cls := "java/lang/StringUTF16", name := "putChar", desc := "([BII)V" } : Jvm.MethodName) jdk_52_method_4_code (3 : Nat) (Option.none : Option Jvm.ClassFile.FieldType), Jvm.Cond.code ({ cls := "java/lang/StringUTF16", name := "getChar", desc := "([BI)C" } : Jvm.MethodName) jdk_52_method_5_code (2 : Nat) (Option.some Jvm.ClassFile.FieldType.char), Jvm.Cond.code ({ cls := "java/lang/StringUTF16", name := "coderFromArrayLen", desc := "([BI)B" } : Jvm.MethodName) jdk_52_method_15_code (2 : Nat) (Option.some Jvm.ClassFile.FieldType.byte), Jvm.Cond.code ({ cls := "com/example/wayline/wayline/HeaderReader", name := "<init>", desc := "(Ljava/lang/String;)V" } : Jvm.MethodName) prog_11_method_1_code (2 : Nat) (Option.none : Option Jvm.ClassFile.FieldType), Jvm.Cond.code ({ cls := "com/example/wayline/wayline/HeaderReader", name := "textBefore", desc := "(C)Ljava/lang/String;" } : Jvm.MethodName) prog_11_method_11_code (4 : Nat) (Option.some (Jvm.ClassFile.FieldType.object "java/lang/String")), Jvm.Cond.code ({ cls := "java/lang/String", name := "indexOf", desc := "(II)I" } : Jvm.MethodName) jdk_42_method_80_code (3 : Nat) (Option.some Jvm.ClassFile.FieldType.int), Jvm.Cond.code ({ cls := "java/lang/String", name := "isLatin1", desc := "()Z" } : Jvm.MethodName) jdk_42_method_154_code (1 : Nat) (Option.some Jvm.ClassFile.FieldType.boolean), Jvm.Cond.code ({ cls := "java/lang/String", name := "length", desc := "()I" } : Jvm.MethodName) jdk_42_method_54_code (1 : Nat) (Option.some Jvm.ClassFile.FieldType.int), Jvm.Cond.code ({ cls := "java/lang/String", name := "coder", desc := "()B" } : Jvm.MethodName) jdk_42_method_152_code (1 : Nat) (Option.some Jvm.ClassFile.FieldType.byte), Jvm.Cond.code ({ cls := "java/lang/StringUTF16", name := "indexOf", desc := "([BIII)I" } : Jvm.MethodName) jdk_52_method_40_code (4 : Nat) (Option.some Jvm.ClassFile.FieldType.int), Jvm.Cond.code ({ cls := "java/lang/Math", name := "max", desc := "(II)I" } : Jvm.MethodName) jdk_29_method_65_code (2 : Nat) (Option.some Jvm.ClassFile.FieldType.int), Jvm.Cond.code ({ cls := "java/lang/Math", name := "min", desc := "(II)I" } : Jvm.MethodName) jdk_29_method_69_code (2 : Nat) (Option.some Jvm.ClassFile.FieldType.int), Jvm.Cond.code ({ cls := "java/lang/StringUTF16", name := "indexOfChar", desc := "([BIII)I" } : Jvm.MethodName) jdk_52_method_47_code (4 : Nat) (Option.some Jvm.ClassFile.FieldType.int), Jvm.Cond.code ({ cls := "java/lang/StringUTF16", name := "checkBoundsBeginEnd", desc := "(II[B)V" } : Jvm.MethodName) jdk_52_method_93_code (3 : Nat) (Option.none : Option Jvm.ClassFile.FieldType), Jvm.Cond.code ({ cls := "java/lang/StringUTF16", name := "length", desc := "([B)I" } : Jvm.MethodName) jdk_52_method_6_code (1 : Nat) (Option.some Jvm.ClassFile.FieldType.int), Jvm.Cond.code ({ cls := "java/lang/String", name := "checkBoundsBeginEnd", desc := "(III)V" } : Jvm.MethodName) jdk_42_method_158_code (3 : Nat) (Option.none : Option Jvm.ClassFile.FieldType), Jvm.Cond.code ({ cls := "jdk/internal/util/Preconditions", name := "checkFromToIndex", desc := "(IIILjava/util/function/BiFunction;)I" } : Jvm.MethodName) jdk_41_method_12_code (4 : Nat) (Option.some Jvm.ClassFile.FieldType.int), Jvm.Cond.code ({ cls := "java/lang/StringUTF16", name := "indexOfCharUnsafe", desc := "([BIII)I" } : Jvm.MethodName) jdk_52_method_48_code (5 : Nat) (Option.some Jvm.ClassFile.FieldType.int), Jvm.Cond.code ({ cls := "java/lang/String", name := "substring", desc := "(II)Ljava/lang/String;" } : Jvm.MethodName) jdk_42_method_92_code (5 : Nat) (Option.some (Jvm.ClassFile.FieldType.object "java/lang/String")), Jvm.Cond.code ({ cls := "java/lang/StringUTF16", name := "newString", desc := "([BII)Ljava/lang/String;" } : Jvm.MethodName) jdk_52_method_69_code (5 : Nat) (Option.some (Jvm.ClassFile.FieldType.object "java/lang/String")), Jvm.Cond.code ({ cls := "java/lang/StringUTF16", name := "compress", desc := "([BII)[B" } : Jvm.MethodName) jdk_52_method_17_code (6 : Nat) (Option.some (Jvm.ClassFile.FieldType.array Jvm.ClassFile.FieldType.byte)), Jvm.Cond.code ({ cls := "java/lang/StringUTF16", name := "compress", desc := "([BI[BII)I" } : Jvm.MethodName) jdk_52_method_22_code (7 : Nat) (Option.some Jvm.ClassFile.FieldType.int), Jvm.Cond.code ({ cls := "java/lang/StringUTF16", name := "checkBoundsOffCount", desc := "(II[B)V" } : Jvm.MethodName) jdk_52_method_94_code (3 : Nat) (Option.none : Option Jvm.ClassFile.FieldType), Jvm.Cond.code ({ cls := "java/lang/String", name := "checkBoundsOffCount", desc := "(III)I" } : Jvm.MethodName) jdk_42_method_157_code (3 : Nat) (Option.some Jvm.ClassFile.FieldType.int), Jvm.Cond.code ({ cls := "jdk/internal/util/Preconditions", name := "checkFromIndexSize", desc := "(IIILjava/util/function/BiFunction;)I" } : Jvm.MethodName) jdk_41_method_13_code (4 : Nat) (Option.some Jvm.ClassFile.FieldType.int), Jvm.Cond.code ({ cls := "java/lang/String", name := "<init>", desc := "([BB)V" } : Jvm.MethodName) jdk_42_method_151_code (3 : Nat) (Option.none : Option Jvm.ClassFile.FieldType), Jvm.Cond.code ({ cls := "com/example/wayline/wayline/HeaderReaderSkipWhiteSpacePinLaw", name := "ws", desc := "(C)Z" } : Jvm.MethodName) method_3_code (1 : Nat) (Option.some Jvm.ClassFile.FieldType.boolean), Jvm.Cond.code ({ cls := "com/example/wayline/wayline/HeaderReader", name := "skipWhiteSpace", desc := "()V" } : Jvm.MethodName) prog_11_method_14_code (1 : Nat) (Option.none : Option Jvm.ClassFile.FieldType), Jvm.Cond.code ({ cls := "com/example/wayline/wayline/HeaderReader", name := "atEnd", desc := "()Z" } : Jvm.MethodName) prog_11_method_2_code (1 : Nat) (Option.some Jvm.ClassFile.FieldType.boolean), Jvm.Cond.code ({ cls := "java/lang/String", name := "charAt", desc := "(I)C" } : Jvm.MethodName) jdk_42_method_56_code (2 : Nat) (Option.some Jvm.ClassFile.FieldType.char), Jvm.Cond.code ({ cls := "java/lang/StringUTF16", name := "charAt", desc := "([BI)C" } : Jvm.MethodName) jdk_52_method_83_code (2 : Nat) (Option.some Jvm.ClassFile.FieldType.char), Jvm.Cond.code ({ cls := "java/lang/StringUTF16", name := "checkIndex", desc := "(I[B)V" } : Jvm.MethodName) jdk_52_method_91_code (2 : Nat) (Option.none : Option Jvm.ClassFile.FieldType), Jvm.Cond.code ({ cls := "java/lang/String", name := "checkIndex", desc := "(II)V" } : Jvm.MethodName) jdk_42_method_155_code (2 : Nat) (Option.none : Option Jvm.ClassFile.FieldType), Jvm.Cond.code ({ cls := "jdk/internal/util/Preconditions", name := "checkIndex", desc := "(IILjava/util/function/BiFunction;)I" } : Jvm.MethodName) jdk_41_method_11_code (3 : Nat) (Option.some Jvm.ClassFile.FieldType.int), Jvm.Cond.code ({ cls := "java/util/Arrays", name := "copyOfRange", desc := "([BII)[B" } : Jvm.MethodName) jdk_65_method_132_code (3 : Nat) (Option.some (Jvm.ClassFile.FieldType.array Jvm.ClassFile.FieldType.byte)), Jvm.Cond.code ({ cls := "java/util/Arrays", name := "copyOfRangeByte", desc := "([BII)[B" } : Jvm.MethodName) jdk_65_method_133_code (5 : Nat) (Option.some (Jvm.ClassFile.FieldType.array Jvm.ClassFile.FieldType.byte)), Jvm.Cond.code ({ cls := "java/util/Arrays", name := "checkLength", desc := "(II)V" } : Jvm.MethodName) jdk_65_method_131_code (2 : Nat) (Option.none : Option Jvm.ClassFile.FieldType)]
set_option maxRecDepth 65536 in
theorem codes_eq : words1.filter isCode = codes1 := rfl
theorem w_codes : ∀ c ∈ words1.filter isCode, c.before args0 about1 = true := by
  rw [codes_eq]
  intro c hc
  simp only [codes1, List.mem_cons, List.not_mem_nil, or_false] at hc
  rcases hc with rfl | rfl | rfl | rfl | rfl | rfl | rfl | rfl | rfl | rfl | rfl | rfl | rfl | rfl | rfl | rfl | rfl | rfl | rfl | rfl | rfl | rfl | rfl | rfl | rfl | rfl | rfl | rfl | rfl | rfl | rfl | rfl | rfl | rfl | rfl | rfl | rfl | rfl | rfl | rfl | rfl | rfl | rfl | rfl | rfl | rfl | rfl
  · exact w_c0
  · exact w_c1
  · exact w_c2
  · exact w_c3
  · exact w_c4
  · exact w_c5
  · exact w_c6
  · exact w_c7
  · exact w_c8
  · exact w_c9
  · exact w_c10
  · exact w_c11
  · exact w_c12
  · exact w_c13
  · exact w_c14
  · exact w_c15
  · exact w_c16
  · exact w_c17
  · exact w_c18
  · exact w_c19
  · exact w_c20
  · exact w_c21
  · exact w_c22
  · exact w_c23
  · exact w_c24
  · exact w_c25
  · exact w_c26
  · exact w_c27
  · exact w_c28
  · exact w_c29
  · exact w_c30
  · exact w_c31
  · exact w_c32
  · exact w_c33
  · exact w_c34
  · exact w_c35
  · exact w_c36
  · exact w_c37
  · exact w_c38
  · exact w_c39
  · exact w_c40
  · exact w_c41
  · exact w_c42
  · exact w_c43
  · exact w_c44
  · exact w_c45
  · exact w_c46
set_option maxRecDepth 65536 in
theorem w_t1 : (words1.take 24).all (fun c => isCode c || c.before args0 about1) = true := by decide +kernel
set_option maxRecDepth 65536 in
theorem w_t2 : ((words1.drop 24).take 24).all (fun c => isCode c || c.before args0 about1) = true := by decide +kernel
set_option maxRecDepth 65536 in
theorem w_t3 : (((words1.drop 24).drop 24).take 24).all (fun c => isCode c || c.before args0 about1) = true := by decide +kernel
set_option maxRecDepth 65536 in
theorem w_t4 : ((((words1.drop 24).drop 24).drop 24).take 24).all (fun c => isCode c || c.before args0 about1) = true := by decide +kernel
set_option maxRecDepth 65536 in
theorem w_t5 : (((((words1.drop 24).drop 24).drop 24).drop 24).take 24).all (fun c => isCode c || c.before args0 about1) = true := by decide +kernel
set_option maxRecDepth 65536 in
theorem w_t6 : ((((((words1.drop 24).drop 24).drop 24).drop 24).drop 24).take 24).all (fun c => isCode c || c.before args0 about1) = true := by decide +kernel
set_option maxRecDepth 65536 in
theorem w_t7 : (((((((words1.drop 24).drop 24).drop 24).drop 24).drop 24).drop 24).take 24).all (fun c => isCode c || c.before args0 about1) = true := by decide +kernel
set_option maxRecDepth 65536 in
theorem w_t8 : ((((((((words1.drop 24).drop 24).drop 24).drop 24).drop 24).drop 24).drop 24).take 24).all (fun c => isCode c || c.before args0 about1) = true := by decide +kernel
set_option maxRecDepth 65536 in
theorem w_t9 : ((((((((words1.drop 24).drop 24).drop 24).drop 24).drop 24).drop 24).drop 24).drop 24).all (fun c => isCode c || c.before args0 about1) = true := by decide +kernel
theorem w_tables : (allAtoms (Jvm.Cond.code x code maxLocals ret :: tables_1)).before args0 about1 = true := by
  rw [allAtoms_all]
  show words1.all (fun c => c.before args0 about1) = true
  refine all_split ?_ w_codes
  rw [← List.take_append_drop 24 words1, List.all_append, w_t1, ← List.take_append_drop 24 (words1.drop 24), List.all_append, w_t2, ← List.take_append_drop 24 ((words1.drop 24).drop 24), List.all_append, w_t3, ← List.take_append_drop 24 (((words1.drop 24).drop 24).drop 24), List.all_append, w_t4, ← List.take_append_drop 24 ((((words1.drop 24).drop 24).drop 24).drop 24), List.all_append, w_t5, ← List.take_append_drop 24 (((((words1.drop 24).drop 24).drop 24).drop 24).drop 24), List.all_append, w_t6, ← List.take_append_drop 24 ((((((words1.drop 24).drop 24).drop 24).drop 24).drop 24).drop 24), List.all_append, w_t7, ← List.take_append_drop 24 (((((((words1.drop 24).drop 24).drop 24).drop 24).drop 24).drop 24).drop 24), List.all_append, w_t8, w_t9]
  rfl
set_option maxRecDepth 65536 in
theorem w_rest : rest_1_c.before args0 about1 = true := by decide +kernel
set_option maxRecDepth 65536 in
theorem w_case : (Jvm.Cond.and given_1 narrow_1).before args0 about1 = true := by decide +kernel
set_option maxRecDepth 65536 in
theorem w_consts : constsHeld consts_1 about1 := Jvm.Lit.constsHeldB_iff.mp (by decide +kernel)
theorem w_applies : (headSpec (Jvm.Cond.code x code maxLocals ret :: tables_1) room_1).applies x e0.platform about1 = true :=
  (Spec.applies_iff w_frames).mpr ⟨w_running, w_runnable, w_alone, w_named, w_hears, w_ripe, w_room, w_tables⟩
theorem atStart : AtStart classFile x code maxLocals ret World_1 tables_1 room_1 Calls_1 rest_1 Pre_1 launch0 p0 e0 about1 theMethod args0 below0 :=
  ⟨lists_1, trivial, launch0.admits_env _ _ _, launch0.least_env, fairChoices_fair.cas, fairChoices_fair.clock, w_frames, w_args, w_heap, w_applies, ⟨w_consts, trivial⟩, w_rest, w_case⟩
end start1
theorem witness_1 : WitnessClaimed_1 := ⟨start1.p0, start1.e0, start1.about1, start1.theMethod, start1.args0, start1.below0, start1.atStart⟩
end Jvm.Pilot.@@N@@
