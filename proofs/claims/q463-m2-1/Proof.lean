import JvmDerived
import JvmDerived.Pilot.@@N@@Statement
import JvmDerived.Pilot.@@N@@Code
set_option linter.unusedVariables false
set_option linter.unusedSimpArgs false
/- laws to paste: Road.backV (cut by pick.py; bodies as the Statement names them) -/
namespace Jvm.Pilot.@@N@@
namespace StrChars
open Jvm Sem ClassFile Op Lib Jvm.Stand Jvm.Free.XT Jvm.Free.ALB Jvm.Free.JM Jvm.Free
open Jvm.Lib.Cold (StaticIs)
/-- a char array whose places are chars -/
def Ch (a : Addr) (A : Cell) (U : State) : Prop := Arr .char a A U ∧ Typed .char A
theorem Ch.mv {a : Addr} {A : Cell} {U U' : State} (h : Ch a A U) (hal : U.vm.Alike U'.vm) (hh : U'.heap = U.heap) : Ch a A U' := ⟨h.1.mv hal hh, h.2⟩
theorem Ch.keep {a : Addr} {A : Cell} {U U' : State} (h : Ch a A U) (hal : U.vm.Alike U'.vm) (hk : U'.heap[a]? = some A) : Ch a A U' := ⟨h.1.keep hal hk, h.2⟩
/-- what place i of a char[]'s cell holds -/
def cv (A : Cell) (i : Nat) : Int32 := match A.slots[i]? with | some (.int x) => x | _ => 0
theorem Ch.get {a : Addr} {A : Cell} {U : State} (h : Ch a A U) {i : Nat} (hi : i < A.slots.size) : A.slots[i]? = some (.int (cv A i)) := by
  have e := Array.getElem?_eq_getElem hi
  have f := h.2 i _ e
  unfold cv; rw [e]
  generalize A.slots[i] = v at f
  cases v <;> simp [fits] at f ⊢
/-- the byte that i2b leaves of a char -/
def lo8 (x : Int32) : Int32 := x.toInt8.toInt32
theorem fits_lo8 (y : Int32) : fits .byte (.int (lo8 y)) = true := by
  have h1 := y.toInt8.le_toInt
  have h2 := y.toInt8.toInt_lt
  simp only [lo8, fits, Bool.and_eq_true, decide_eq_true_eq, Int32.le_iff_toInt_le, Int8.toInt_toInt32, show (-128 : Int32).toInt = -128 from by decide, show (127 : Int32).toInt = 127 from by decide]
  omega
/-- A' is A but that each place j of lo .. hi - 1 holds f j -/
def Laid (A A' : Cell) (lo hi : Nat) (f : Nat → Value) : Prop := A'.cls = A.cls ∧ A'.vm = A.vm ∧ A'.slots.size = A.slots.size ∧ ∀ i, A'.slots[i]? = if lo ≤ i ∧ i < hi then some (f i) else A.slots[i]?
theorem Laid.zero (A : Cell) (lo : Nat) (f : Nat → Value) : Laid A A lo (lo + 0) f := ⟨rfl, rfl, rfl, fun i => by rw [if_neg (by omega)]⟩
theorem Laid.step {A Ak : Cell} {lo k : Nat} {f : Nat → Value} {v : Value} (h : Laid A Ak lo k f) (hlo : lo ≤ k) (hk : k < Ak.slots.size) (hv : v = f k) : Laid A (Ak.setSlot k v) lo (k + 1) f := by
  refine ⟨h.1, h.2.1, by simpa [Cell.setSlot] using h.2.2.1, fun i => ?_⟩
  by_cases e : k = i
  · subst e; rw [Cell.slots_setSlot_self v hk, if_pos (by omega), hv]
  · rw [Cell.slots_setSlot_ne v e, h.2.2.2 i]
    by_cases q : lo ≤ i ∧ i < k
    · rw [if_pos q, if_pos (by omega)]
    · rw [if_neg q, if_neg (by omega)]
def U16 : String := "java/lang/StringUTF16"
namespace Cmp5
def yN : MethodName := ⟨"java/lang/StringUTF16", "compress", "([CI[BII)I"⟩
abbrev yB : ByteArray := jdk_52_method_21_code
theorem d0 : decode yB 0 = .ok (.iconst 0, 1) := by decide +kernel
theorem d1 : decode yB 1 = .ok (.istore 5, 2) := by decide +kernel
theorem d3 : decode yB 3 = .ok (.iload 5, 2) := by decide +kernel
theorem d5 : decode yB 5 = .ok (.iload 4, 2) := by decide +kernel
theorem d7 : decode yB 7 = .ok (.if_icmp (.ge) 37, 3) := by decide +kernel
theorem d10 : decode yB 10 = .ok (.aload_n 0, 1) := by decide +kernel
theorem d11 : decode yB 11 = .ok (.iload_n 1, 1) := by decide +kernel
theorem d12 : decode yB 12 = .ok (.caload, 1) := by decide +kernel
theorem d13 : decode yB 13 = .ok (.istore 6, 2) := by decide +kernel
theorem d15 : decode yB 15 = .ok (.iload 6, 2) := by decide +kernel
theorem d17 : decode yB 17 = .ok (.sipush 255, 3) := by decide +kernel
theorem d20 : decode yB 20 = .ok (.if_icmp (.le) 6, 3) := by decide +kernel
theorem d26 : decode yB 26 = .ok (.aload_n 2, 1) := by decide +kernel
theorem d27 : decode yB 27 = .ok (.iload_n 3, 1) := by decide +kernel
theorem d28 : decode yB 28 = .ok (.iload 6, 2) := by decide +kernel
theorem d30 : decode yB 30 = .ok (.i2b, 1) := by decide +kernel
theorem d31 : decode yB 31 = .ok (.bastore, 1) := by decide +kernel
theorem d32 : decode yB 32 = .ok (.iinc 1 1, 3) := by decide +kernel
theorem d35 : decode yB 35 = .ok (.iinc 3 1, 3) := by decide +kernel
theorem d38 : decode yB 38 = .ok (.iinc 5 1, 3) := by decide +kernel
theorem d41 : decode yB 41 = .ok (.goto (-38), 3) := by decide +kernel
theorem d44 : decode yB 44 = .ok (.iload 4, 2) := by decide +kernel
theorem d46 : decode yB 46 = .ok (.ireturn, 1) := by decide +kernel
def site : List Cond := []
def tab : Cond := tabOf yN yB 7 (some .int) site
def P (b : Addr) (A : Cell) (d : Addr) (B : Cell) (o q len : Nat) (args : Array Value) (s : State) : Prop := args = #[.ref b, .int (Int32.ofNat o), .ref d, .int (Int32.ofNat q), .int (Int32.ofNat len)] ∧ Ch b A s ∧ Arr .byte d B s ∧ b ≠ d ∧ o + len ≤ A.slots.size ∧ q + len ≤ B.slots.size ∧ ∀ i, i < len → ¬ 255 < cv A (o + i)
def E (b : Addr) (A : Cell) (d : Addr) (B : Cell) (o q len : Nat) (r : Option Value) (s u : State) : Prop := r = some (.int (Int32.ofNat len)) ∧ ∃ B', Put d B' s u ∧ Laid B B' q (q + len) (fun j => Value.int (lo8 (cv A (o + (j - q)))))
/-- no char of the range above 255: len; the places written hold each char's low byte -/
theorem law (l : Launch) (b : Addr) (A : Cell) (d : Addr) (B : Cell) (o q len : Nat) : Law l yN 5 5 0 0 yB 7 (some .int) site (P b A d B o q len) (E b A d B o q len) (copyLocs d q len) 0 0 := by
  refine Law.of_walk (plainFor_of_name (by decide +kernel)) (by decide +kernel) (by decide +kernel) (by decide) (fun _ _ h => by rw [h.1]; rfl) (fun _ U U' hal hh h => ⟨h.1, h.2.1.mv hal hh, h.2.2.1.mv hal hh, h.2.2.2⟩) (fun r U U' V V' h1 hal h2 h => ⟨h.1, h.2.elim fun B' q => ⟨B', q.1.mv h1 h2, q.2⟩⟩) ?_
  intro p e s m args below meth c s₁ X0 hexec hbytes hml hret hlk hnm hown hh0 W hP
  obtain ⟨rfl, hA, hB, hne, l1, l2, hp⟩ := hP
  have c1 : Steps p.tables e below (s₁.setTop (entryFrame m #[.ref b, .int (Int32.ofNat o), .ref d, .int (Int32.ofNat q), .int (Int32.ofNat len)] 7)) (s₁.setTop (mkF m 0 #[.val (.ref b), .val (.int (Int32.ofNat o)), .val (.ref d), .val (.int (Int32.ofNat q)), .val (.int (Int32.ofNat len)), .unset, .unset] [])) := entry rfl
  have hA0 := hA.1.mv X0.warmed.alike hh0
  have hB0 := hB.mv X0.warmed.alike hh0
  have a31 := hA.1.2.2.2
  have c2 : Steps p.tables e below (s₁.setTop (entryFrame m #[.ref b, .int (Int32.ofNat o), .ref d, .int (Int32.ofNat q), .int (Int32.ofNat len)] 7)) (s₁.setTop (mkF m 3 #[.val (.ref b), .val (.int (Int32.ofNat o)), .val (.ref d), .val (.int (Int32.ofNat q)), .val (.int (Int32.ofNat len)), .val (.int 0), .unset] [])) := c1.trans (by
    refine iconstV X0.here hexec rfl 0 (hb hbytes d0) (by decide) ?_
    refine XS.istore X0.here hexec rfl (hb hbytes d1) rfl rfl ?_
    exact Steps.refl _)
  have loop : ∀ (r i : Nat), i + r = len → ∀ (z : Slot), (z = .unset ∨ ∃ w, z = .val w ∧ w.category = 1) → ∀ (Tl : State) (Bk : Cell), Stand p l e { frames := 0, locals := 0, cells := 0, slots := 0 } s m #[.ref b, .int (Int32.ofNat o), .ref d, .int (Int32.ofNat q), .int (Int32.ofNat len)] below meth c Tl ([] ++ copyLocs d q i) 0 0 → Put d Bk s₁ Tl → Laid B Bk q (q + i) (fun j => Value.int (lo8 (cv A (o + (j - q))))) →
      Steps p.tables e below (s₁.setTop (entryFrame m #[.ref b, .int (Int32.ofNat o), .ref d, .int (Int32.ofNat q), .int (Int32.ofNat len)] 7)) (Tl.setTop (mkF m 3 #[.val (.ref b), .val (.int (Int32.ofNat (o + i))), .val (.ref d), .val (.int (Int32.ofNat (q + i))), .val (.int (Int32.ofNat len)), .val (.int (Int32.ofNat i)), z] [])) → ∃ (T' : State) (B' : Cell) (z' : Slot), Stand p l e { frames := 0, locals := 0, cells := 0, slots := 0 } s m #[.ref b, .int (Int32.ofNat o), .ref d, .int (Int32.ofNat q), .int (Int32.ofNat len)] below meth c T' ([] ++ copyLocs d q len) 0 0 ∧ Put d B' s₁ T' ∧ Laid B B' q (q + len) (fun j => Value.int (lo8 (cv A (o + (j - q))))) ∧
      Steps p.tables e below (s₁.setTop (entryFrame m #[.ref b, .int (Int32.ofNat o), .ref d, .int (Int32.ofNat q), .int (Int32.ofNat len)] 7)) (T'.setTop (mkF m 3 #[.val (.ref b), .val (.int (Int32.ofNat (o + len))), .val (.ref d), .val (.int (Int32.ofNat (q + len))), .val (.int (Int32.ofNat len)), .val (.int (Int32.ofNat len)), z'] [])) := by
    intro r
    induction r with
    | zero =>
      intro i hi z hz Tl Bk Xl pl fl cl
      have hil : i = len := by omega
      rw [hil] at Xl fl cl
      exact ⟨Tl, Bk, z, Xl, pl, fl, cl⟩
    | succ r ih =>
      intro i hi z hz Tl Bk Xl pl fl cl
      have all := X0.warmed.alike.symm.trans Xl.warmed.alike
      have hAl := hA0.keep all (pl.other hne hA0.1)
      have hBk := hB0.like all pl.1 fl.1 fl.2.1 fl.2.2.1
      have hlt : q + i < Bk.slots.size := by rw [fl.2.2.1]; omega
      have c3 : Steps p.tables e below (s₁.setTop (entryFrame m #[.ref b, .int (Int32.ofNat o), .ref d, .int (Int32.ofNat q), .int (Int32.ofNat len)] 7)) (Tl.setTop (mkF m 12 #[.val (.ref b), .val (.int (Int32.ofNat (o + i))), .val (.ref d), .val (.int (Int32.ofNat (q + i))), .val (.int (Int32.ofNat len)), .val (.int (Int32.ofNat i)), z] [.int (Int32.ofNat (o + i)), .ref b])) := cl.trans (by
        refine XS.iload Xl.here hexec rfl (hb hbytes d3) rfl ?_
        refine XS.iload Xl.here hexec rfl (hb hbytes d5) rfl ?_
        refine XS.icmpNo Xl.here hexec rfl (hb hbytes d7) rfl (ii_ge_f (lt32 (by omega) (by omega))) ?_
        refine XS.aloadN Xl.here hexec rfl (hb hbytes d10) rfl rfl ?_
        refine XS.iloadN Xl.here hexec rfl (hb hbytes d11) rfl ?_
        exact Steps.refl _)
      have c4 : Steps p.tables e below (s₁.setTop (entryFrame m #[.ref b, .int (Int32.ofNat o), .ref d, .int (Int32.ofNat q), .int (Int32.ofNat len)] 7)) (Tl.setTop (mkF m 13 #[.val (.ref b), .val (.int (Int32.ofNat (o + i))), .val (.ref d), .val (.int (Int32.ofNat (q + i))), .val (.int (Int32.ofNat len)), .val (.int (Int32.ofNat i)), z] [.int (cv A (o + i))])) := c3.trans (by
        refine Xl.aget hexec hAl rfl (hA.get (i := o + i) (by omega)) rfl rfl (hb hbytes d12) ?_
        exact Steps.refl _)
      have c5 : Steps p.tables e below (s₁.setTop (entryFrame m #[.ref b, .int (Int32.ofNat o), .ref d, .int (Int32.ofNat q), .int (Int32.ofNat len)] 7)) (Tl.setTop (mkF m 15 #[.val (.ref b), .val (.int (Int32.ofNat (o + i))), .val (.ref d), .val (.int (Int32.ofNat (q + i))), .val (.int (Int32.ofNat len)), .val (.int (Int32.ofNat i)), .val (.int (cv A (o + i)))] [])) := c4.trans (by
        refine XS.istoreS Xl.here hexec rfl (hb hbytes d13) rfl rfl hz ?_
        exact Steps.refl _)
      have c6 : Steps p.tables e below (s₁.setTop (entryFrame m #[.ref b, .int (Int32.ofNat o), .ref d, .int (Int32.ofNat q), .int (Int32.ofNat len)] 7)) (Tl.setTop (mkF m 31 #[.val (.ref b), .val (.int (Int32.ofNat (o + i))), .val (.ref d), .val (.int (Int32.ofNat (q + i))), .val (.int (Int32.ofNat len)), .val (.int (Int32.ofNat i)), .val (.int (cv A (o + i)))] [.int (lo8 (cv A (o + i))), .int (Int32.ofNat (q + i)), .ref d])) := c5.trans (by
        refine XS.iload Xl.here hexec rfl (hb hbytes d15) rfl ?_
        refine sipushV Xl.here hexec rfl 255 (hb hbytes d17) (by decide) ?_
        refine XS.icmpYes Xl.here hexec rfl (pc0 := 20) rfl (hb hbytes d20) rfl (ii_le_t (hp i (by omega))) (by decide) rfl ?_
        refine XS.aloadN Xl.here hexec rfl (hb hbytes d26) rfl rfl ?_
        refine XS.iloadN Xl.here hexec rfl (hb hbytes d27) rfl ?_
        refine XS.iload Xl.here hexec rfl (hb hbytes d28) rfl ?_
        refine i2b Xl.here hexec rfl (hb hbytes d30) rfl ?_
        exact Steps.refl _)
      obtain ⟨T7, X7, p7, st7⟩ := Xl.aput hexec hBk rfl hlt rfl (fits_lo8 (cv A (o + i))) (g := (mkF m 31 #[.val (.ref b), .val (.int (Int32.ofNat (o + i))), .val (.ref d), .val (.int (Int32.ofNat (q + i))), .val (.int (Int32.ofNat len)), .val (.int (Int32.ofNat i)), .val (.int (cv A (o + i)))] [.int (lo8 (cv A (o + i))), .int (Int32.ofNat (q + i)), .ref d])) rfl (rest := []) rfl (hb hbytes d31)
      have c8 : Steps p.tables e below (s₁.setTop (entryFrame m #[.ref b, .int (Int32.ofNat o), .ref d, .int (Int32.ofNat q), .int (Int32.ofNat len)] 7)) (T7.setTop (mkF m 32 #[.val (.ref b), .val (.int (Int32.ofNat (o + i))), .val (.ref d), .val (.int (Int32.ofNat (q + i))), .val (.int (Int32.ofNat len)), .val (.int (Int32.ofNat i)), .val (.int (cv A (o + i)))] [])) := c6.trans (st7 _ (Steps.refl _))
      have c9 : Steps p.tables e below (s₁.setTop (entryFrame m #[.ref b, .int (Int32.ofNat o), .ref d, .int (Int32.ofNat q), .int (Int32.ofNat len)] 7)) (T7.setTop (mkF m 3 #[.val (.ref b), .val (.int (Int32.ofNat (o + i) + 1)), .val (.ref d), .val (.int (Int32.ofNat (q + i) + 1)), .val (.int (Int32.ofNat len)), .val (.int (Int32.ofNat i + 1)), .val (.int (cv A (o + i)))] [])) := c8.trans (by
        refine iincV X7.here hexec rfl 1 (hb hbytes d32) (by decide) rfl rfl ?_
        refine iincV X7.here hexec rfl 1 (hb hbytes d35) (by decide) rfl rfl ?_
        refine iincV X7.here hexec rfl 1 (hb hbytes d38) (by decide) rfl rfl ?_
        refine XS.goto X7.here hexec rfl (pc0 := 41) rfl (hb hbytes d41) (by decide) rfl ?_
        exact Steps.refl _)
      have c10 : Steps p.tables e below (s₁.setTop (entryFrame m #[.ref b, .int (Int32.ofNat o), .ref d, .int (Int32.ofNat q), .int (Int32.ofNat len)] 7)) (T7.setTop (mkF m 3 #[.val (.ref b), .val (.int (Int32.ofNat (o + (i + 1)))), .val (.ref d), .val (.int (Int32.ofNat (q + (i + 1)))), .val (.int (Int32.ofNat len)), .val (.int (Int32.ofNat (i + 1))), .val (.int (cv A (o + i)))] [])) := by
        have := c9
        rw [succ32, succ32, succ32] at this
        exact this
      exact ih (i + 1) (by omega) _ (Or.inr ⟨_, rfl, rfl⟩) T7 _ (by rw [copyLocs_step, ← List.append_assoc]; exact X7) (pl.trans p7) (fl.step (by omega) hlt (by simp)) c10
  obtain ⟨T9, B9, z9, X9, p9, f9, g9⟩ := loop len 0 (by omega) .unset (Or.inl rfl) s₁ B (by simpa [copyLocs] using X0) ⟨hB0.1, fun _ _ => rfl, rfl⟩ (Laid.zero _ _ _) c2
  have c11 : Steps p.tables e below (s₁.setTop (entryFrame m #[.ref b, .int (Int32.ofNat o), .ref d, .int (Int32.ofNat q), .int (Int32.ofNat len)] 7)) (T9.setTop (mkF m 46 #[.val (.ref b), .val (.int (Int32.ofNat (o + len))), .val (.ref d), .val (.int (Int32.ofNat (q + len))), .val (.int (Int32.ofNat len)), .val (.int (Int32.ofNat len)), z9] [.int (Int32.ofNat len)])) := g9.trans (by
    refine XS.iload X9.here hexec rfl (hb hbytes d3) rfl ?_
    refine XS.iload X9.here hexec rfl (hb hbytes d5) rfl ?_
    refine XS.icmpYes X9.here hexec rfl (pc0 := 7) rfl (hb hbytes d7) rfl (ii_ge_t (nlt32 (by omega) (Nat.le_refl _))) (by decide) rfl ?_
    refine XS.iload X9.here hexec rfl (hb hbytes d44) rfl ?_
    exact Steps.refl _)
  exact ⟨T9, some (.int (Int32.ofNat len)), _, _, _, X9, by simp, rfl, rfl, (fun h => by cases h), ⟨rfl, B9, p9.from hh0, f9⟩, fun fs hl => c11.trans (X9.ireturnOut hexec hret rfl (Or.inl rfl) (hb hbytes d46) hl)⟩
end Cmp5
namespace Cmp3
def yN : MethodName := ⟨"java/lang/StringUTF16", "compress", "([CII)[B"⟩
abbrev yB : ByteArray := jdk_52_method_16_code
theorem d0 : decode yB 0 = .ok (.iload_n 2, 1) := by decide +kernel
theorem d1 : decode yB 1 = .ok (.newarray .byte, 2) := by decide +kernel
theorem d3 : decode yB 3 = .ok (.astore_n 3, 1) := by decide +kernel
theorem d4 : decode yB 4 = .ok (.aload_n 0, 1) := by decide +kernel
theorem d5 : decode yB 5 = .ok (.iload_n 1, 1) := by decide +kernel
theorem d6 : decode yB 6 = .ok (.aload_n 3, 1) := by decide +kernel
theorem d7 : decode yB 7 = .ok (.iconst 0, 1) := by decide +kernel
theorem d8 : decode yB 8 = .ok (.iload_n 2, 1) := by decide +kernel
theorem d9 : decode yB 9 = .ok (.invokestatic 115, 3) := by decide +kernel
theorem d12 : decode yB 12 = .ok (.istore 4, 2) := by decide +kernel
theorem d14 : decode yB 14 = .ok (.iload 4, 2) := by decide +kernel
theorem d16 : decode yB 16 = .ok (.iload_n 2, 1) := by decide +kernel
theorem d17 : decode yB 17 = .ok (.if_icmp (.eq) 40, 3) := by decide +kernel
theorem d57 : decode yB 57 = .ok (.aload_n 3, 1) := by decide +kernel
theorem d58 : decode yB 58 = .ok (.areturn, 1) := by decide +kernel
def site : List Cond := [.arrayClass .byte, Cmp5.tab] ++ staticW U16 115 Cmp5.yN
def tab : Cond := tabOf yN yB 6 (some (.array .byte)) site
def P (b : Addr) (A : Cell) (o len : Nat) (args : Array Value) (s : State) : Prop := args = #[.ref b, .int (Int32.ofNat o), .int (Int32.ofNat len)] ∧ Ch b A s ∧ o + len ≤ A.slots.size ∧ len ≤ 536870912 ∧ ∀ i, i < len → ¬ 255 < cv A (o + i)
def E (b : Addr) (A : Cell) (o len : Nat) (r : Option Value) (s u : State) : Prop := NewArr .byte "[B" len (fun j => .int (lo8 (cv A (o + j)))) r s u ∧ u.heap.size = s.heap.size + 1
/-- no char of the range above 255: a new byte[] of their low bytes -/
theorem law (l : Launch) (b : Addr) (A : Cell) (o len : Nat) : Law l yN 3 3 1 18 yB 6 (some (.array .byte)) site (P b A o len) (E b A o len) [] 1 len := by
  refine Law.of_walk (plainFor_of_name (by decide +kernel)) (by decide +kernel) (by decide +kernel) (by decide) (fun _ _ h => by rw [h.1]; rfl) (fun _ U U' hal hh h => ⟨h.1, h.2.1.mv hal hh, h.2.2⟩) (fun r U U' V V' h1 hal h2 h => ⟨NewArr.mv r U U' V V' h1 hal h2 h.1, by rw [h1, h2]; exact h.2⟩) ?_
  intro p e s m args below meth c s₁ X0 hexec hbytes hml hret hlk hnm hown hh0 W hP
  obtain ⟨rfl, hA, l1, l2, hp⟩ := hP
  have a31 := hA.1.2.2.2
  have c1 : Steps p.tables e below (s₁.setTop (entryFrame m #[.ref b, .int (Int32.ofNat o), .int (Int32.ofNat len)] 6)) (s₁.setTop (mkF m 0 #[.val (.ref b), .val (.int (Int32.ofNat o)), .val (.int (Int32.ofNat len)), .unset, .unset, .unset] [])) := entry rfl
  have c2 : Steps p.tables e below (s₁.setTop (entryFrame m #[.ref b, .int (Int32.ofNat o), .int (Int32.ofNat len)] 6)) (s₁.setTop (mkF m 1 #[.val (.ref b), .val (.int (Int32.ofNat o)), .val (.int (Int32.ofNat len)), .unset, .unset, .unset] [.int (Int32.ofNat len)])) := c1.trans (by
    refine XS.iloadN X0.here hexec rfl (hb hbytes d0) rfl ?_
    exact Steps.refl _)
  obtain ⟨T3, B3, X3, ba3, bs3, bv3, bh3, bf3, st3⟩ := X0.anew hexec (atype := .byte) (wk W (.arrayClass .byte)) rfl (by show len * 1 ≤ _; omega) (by omega) (g := (mkF m 1 #[.val (.ref b), .val (.int (Int32.ofNat o)), .val (.int (Int32.ofNat len)), .unset, .unset, .unset] [.int (Int32.ofNat len)])) rfl (hb hbytes d1) (rest := []) rfl (Nat.le_refl _) (by show 0 + len ≤ len; omega)
  rw [hh0] at ba3 st3
  have kp3 : XT.Kept s T3 := (XT.Kept.of_eq hh0).push bh3
  have hA3 := hA.keep X3.warmed.alike (kp3 _ _ hA.1.1)
  have hne : b ≠ s.heap.size := hA.1.ne
  have c4 : Steps p.tables e below (s₁.setTop (entryFrame m #[.ref b, .int (Int32.ofNat o), .int (Int32.ofNat len)] 6)) (T3.setTop (mkF m 3 #[.val (.ref b), .val (.int (Int32.ofNat o)), .val (.int (Int32.ofNat len)), .unset, .unset, .unset] [.ref s.heap.size])) := c2.trans (st3 _ (Steps.refl _))
  have c5 : Steps p.tables e below (s₁.setTop (entryFrame m #[.ref b, .int (Int32.ofNat o), .int (Int32.ofNat len)] 6)) (T3.setTop (mkF m 9 #[.val (.ref b), .val (.int (Int32.ofNat o)), .val (.int (Int32.ofNat len)), .val (.ref s.heap.size), .unset, .unset] [.int (Int32.ofNat len), .int 0, .ref s.heap.size, .int (Int32.ofNat o), .ref b])) := c4.trans (by
    refine XS.astoreN X3.here hexec rfl (hb hbytes d3) rfl rfl rfl ?_
    refine XS.aloadN X3.here hexec rfl (hb hbytes d4) rfl rfl ?_
    refine XS.iloadN X3.here hexec rfl (hb hbytes d5) rfl ?_
    refine XS.aloadN X3.here hexec rfl (hb hbytes d6) rfl rfl ?_
    refine iconstV X3.here hexec rfl 0 (hb hbytes d7) (by decide) ?_
    refine XS.iloadN X3.here hexec rfl (hb hbytes d8) rfl ?_
    exact Steps.refl _)
  obtain ⟨v6, T6, X6, E6, g6⟩ := X3.callS hexec (Cmp5.law l b A s.heap.size B3 o 0 len) hown (wks W (staticW U16 115 Cmp5.yN)) (wk W Cmp5.tab) (W := 0) (Nat.le_of_ble_eq_true rfl) (Nat.le_of_ble_eq_true rfl) (Nat.le_refl _) (by show 0 + len + 0 ≤ len; omega) (g := (mkF m 9 #[.val (.ref b), .val (.int (Int32.ofNat o)), .val (.int (Int32.ofNat len)), .val (.ref s.heap.size), .unset, .unset] [.int (Int32.ofNat len), .int (Int32.ofNat 0), .ref s.heap.size, .int (Int32.ofNat o), .ref b])) rfl (by rw [hml]; rfl) c5 (argsL := [.ref b, .int (Int32.ofNat o), .ref s.heap.size, .int (Int32.ofNat 0), .int (Int32.ofNat len)]) (rest := []) rfl rfl (by show 2 * 0 + 0 ≤ _; decide) (hb hbytes d9) (⟨rfl, hA3, ba3, hne, l1, by rw [bs3]; simp, hp⟩)
  obtain ⟨rfl, B6, p6, f6⟩ := E6
  have c7 : Steps p.tables e below (s₁.setTop (entryFrame m #[.ref b, .int (Int32.ofNat o), .int (Int32.ofNat len)] 6)) (T6.setTop (mkF m 12 #[.val (.ref b), .val (.int (Int32.ofNat o)), .val (.int (Int32.ofNat len)), .val (.ref s.heap.size), .unset, .unset] [.int (Int32.ofNat len)])) := g6
  have c8 : Steps p.tables e below (s₁.setTop (entryFrame m #[.ref b, .int (Int32.ofNat o), .int (Int32.ofNat len)] 6)) (T6.setTop (mkF m 58 #[.val (.ref b), .val (.int (Int32.ofNat o)), .val (.int (Int32.ofNat len)), .val (.ref s.heap.size), .val (.int (Int32.ofNat len)), .unset] [.ref s.heap.size])) := c7.trans (by
    refine XS.istore X6.here hexec rfl (hb hbytes d12) rfl rfl ?_
    refine XS.iload X6.here hexec rfl (hb hbytes d14) rfl ?_
    refine XS.iloadN X6.here hexec rfl (hb hbytes d16) rfl ?_
    refine XS.icmpYes X6.here hexec rfl (pc0 := 17) rfl (hb hbytes d17) rfl (ii_eq_t rfl) (by decide) rfl ?_
    refine XS.aloadN X6.here hexec rfl (hb hbytes d57) rfl rfl ?_
    exact Steps.refl _)
  have X8 := X6.wide (L' := []) (cells' := 1) (slots' := len) (fun x hx hlt => by
    simp only [List.nil_append, copyLocs, List.mem_map, List.mem_range] at hx
    obtain ⟨i, -, rfl⟩ := hx
    exact absurd hlt (Nat.lt_irrefl _)) (Nat.le_refl _) (by omega)
  exact ⟨T6, some (.ref s.heap.size), _, _, _, X8, rfl, rfl, rfl, (fun h => by cases h), ⟨⟨rfl, B6, ba3.like (X3.warmed.alike.symm.trans X6.warmed.alike) p6.1 f6.1 f6.2.1 f6.2.2.1, f6.2.1.trans bv3, by rw [X6.warmed.alike.findClass, f6.1]; exact bf3, by rw [f6.2.2.1, bs3]; simp, fun j hj => by rw [f6.2.2.2 j, if_pos (by omega)]; rfl, kp3.put p6 (Nat.le_refl _)⟩, by rw [p6.2.2, bh3, hh0]; simp⟩, fun fs hl => c8.trans (X8.areturnOut hexec rfl hret rfl (hb hbytes d58) hl)⟩
end Cmp3
namespace CodL
def yN : MethodName := ⟨"java/lang/StringUTF16", "coderFromArrayLen", "([BI)B"⟩
abbrev yB : ByteArray := jdk_52_method_15_code
theorem d0 : decode yB 0 = .ok (.iload_n 1, 1) := by decide +kernel
theorem d1 : decode yB 1 = .ok (.aload_n 0, 1) := by decide +kernel
theorem d2 : decode yB 2 = .ok (.arraylength, 1) := by decide +kernel
theorem d3 : decode yB 3 = .ok (.isub, 1) := by decide +kernel
theorem d4 : decode yB 4 = .ok (.bipush 31, 2) := by decide +kernel
theorem d6 : decode yB 6 = .ok (.iushr, 1) := by decide +kernel
theorem d7 : decode yB 7 = .ok (.i2b, 1) := by decide +kernel
theorem d8 : decode yB 8 = .ok (.ireturn, 1) := by decide +kernel
def site : List Cond := []
def tab : Cond := tabOf yN yB 2 (some .byte) site
def P (d : Addr) (B : Cell) (args : Array Value) (s : State) : Prop := args = #[.ref d, .int (Int32.ofNat B.slots.size)] ∧ Arr .byte d B s
def E (r : Option Value) (s u : State) : Prop := XT.PureE (some (.int 0)) r s u
/-- an array as long as the number of chars: LATIN1 -/
theorem law (l : Launch) (d : Addr) (B : Cell) : Law l yN 2 2 0 0 yB 2 (some .byte) site (P d B) E [] 0 0 := by
  refine Law.of_walk (plainFor_of_name (by decide +kernel)) (by decide +kernel) (by decide +kernel) (by decide) (fun _ _ h => by rw [h.1]; rfl) (fun _ U U' hal hh h => ⟨h.1, h.2.mv hal hh⟩) (fun r U U' V V' h1 hal h2 h => XT.PureE.mv r U U' V V' h1 hal h2 h) ?_
  intro p e s m args below meth c s₁ X0 hexec hbytes hml hret hlk hnm hown hh0 W hP
  obtain ⟨rfl, hB⟩ := hP
  have hB0 := hB.mv X0.warmed.alike hh0
  have c1 : Steps p.tables e below (s₁.setTop (entryFrame m #[.ref d, .int (Int32.ofNat B.slots.size)] 2)) (s₁.setTop (mkF m 0 #[.val (.ref d), .val (.int (Int32.ofNat B.slots.size))] [])) := entry rfl
  have c2 : Steps p.tables e below (s₁.setTop (entryFrame m #[.ref d, .int (Int32.ofNat B.slots.size)] 2)) (s₁.setTop (mkF m 2 #[.val (.ref d), .val (.int (Int32.ofNat B.slots.size))] [.ref d, .int (Int32.ofNat B.slots.size)])) := c1.trans (by
    refine XS.iloadN X0.here hexec rfl (hb hbytes d0) rfl ?_
    refine XS.aloadN X0.here hexec rfl (hb hbytes d1) rfl rfl ?_
    exact Steps.refl _)
  have c3 : Steps p.tables e below (s₁.setTop (entryFrame m #[.ref d, .int (Int32.ofNat B.slots.size)] 2)) (s₁.setTop (mkF m 8 #[.val (.ref d), .val (.int (Int32.ofNat B.slots.size))] [.int (lo8 (ushr (Int32.ofNat B.slots.size - Int32.ofNat B.slots.size) 31))])) := c2.trans (by
    refine X0.alen hexec hB0 rfl rfl (hb hbytes d2) ?_
    refine XS.isub X0.here hexec rfl (hb hbytes d3) rfl ?_
    refine bipushV X0.here hexec rfl 31 (hb hbytes d4) (by decide) ?_
    refine iushr X0.here hexec rfl (hb hbytes d6) rfl ?_
    refine i2b X0.here hexec rfl (hb hbytes d7) rfl ?_
    exact Steps.refl _)
  have e0 : lo8 (ushr (Int32.ofNat B.slots.size - Int32.ofNat B.slots.size) 31) = 0 := by rw [Int32.sub_self]; decide
  rw [e0] at c3
  exact ⟨s₁, some (.int 0), _, _, _, X0, rfl, rfl, rfl, (fun h => by cases h), ⟨rfl, hh0⟩, fun fs hl => c3.trans (X0.ireturnOut hexec hret rfl (Or.inr (Or.inr (Or.inl rfl))) (hb hbytes d8) hl)⟩
end CodL
/-- the String at a is Latin-1 over a new byte[] (the heap's one new cell): the low bytes of the len chars of A from o on; every cell but a is kept -/
def Got (a : Addr) (D : Cell) (fV fC : Field) (A : Cell) (o len : Nat) (r : Option Value) (s u : State) : Prop := r = none ∧ ∃ D' V : Cell, Blank "java/lang/String" a D' u ∧ Same D D' [fV.slot, fC.slot] ∧ D'.slots[fV.slot]? = some (.ref s.heap.size) ∧ D'.slots[fC.slot]? = some (.int 0) ∧ Arr .byte s.heap.size V u ∧ V.vm = .none ∧ u.vm.findClass "[B" = some V.cls ∧ V.slots.size = len ∧ (∀ j, j < len → V.slots[j]? = some (.int (lo8 (cv A (o + j))))) ∧ (∀ (y : Addr) (c : Cell), y ≠ a → s.heap[y]? = some c → u.heap[y]? = some c) ∧ u.heap.size = s.heap.size + 1
theorem Got.mv {a : Addr} {D A : Cell} {fV fC : Field} {o len : Nat} : ∀ r (U U' V V' : State), U'.heap = U.heap → V.vm.Alike V'.vm → V'.heap = V.heap → Got a D fV fC A o len r U V → Got a D fV fC A o len r U' V' :=
  fun r U U' V V' h1 hal h2 ⟨e0, D', X, a1, a2, a3, a4, a5, a6, a7, a8, a9, a10, a11⟩ => ⟨e0, D', X, a1.mv hal h2, a2, by rw [h1]; exact a3, a4, by rw [h1]; exact a5.mv hal h2, a6, by rw [hal.findClass]; exact a7, a8, a9, by rw [h1, h2]; exact a10, by rw [h1, h2]; exact a11⟩
namespace New4
def yN : MethodName := ⟨"java/lang/String", "<init>", "([CIILjava/lang/Void;)V"⟩
abbrev yB : ByteArray := jdk_42_method_149_code
theorem d0 : decode yB 0 = .ok (.aload_n 0, 1) := by decide +kernel
theorem d1 : decode yB 1 = .ok (.invokespecial 1, 3) := by decide +kernel
theorem d4 : decode yB 4 = .ok (.iload_n 3, 1) := by decide +kernel
theorem d5 : decode yB 5 = .ok (.ifCond (.ne) 22, 3) := by decide +kernel
theorem d27 : decode yB 27 = .ok (.getstatic 38, 3) := by decide +kernel
theorem d30 : decode yB 30 = .ok (.ifCond (.eq) 28, 3) := by decide +kernel
theorem d33 : decode yB 33 = .ok (.aload_n 1, 1) := by decide +kernel
theorem d34 : decode yB 34 = .ok (.iload_n 2, 1) := by decide +kernel
theorem d35 : decode yB 35 = .ok (.iload_n 3, 1) := by decide +kernel
theorem d36 : decode yB 36 = .ok (.invokestatic 177, 3) := by decide +kernel
theorem d39 : decode yB 39 = .ok (.astore 5, 2) := by decide +kernel
theorem d41 : decode yB 41 = .ok (.aload_n 0, 1) := by decide +kernel
theorem d42 : decode yB 42 = .ok (.aload 5, 2) := by decide +kernel
theorem d44 : decode yB 44 = .ok (.iload_n 3, 1) := by decide +kernel
theorem d45 : decode yB 45 = .ok (.invokestatic 47, 3) := by decide +kernel
theorem d48 : decode yB 48 = .ok (.putfield 15, 3) := by decide +kernel
theorem d51 : decode yB 51 = .ok (.aload_n 0, 1) := by decide +kernel
theorem d52 : decode yB 52 = .ok (.aload 5, 2) := by decide +kernel
theorem d54 : decode yB 54 = .ok (.putfield 9, 3) := by decide +kernel
theorem d57 : decode yB 57 = .ok (.return_, 1) := by decide +kernel
def site : List Cond := [.fieldLink "java/lang/String" 38 "java/lang/String" "COMPACT_STRINGS" "Z", Cmp3.tab, CodL.tab, .laysFinal "java/lang/String" "java/lang/String" "value" "[B", .fieldLink "java/lang/String" 9 "java/lang/String" "value" "[B", .laysFinal "java/lang/String" "java/lang/String" "coder" "B", .fieldLink "java/lang/String" 15 "java/lang/String" "coder" "B"] ++ objW "java/lang/String" 1 ++ staticW "java/lang/String" 177 Cmp3.yN ++ staticW "java/lang/String" 47 CodL.yN
def tab : Cond := tabOf yN yB 6 none site
def P (a : Addr) (D : Cell) (fV fC : Field) (b : Addr) (A : Cell) (z : Int32) (o len : Nat) (args : Array Value) (s : State) : Prop := args = #[.ref a, .ref b, .int (Int32.ofNat o), .int (Int32.ofNat len), .null] ∧ Blank "java/lang/String" a D s ∧ Found "java/lang/String" "value" "[B" fV s ∧ Found "java/lang/String" "coder" "B" fC s ∧ Ch b A s ∧ StaticIs s "java/lang/String" "COMPACT_STRINGS" "Z" (.int z) ∧ ¬ z = 0 ∧ 0 < len ∧ o + len ≤ A.slots.size ∧ len ≤ 536870912 ∧ ∀ i, i < len → ¬ 255 < cv A (o + i)
def E (a : Addr) (D : Cell) (fV fC : Field) (A : Cell) (o len : Nat) (r : Option Value) (s u : State) : Prop := Got a D fV fC A o len r s u
/-- len > 0, no char of the range above 255: a Latin-1 String of their low bytes -/
theorem law (l : Launch) (a : Addr) (D : Cell) (fV fC : Field) (b : Addr) (A : Cell) (z : Int32) (o len : Nat) : Law l yN 5 4 2 35 yB 6 none site (P a D fV fC b A z o len) (E a D fV fC A o len) [⟨a, fC.slot⟩, ⟨a, fV.slot⟩] 1 len := by
  refine Law.of_walk (plainFor_of_name (by decide +kernel)) (by decide +kernel) (by decide +kernel) (by decide) (fun _ _ h => by rw [h.1]; rfl) (fun _ U U' hal hh h => ⟨h.1, h.2.1.mv hal hh, h.2.2.1.al hal, h.2.2.2.1.al hal, h.2.2.2.2.1.mv hal hh, h.2.2.2.2.2.1.there hal hh, h.2.2.2.2.2.2⟩) (fun r U U' V V' h1 hal h2 h => Got.mv r U U' V V' h1 hal h2 h) ?_
  intro p e s m args below meth c s₁ X0 hexec hbytes hml hret hlk hnm hown hh0 W hP
  obtain ⟨rfl, hB, f1, f2, hA, s1, hz, l0, l1, l2, hp⟩ := hP
  have a31 := hA.1.2.2.2
  have c1 : Steps p.tables e below (s₁.setTop (entryFrame m #[.ref a, .ref b, .int (Int32.ofNat o), .int (Int32.ofNat len), .null] 6)) (s₁.setTop (mkF m 0 #[.val (.ref a), .val (.ref b), .val (.int (Int32.ofNat o)), .val (.int (Int32.ofNat len)), .val .null, .unset] [])) := entry rfl
  have c2 : Steps p.tables e below (s₁.setTop (entryFrame m #[.ref a, .ref b, .int (Int32.ofNat o), .int (Int32.ofNat len), .null] 6)) (s₁.setTop (mkF m 1 #[.val (.ref a), .val (.ref b), .val (.int (Int32.ofNat o)), .val (.int (Int32.ofNat len)), .val .null, .unset] [.ref a])) := c1.trans (by
    refine XS.aloadN X0.here hexec rfl (hb hbytes d0) rfl rfl ?_
    exact Steps.refl _)
  obtain ⟨T3, X3, q3, st3⟩ := X0.oinit hexec hown (wks W (objW "java/lang/String" 1)) (g := (mkF m 1 #[.val (.ref a), .val (.ref b), .val (.int (Int32.ofNat o)), .val (.int (Int32.ofNat len)), .val .null, .unset] [.ref a])) rfl (by rw [hml]; rfl) (rest := []) rfl (hb hbytes d1) (W := 0) (by show 2 * 0 + 0 ≤ _; decide) (Nat.le_of_ble_eq_true rfl) (Nat.le_of_ble_eq_true rfl)
  have hh3 := q3.trans hh0
  have c4 : Steps p.tables e below (s₁.setTop (entryFrame m #[.ref a, .ref b, .int (Int32.ofNat o), .int (Int32.ofNat len), .null] 6)) (T3.setTop (mkF m 27 #[.val (.ref a), .val (.ref b), .val (.int (Int32.ofNat o)), .val (.int (Int32.ofNat len)), .val .null, .unset] [])) := (c2.trans (st3 _ (Steps.refl _))).trans (by
    refine XS.iloadN X3.here hexec rfl (hb hbytes d4) rfl ?_
    refine XS.ifYes X3.here hexec rfl (pc0 := 5) rfl (hb hbytes d5) rfl (i0_ne_t (nz32 (by omega) l0)) (by decide) rfl ?_
    exact Steps.refl _)
  obtain ⟨T5, X5, q5, st5⟩ := X3.sget hexec hown (wk W (.fieldLink "java/lang/String" 38 "java/lang/String" "COMPACT_STRINGS" "Z")) s1 (fun _ _ h => by rw [hh3]; exact h) (g := (mkF m 27 #[.val (.ref a), .val (.ref b), .val (.int (Int32.ofNat o)), .val (.int (Int32.ofNat len)), .val .null, .unset] [])) rfl (hb hbytes d27)
  have hh5 := q5.trans hh3
  have c6 : Steps p.tables e below (s₁.setTop (entryFrame m #[.ref a, .ref b, .int (Int32.ofNat o), .int (Int32.ofNat len), .null] 6)) (T5.setTop (mkF m 30 #[.val (.ref a), .val (.ref b), .val (.int (Int32.ofNat o)), .val (.int (Int32.ofNat len)), .val .null, .unset] [.int z])) := c4.trans (st5 _ (Steps.refl _))
  have c7 : Steps p.tables e below (s₁.setTop (entryFrame m #[.ref a, .ref b, .int (Int32.ofNat o), .int (Int32.ofNat len), .null] 6)) (T5.setTop (mkF m 36 #[.val (.ref a), .val (.ref b), .val (.int (Int32.ofNat o)), .val (.int (Int32.ofNat len)), .val .null, .unset] [.int (Int32.ofNat len), .int (Int32.ofNat o), .ref b])) := c6.trans (by
    refine XS.ifNo X5.here hexec rfl (hb hbytes d30) rfl (i0_eq_f hz) ?_
    refine XS.aloadN X5.here hexec rfl (hb hbytes d33) rfl rfl ?_
    refine XS.iloadN X5.here hexec rfl (hb hbytes d34) rfl ?_
    refine XS.iloadN X5.here hexec rfl (hb hbytes d35) rfl ?_
    exact Steps.refl _)
  obtain ⟨v8, T8, X8, E8, g8⟩ := X5.callS hexec (Cmp3.law l b A o len) hown (wks W (staticW "java/lang/String" 177 Cmp3.yN)) (wk W Cmp3.tab) (W := 0) (Nat.le_of_ble_eq_true rfl) (Nat.le_of_ble_eq_true rfl) (Nat.le_refl _) (by show 0 + len ≤ len; omega) (g := (mkF m 36 #[.val (.ref a), .val (.ref b), .val (.int (Int32.ofNat o)), .val (.int (Int32.ofNat len)), .val .null, .unset] [.int (Int32.ofNat len), .int (Int32.ofNat o), .ref b])) rfl (by rw [hml]; rfl) c7 (argsL := [.ref b, .int (Int32.ofNat o), .int (Int32.ofNat len)]) (rest := []) rfl rfl (by show 2 * 0 + 0 ≤ _; decide) (hb hbytes d36) (⟨rfl, hA.mv X5.warmed.alike hh5, l1, l2, hp⟩)
  obtain ⟨e8, z8⟩ := E8
  obtain ⟨rfl, N, n1, n2, n3, n4, n5, n6⟩ := NewArr.mv _ T5 s _ _ hh5.symm (Vm.Alike.refl _) rfl e8
  rw [hh5] at z8
  have hB1 := hB.keep X8.warmed.alike (n6 _ _ hB.1)
  have hne : s.heap.size ≠ a := (Nat.ne_of_lt (Array.getElem?_eq_some_iff.mp hB.1).1).symm
  have c9 : Steps p.tables e below (s₁.setTop (entryFrame m #[.ref a, .ref b, .int (Int32.ofNat o), .int (Int32.ofNat len), .null] 6)) (T8.setTop (mkF m 39 #[.val (.ref a), .val (.ref b), .val (.int (Int32.ofNat o)), .val (.int (Int32.ofNat len)), .val .null, .unset] [.ref s.heap.size])) := g8
  have c10 : Steps p.tables e below (s₁.setTop (entryFrame m #[.ref a, .ref b, .int (Int32.ofNat o), .int (Int32.ofNat len), .null] 6)) (T8.setTop (mkF m 45 #[.val (.ref a), .val (.ref b), .val (.int (Int32.ofNat o)), .val (.int (Int32.ofNat len)), .val .null, .val (.ref s.heap.size)] [.int (Int32.ofNat N.slots.size), .ref s.heap.size, .ref a])) := by
    have hc : Steps p.tables e below (s₁.setTop (entryFrame m #[.ref a, .ref b, .int (Int32.ofNat o), .int (Int32.ofNat len), .null] 6)) (T8.setTop (mkF m 45 #[.val (.ref a), .val (.ref b), .val (.int (Int32.ofNat o)), .val (.int (Int32.ofNat len)), .val .null, .val (.ref s.heap.size)] [.int (Int32.ofNat len), .ref s.heap.size, .ref a])) := c9.trans (by
      refine XS.astore X8.here hexec rfl (hb hbytes d39) rfl rfl rfl ?_
      refine XS.aloadN X8.here hexec rfl (hb hbytes d41) rfl rfl ?_
      refine XS.aload X8.here hexec rfl (hb hbytes d42) rfl rfl ?_
      refine XS.iloadN X8.here hexec rfl (hb hbytes d44) rfl ?_
      exact Steps.refl _)
    rw [n4]; exact hc
  obtain ⟨v11, T11, X11, E11, g11⟩ := X8.callS hexec (CodL.law l s.heap.size N) hown (wks W (staticW "java/lang/String" 47 CodL.yN)) (wk W CodL.tab) (W := 1) (Nat.le_of_ble_eq_true rfl) (Nat.le_of_ble_eq_true rfl) (Nat.le_refl _) (by show 0 + len + 0 ≤ len; omega) (g := (mkF m 45 #[.val (.ref a), .val (.ref b), .val (.int (Int32.ofNat o)), .val (.int (Int32.ofNat len)), .val .null, .val (.ref s.heap.size)] [.int (Int32.ofNat N.slots.size), .ref s.heap.size, .ref a])) rfl (by rw [hml]; rfl) c10 (argsL := [.ref s.heap.size, .int (Int32.ofNat N.slots.size)]) (rest := [.ref a]) rfl rfl (by show 2 * 0 + (1 + 0) ≤ _; decide) (hb hbytes d45) (⟨rfl, n1⟩)
  obtain ⟨rfl, q11⟩ := E11
  have hB11 := hB1.mv (X8.warmed.alike.symm.trans X11.warmed.alike) q11
  have c12 : Steps p.tables e below (s₁.setTop (entryFrame m #[.ref a, .ref b, .int (Int32.ofNat o), .int (Int32.ofNat len), .null] 6)) (T11.setTop (mkF m 48 #[.val (.ref a), .val (.ref b), .val (.int (Int32.ofNat o)), .val (.int (Int32.ofNat len)), .val .null, .val (.ref s.heap.size)] [.int 0, .ref a])) := g11
  obtain ⟨T13, X13, p13, bl13, sl13, st13⟩ := X11.finit hexec hown (wk W (.fieldLink "java/lang/String" 15 "java/lang/String" "coder" "B")) (Or.inr ⟨_, (wk W (.laysFinal "java/lang/String" "java/lang/String" "coder" "B"))⟩) (Or.inl ⟨rfl, hnm⟩) f2 (Or.inl rfl) hB11 (t := .byte) (by decide +kernel) rfl (g := (mkF m 48 #[.val (.ref a), .val (.ref b), .val (.int (Int32.ofNat o)), .val (.int (Int32.ofNat len)), .val .null, .val (.ref s.heap.size)] [.int 0, .ref a])) rfl (rest := []) rfl (hb hbytes d48)
  have c14 : Steps p.tables e below (s₁.setTop (entryFrame m #[.ref a, .ref b, .int (Int32.ofNat o), .int (Int32.ofNat len), .null] 6)) (T13.setTop (mkF m 54 #[.val (.ref a), .val (.ref b), .val (.int (Int32.ofNat o)), .val (.int (Int32.ofNat len)), .val .null, .val (.ref s.heap.size)] [.ref s.heap.size, .ref a])) := (c12.trans (st13 _ (Steps.refl _))).trans (by
    refine XS.aloadN X13.here hexec rfl (hb hbytes d51) rfl rfl ?_
    refine XS.aload X13.here hexec rfl (hb hbytes d52) rfl rfl ?_
    exact Steps.refl _)
  obtain ⟨T15, X15, p15, bl15, sl15, st15⟩ := X13.finit hexec hown (wk W (.fieldLink "java/lang/String" 9 "java/lang/String" "value" "[B")) (Or.inr ⟨_, (wk W (.laysFinal "java/lang/String" "java/lang/String" "value" "[B"))⟩) (Or.inl ⟨rfl, hnm⟩) f1 (Or.inl rfl) bl13 (t := (.array .byte)) (by decide +kernel) rfl (g := (mkF m 54 #[.val (.ref a), .val (.ref b), .val (.int (Int32.ofNat o)), .val (.int (Int32.ofNat len)), .val .null, .val (.ref s.heap.size)] [.ref s.heap.size, .ref a])) rfl (rest := []) rfl (hb hbytes d54)
  have c16 : Steps p.tables e below (s₁.setTop (entryFrame m #[.ref a, .ref b, .int (Int32.ofNat o), .int (Int32.ofNat len), .null] 6)) (T15.setTop (mkF m 57 #[.val (.ref a), .val (.ref b), .val (.int (Int32.ofNat o)), .val (.int (Int32.ofNat len)), .val .null, .val (.ref s.heap.size)] [])) := c14.trans (st15 _ (Steps.refl _))
  have ap := apart (Or.inr ⟨_, (wk W (.laysFinal "java/lang/String" "java/lang/String" "value" "[B"))⟩) (Or.inr ⟨_, (wk W (.laysFinal "java/lang/String" "java/lang/String" "coder" "B"))⟩) f1 f2 (t₁ := .array .byte) (t₂ := .byte) (by decide +kernel) (by decide +kernel) (by decide)
  have al := X8.warmed.alike.symm.trans X15.warmed.alike
  have n7 : T11.heap[s.heap.size]? = some N := by rw [q11]; exact n1.1
  exact ⟨T15, none, _, _, _, X15, by simp, rfl, by omega, (fun _ => rfl), ⟨rfl, _, N, bl15, ((Same.refl D _).set _ (by simp)).set _ (by simp), sl15, (Cell.slots_setSlot_ne _ ap).trans sl13, n1.keep al (p15.other hne (p13.other hne n7)), n2, by rw [al.findClass]; exact n3, n4, n5, fun y c h1 h2 => p15.other h1 (p13.other h1 (by rw [q11]; exact n6 y c h2)), by rw [p15.2.2, p13.2.2, q11]; exact z8⟩, fun fs hl => c16.trans (X15.returnOut hexec hret (hb hbytes d57) hl)⟩
end New4
namespace New1
def yN : MethodName := ⟨"java/lang/String", "<init>", "([C)V"⟩
abbrev yB : ByteArray := jdk_42_method_3_code
theorem d0 : decode yB 0 = .ok (.aload_n 0, 1) := by decide +kernel
theorem d1 : decode yB 1 = .ok (.aload_n 1, 1) := by decide +kernel
theorem d2 : decode yB 2 = .ok (.iconst 0, 1) := by decide +kernel
theorem d3 : decode yB 3 = .ok (.aload_n 1, 1) := by decide +kernel
theorem d4 : decode yB 4 = .ok (.arraylength, 1) := by decide +kernel
theorem d5 : decode yB 5 = .ok (.aconst_null, 1) := by decide +kernel
theorem d6 : decode yB 6 = .ok (.invokespecial 27, 3) := by decide +kernel
theorem d9 : decode yB 9 = .ok (.return_, 1) := by decide +kernel
def site : List Cond := [New4.tab] ++ initW "java/lang/String" 27 New4.yN
def tab : Cond := tabOf yN yB 2 none site
def P (a : Addr) (D : Cell) (fV fC : Field) (b : Addr) (A : Cell) (z : Int32) (args : Array Value) (s : State) : Prop := args = #[.ref a, .ref b] ∧ Blank "java/lang/String" a D s ∧ Found "java/lang/String" "value" "[B" fV s ∧ Found "java/lang/String" "coder" "B" fC s ∧ Ch b A s ∧ StaticIs s "java/lang/String" "COMPACT_STRINGS" "Z" (.int z) ∧ ¬ z = 0 ∧ 0 < A.slots.size ∧ A.slots.size ≤ 536870912 ∧ ∀ i, i < A.slots.size → ¬ 255 < cv A i
def E (a : Addr) (D : Cell) (fV fC : Field) (A : Cell) (r : Option Value) (s u : State) : Prop := Got a D fV fC A 0 A.slots.size r s u
/-- new String(chars), not empty, no char above 255: a Latin-1 String of their low bytes -/
theorem law (l : Launch) (a : Addr) (D : Cell) (fV fC : Field) (b : Addr) (A : Cell) (z : Int32) : Law l yN 2 1 3 52 yB 2 none site (P a D fV fC b A z) (E a D fV fC A) [⟨a, fC.slot⟩, ⟨a, fV.slot⟩] 1 A.slots.size := by
  refine Law.of_walk (plainFor_of_name (by decide +kernel)) (by decide +kernel) (by decide +kernel) (by decide) (fun _ _ h => by rw [h.1]; rfl) (fun _ U U' hal hh h => ⟨h.1, h.2.1.mv hal hh, h.2.2.1.al hal, h.2.2.2.1.al hal, h.2.2.2.2.1.mv hal hh, h.2.2.2.2.2.1.there hal hh, h.2.2.2.2.2.2⟩) (fun r U U' V V' h1 hal h2 h => Got.mv r U U' V V' h1 hal h2 h) ?_
  intro p e s m args below meth c s₁ X0 hexec hbytes hml hret hlk hnm hown hh0 W hP
  obtain ⟨rfl, hB, f1, f2, hA, s1, hz, l0, l2, hp⟩ := hP
  have c1 : Steps p.tables e below (s₁.setTop (entryFrame m #[.ref a, .ref b] 2)) (s₁.setTop (mkF m 0 #[.val (.ref a), .val (.ref b)] [])) := entry rfl
  have c2 : Steps p.tables e below (s₁.setTop (entryFrame m #[.ref a, .ref b] 2)) (s₁.setTop (mkF m 6 #[.val (.ref a), .val (.ref b)] [.null, .int (Int32.ofNat A.slots.size), .int 0, .ref b, .ref a])) := c1.trans (by
    refine XS.aloadN X0.here hexec rfl (hb hbytes d0) rfl rfl ?_
    refine XS.aloadN X0.here hexec rfl (hb hbytes d1) rfl rfl ?_
    refine iconstV X0.here hexec rfl 0 (hb hbytes d2) (by decide) ?_
    refine XS.aloadN X0.here hexec rfl (hb hbytes d3) rfl rfl ?_
    refine X0.alen hexec (hA.1.mv X0.warmed.alike hh0) rfl rfl (hb hbytes d4) ?_
    refine XS.aconstNull X0.here hexec rfl (hb hbytes d5) ?_
    exact Steps.refl _)
  obtain ⟨v3, T3, X3, E3, g3⟩ := X0.callN hexec (New4.law l a D fV fC b A z 0 A.slots.size) rfl hown (wks W (initW "java/lang/String" 27 New4.yN)) (W New4.tab (by simp only [site, List.mem_cons, List.mem_append, true_or, or_true])) (W := 0) (Nat.le_of_ble_eq_true rfl) (Nat.le_of_ble_eq_true rfl) (Nat.le_refl _) (by show 0 + A.slots.size ≤ A.slots.size; omega) (g := (mkF m 6 #[.val (.ref a), .val (.ref b)] [.null, .int (Int32.ofNat A.slots.size), .int (Int32.ofNat 0), .ref b, .ref a])) rfl (by rw [hml]; rfl) c2 (argsL := [.ref b, .int (Int32.ofNat 0), .int (Int32.ofNat A.slots.size), .null]) (rest := []) rfl rfl (by show 2 * 0 + 0 ≤ _; decide) (hb hbytes d6) (⟨rfl, hB.mv X0.warmed.alike hh0, f1.al X0.warmed.alike, f2.al X0.warmed.alike, hA.mv X0.warmed.alike hh0, s1.there X0.warmed.alike hh0, hz, l0, by omega, l2, fun i hi => by rw [Nat.zero_add]; exact hp i hi⟩)
  have e0 := Got.mv _ s₁ s _ _ hh0.symm (Vm.Alike.refl _) rfl E3
  obtain rfl := e0.1
  have c4 : Steps p.tables e below (s₁.setTop (entryFrame m #[.ref a, .ref b] 2)) (T3.setTop (mkF m 9 #[.val (.ref a), .val (.ref b)] [])) := g3
  exact ⟨T3, none, _, _, _, X3, by simp, rfl, by omega, (fun _ => rfl), e0, fun fs hl => c4.trans (X3.returnOut hexec hret (hb hbytes d9) hl)⟩
theorem pays {l : Launch} {R : Room} {p : Program} {e : Env} {below : List Frame} {s : State} {sargs : Array Value} {len W : Nat} (a : Addr) (D : Cell) (fV fC : Field) (b : Addr) (A : Cell) (z : Int32) (htab : tab.before sargs s = true) (hfr : 4 ≤ R.frames) (hlo : W + 65 ≤ R.locals) :
    Back l R p e below s sargs yN len W (fun A₁ a₁ => A₁.cells + 1 ≤ R.cells ∧ A₁.slots + A.slots.size ≤ R.slots ∧ P a D fV fC b A z a₁ A₁.U) (fun A₁ _ v₁ B₁ => E a D fV fC A v₁ A₁.U B₁.U ∧ B₁.locs = A₁.locs ++ [⟨a, fC.slot⟩, ⟨a, fV.slot⟩] ∧ B₁.cells = A₁.cells + 1 ∧ B₁.slots = A₁.slots + A.slots.size) :=
  (law l a D fV fC b A z).pays htab hfr (by omega)
end New1
end StrChars
namespace StrChars.Road
open Jvm Sem ClassFile Op Lib Jvm.Stand Jvm.Free Jvm.Free.XT
open Jvm.Lib.Cold (StaticIs)
abbrev ST : String := "java/lang/String"
/-- every table word that New1's law asks, flat -/
abbrev words : List Jvm.Cond := [.code New1.yN New1.yB 2 none, .initialized ST, .methodLink ST 27 New4.yN, .instanceMethod New4.yN,
  .code New4.yN New4.yB 6 none, .fieldLink ST 38 ST "COMPACT_STRINGS" "Z", .laysFinal ST ST "value" "[B", .fieldLink ST 9 ST "value" "[B", .laysFinal ST ST "coder" "B", .fieldLink ST 15 ST "coder" "B",
  .methodLink ST 1 Lib.objectInit, .instanceMethod Lib.objectInit, .code Lib.objectInit ⟨#[0xb1]⟩ 1 none, .methodLink ST 177 Cmp3.yN, .static Cmp3.yN, .methodLink ST 47 CodL.yN, .static CodL.yN,
  .code Cmp3.yN Cmp3.yB 6 (some (.array .byte)), .initialized U16, .arrayClass .byte, .methodLink U16 115 Cmp5.yN, .static Cmp5.yN, .code Cmp5.yN Cmp5.yB 7 (some .int), .code CodL.yN CodL.yB 2 (some .byte)]
theorem tab_of {a : Array Value} {s : State} (h : ∀ w ∈ words, w.before a s = true) : New1.tab.before a s = true := by
  have h5 : Cmp5.tab.before a s = true := unparts (wk h (.code Cmp5.yN Cmp5.yB 7 (some .int))) (wks h (.initialized Cmp5.yN.cls :: Cmp5.site))
  have hc : CodL.tab.before a s = true := unparts (wk h (.code CodL.yN CodL.yB 2 (some .byte))) (wks h (.initialized CodL.yN.cls :: CodL.site))
  have q5 : ∀ w ∈ Cmp5.tab :: words, w.before a s = true := fun w hw => (List.mem_cons.mp hw).elim (fun e => e ▸ h5) (h w)
  have h3 : Cmp3.tab.before a s = true := unparts (wk q5 (.code Cmp3.yN Cmp3.yB 6 (some (.array .byte)))) (wks q5 (.initialized Cmp3.yN.cls :: Cmp3.site))
  have q3 : ∀ w ∈ Cmp3.tab :: CodL.tab :: words, w.before a s = true := fun w hw => (List.mem_cons.mp hw).elim (fun e => e ▸ h3) fun hw => (List.mem_cons.mp hw).elim (fun e => e ▸ hc) (h w)
  have h4 : New4.tab.before a s = true := unparts (wk q3 (.code New4.yN New4.yB 6 none)) (wks q3 (.initialized New4.yN.cls :: New4.site))
  have q4 : ∀ w ∈ New4.tab :: words, w.before a s = true := fun w hw => (List.mem_cons.mp hw).elim (fun e => e ▸ h4) (h w)
  exact unparts (wk q4 (.code New1.yN New1.yB 2 none)) (wks q4 (.initialized New1.yN.cls :: New1.site))
/-- the words ride from the start Z to the walk's own state -/
theorem moved {Z s : State} {a0 args : Array Value} (hZ : Z.Warmed39 s.vm) (hw : ∀ d ∈ words, d.before a0 Z = true) : ∀ d ∈ words, d.before args s = true := fun d hd => by
  have q := hw d hd
  have t : ∀ d ∈ words, d = .arrayClass .byte ∨ (d.onTables && d.keepsFace) = true := by decide +kernel
  rcases t d hd with rfl | t
  · exact RoadKit.mvA hZ q
  · exact RoadKit.mv hZ q t
/-- WHAT COMES BACK, over the tables of the start Z: h the heap at the call, h' behind it -/
def Q (Z : State) (x : Addr) (A : Cell) (h : Heap) (v : Option Value) (h' : Heap) (L : List Loc) : Prop := v = none ∧ (∀ y ∈ L, y.base = x) ∧ RoadKit.Keep h h' [x] ∧ h'.size = h.size + 1 ∧ RoadKit.Exa Z h' x ST ∧ RoadKit.Fld Z h' x ST "value" "[B" (.ref h.size) ∧ RoadKit.Fld Z h' x ST "coder" "B" (.int 0) ∧
  (∃ V : Cell, RoadKit.Arr Z h' h.size V .byte ∧ V.vm = .none ∧ Z.vm.findClass "[B" = some V.cls ∧ V.slots.size = A.slots.size ∧ ∀ j, j < A.slots.size → V.slots[j]? = some (.int (lo8 (cv A j)))) ∧
  ∀ (O n d : String) (w : Value), RoadKit.Fld Z h x O n d w → RoadKit.slotOf Z O n d ≠ RoadKit.slotOf Z ST "value" "[B" → RoadKit.slotOf Z O n d ≠ RoadKit.slotOf Z ST "coder" "B" → RoadKit.Fld Z h' x O n d w
/-- **new String(chars) AT A CALL, IN THE ROAD'S FORM**: for specialBack behind newO: x the fresh String, b the char[] with the cell A -/
theorem back {p : Program} {l : Launch} {e : Env} {R : Room} {s : State} {args : Array Value} {below : List Frame} {len W : Nat} {Z : State} {a0 : Array Value} {h : Heap} (hZ : Z.Warmed39 s.vm) (hw : ∀ d ∈ words, d.before a0 Z = true) {kI : Nat} (wi : (Jvm.Cond.instantiable ST kI).before a0 Z = true)
    {x b : Addr} {A : Cell} {z : Int32} {v0 c0 : Value} (E : RoadKit.Exa Z h x ST) (V : RoadKit.Fld Z h x ST "value" "[B" v0) (C : RoadKit.Fld Z h x ST "coder" "B" c0) (K : RoadKit.Arr Z h b A .char) (hty : Typed .char A) (S : RoadKit.Sta Z h ST "COMPACT_STRINGS" "Z" (.int z)) (hz : ¬ z = 0)
    (l0 : 0 < A.slots.size) (l2 : A.slots.size ≤ 536870912) (hp : ∀ i, i < A.slots.size → ¬ 255 < cv A i) (hfr : 4 ≤ R.frames) (hlo : W + 65 ≤ R.locals) :
    Back l R p e below s args New1.yN len W (fun P a => a = #[.ref x, .ref b] ∧ P.U.heap = h ∧ P.cells + 1 ≤ R.cells ∧ P.slots + A.slots.size ≤ R.slots)
      (fun P _ v B => ∃ L, Q Z x A h v B.U.heap L ∧ B.locs = P.locs ++ L ∧ B.cells = P.cells + 1 ∧ B.slots = P.slots + A.slots.size) := by
  intro m meth c P g ig mk a X hg hsize hdg hW hn hp'
  obtain ⟨rfl, rfl, r1, r2⟩ := hp'
  have al : Z.vm.Alike P.U.vm := hZ.alike.trans X.warmed.alike
  obtain ⟨D, cfV, kV, iV, fV, hD, gV, stV, knV, obV, asV, slV⟩ := id V
  obtain ⟨D', cfC, kC, iC, fC, hD', gC, stC, -, -, asC, slC⟩ := id C
  cases hD.symm.trans hD'
  obtain ⟨D2, kD, e1, e2, e3, e4, e5⟩ := id E
  cases hD.symm.trans e1
  obtain ⟨c2, k2, i1, i2, i3, -⟩ := Cond.instantiable_spec wi
  cases e2.symm.trans i1
  cases e3.symm.trans i2
  obtain ⟨kU, u1, u2⟩ := al.2.2 _ _ e3
  have hB : Blank ST x D P.U := ⟨hD, ⟨knV, fun q hq => by rw [hq] at obV; cases obV⟩, by rw [al.findClass]; exact e2, kU, u1, by rw [u2]; exact i3, by rw [u2]; exact e5 i3⟩
  have F1 : Found ST "value" "[B" fV P.U := ⟨SBG.found_only al ⟨cfV, kV, iV, gV⟩, stV⟩
  have F2 : Found ST "coder" "B" fC P.U := ⟨SBG.found_only al ⟨cfC, kC, iC, gC⟩, stC⟩
  have hA : Ch b A P.U := ⟨⟨K.1, State.isArrayOf_alike al K.2.1, K.2.2, by omega⟩, hty⟩
  have hS : StaticIs P.U ST "COMPACT_STRINGS" "Z" (.int z) := by
    obtain ⟨cfS, iS, kS, fS, st, cS, t1, t2, t3, t4, t5, t6, t7⟩ := S
    exact StaticIs.there (s := { Z with heap := P.U.heap }) ⟨cfS, iS, kS, fS, st, cS, t1, t2, t3, t4, t5, (fun q => by rw [q] at t6; cases t6), t7⟩ al rfl
  obtain ⟨v, B, X', ⟨⟨hv, E', V', q1, q2, q3, q4, q5, q6, q7, q8, q9, q10, q11⟩, hl, hc, hs⟩, st⟩ := New1.pays x D fV fC b A z (tab_of (moved hZ hw)) hfr hlo m meth c P g ig mk _ X hg hsize hdg hW hn ⟨r1, r2, rfl, hB, F1, F2, hA, hS, hz, l0, l2, hp⟩
  have al' : Z.vm.Alike B.U.vm := hZ.alike.trans X'.warmed.alike
  have hsz : E'.slots.size = D.slots.size := by
    obtain ⟨-, -, -, kB, w1, w2, w3⟩ := q1
    obtain ⟨kB', y1, y2⟩ := al'.2.2 _ _ e3
    rw [q2.2.1] at w1
    cases w1.symm.trans y1
    rw [w3, e5 i3, y2]
  refine ⟨v, B, X', ⟨_, ⟨hv, ?_, ⟨by omega, fun y cy hy hn' => q10 y cy (by simpa using hn') hy, fun y cy hy => ?_⟩, q11, ⟨E', _, q1.1, by rw [q2.2.1]; exact e2, by rw [q2.2.1]; exact e3, by rw [q2.1]; exact obV, fun _ => by rw [hsz]; exact e5 i3⟩,
    ⟨E', cfV, kV, iV, fV, q1.1, gV, stV, by rw [q2.1]; exact knV, by rw [q2.1]; exact obV, by rw [q2.2.1]; exact asV, q3⟩, ⟨E', cfC, kC, iC, fC, q1.1, gC, stC, by rw [q2.1]; exact knV, by rw [q2.1]; exact obV, by rw [q2.2.1]; exact asC, q4⟩,
    ⟨V', ⟨q5.1, State.isArrayOf_alike al'.symm q5.2.1, q5.2.2.1⟩, q6, by rw [← al'.findClass]; exact q7, q8, fun j hj => by have := q9 j hj; rwa [Nat.zero_add] at this⟩, fun O n d w F n1 n2 => ?_⟩, hl, hc, hs⟩, st⟩
  · intro y hy
    simp only [List.mem_cons, List.not_mem_nil, or_false] at hy
    rcases hy with rfl | rfl <;> rfl
  · by_cases q : y = x
    · subst q
      cases hD.symm.trans hy
      exact ⟨E', q1.1, q2.2.1, q2.1, hsz⟩
    · exact ⟨cy, q10 y cy q hy, rfl, rfl, rfl⟩
  · obtain ⟨D3, cf, k, i, f, g1, g2, g3, g4, g5, g6, g7⟩ := F
    cases hD.symm.trans g1
    simp only [RoadKit.slotOf, g2, gV, gC, Option.map_some, Option.getD_some] at n1 n2
    exact ⟨E', cf, k, i, f, q1.1, g2, g3, by rw [q2.1]; exact g4, by rw [q2.1]; exact g5, by rw [q2.2.1]; exact g6, by rw [q2.2.2 f.slot (by simp [n1, n2])]; exact g7⟩
end StrChars.Road
namespace StrChars.Road
open Jvm Sem ClassFile Op Lib Jvm.Stand Jvm.Free Jvm.Free.XT
/-- WHAT COMES BACK, the byte[] as a list of values -/
def QA (Z : State) (x : Addr) (zn : Int32) (cs : List Int32) (h : Heap) (v : Option Value) (h' : Heap) (L : List Loc) : Prop := v = none ∧ (∀ y ∈ L, y.base = x) ∧ RoadKit.Keep h h' [x] ∧ h'.size = h.size + 1 ∧ RoadKit.Exa Z h' x ST ∧ RoadKit.Fld Z h' x ST "value" "[B" (.ref h.size) ∧ RoadKit.Fld Z h' x ST "coder" "B" (.int 0) ∧
  (∃ kb, Z.vm.findClass "[B" = some kb ∧ RoadKit.Arv Z h' h.size kb .byte zn (cs.map fun c => .int (lo8 c)) (.int 0)) ∧
  ∀ (O n d : String) (w : Value), RoadKit.Fld Z h x O n d w → RoadKit.slotOf Z O n d ≠ RoadKit.slotOf Z ST "value" "[B" → RoadKit.slotOf Z O n d ≠ RoadKit.slotOf Z ST "coder" "B" → RoadKit.Fld Z h' x O n d w
/-- **new String(chars) AT A CALL, THE ARRAYS AS LISTS**: the char[] at b holds cs, not empty, no char above 255 -/
theorem backArv {p : Program} {l : Launch} {e : Env} {R : Room} {s : State} {args : Array Value} {below : List Frame} {len W : Nat} {Z : State} {a0 : Array Value} {h : Heap} (hZ : Z.Warmed39 s.vm) (hw : ∀ d ∈ words, d.before a0 Z = true) {kI : Nat} (wi : (Jvm.Cond.instantiable ST kI).before a0 Z = true)
    {x b : Addr} {k : ClassId} {zn z : Int32} {cs : List Int32} {dv v0 c0 : Value} (E : RoadKit.Exa Z h x ST) (V : RoadKit.Fld Z h x ST "value" "[B" v0) (C : RoadKit.Fld Z h x ST "coder" "B" c0) (K : RoadKit.Arv Z h b k .char zn (cs.map Value.int) dv) (S : RoadKit.Sta Z h ST "COMPACT_STRINGS" "Z" (.int z)) (hz : ¬ z = 0)
    (hlen : zn.toNatClampNeg = cs.length) (h0 : 0 < cs.length) (hbig : cs.length ≤ 536870912) (hall : ∀ c ∈ cs, ¬ 255 < c) (hfr : 4 ≤ R.frames) (hlo : W + 65 ≤ R.locals) :
    Back l R p e below s args New1.yN len W (fun P a => a = #[.ref x, .ref b] ∧ P.U.heap = h ∧ P.cells + 1 ≤ R.cells ∧ P.slots + cs.length ≤ R.slots)
      (fun P _ v B => ∃ L, QA Z x zn cs h v B.U.heap L ∧ B.locs = P.locs ++ L ∧ B.cells = P.cells + 1 ∧ B.slots = P.slots + cs.length) := by
  obtain ⟨A, K1, K2, K3, K4, K5, K6⟩ := K
  have e : A.slots.size = cs.length := K3.trans hlen
  have hat : ∀ (i : Nat) (hi : i < cs.length), A.slots[i]? = some (.int cs[i]) := fun i hi => by rw [K5 i (by omega)]; simp [List.getD_eq_getElem?_getD, hi]
  have hcv : ∀ (i : Nat) (hi : i < cs.length), cv A i = cs[i] := fun i hi => by unfold cv; rw [hat i hi]
  have hty : Typed .char A := fun i v hv => by
    have hi : i < A.slots.size := (Array.getElem?_eq_some_iff.mp hv).1
    have q := K5 i hi
    rw [hv] at q
    rw [Option.some.inj q]
    exact K6 i hi
  refine Back.mono (back hZ hw wi E V C K1 hty S hz (by omega) (by omega) (fun i hi => by rw [hcv i (by omega)]; exact hall _ (List.getElem_mem _)) hfr hlo) (fun P a hp => ⟨hp.1, hp.2.1, hp.2.2.1, by rw [e]; exact hp.2.2.2⟩) (fun P a v B hp hq => ?_)
  obtain ⟨L, ⟨q1, q2, q3, q4, q5, q6, q7, ⟨V', v1, v2, v3, v4, v5⟩, q9⟩, hl, hc, hs⟩ := hq
  refine ⟨L, ⟨q1, q2, q3, q4, q5, q6, q7, ⟨V'.cls, v3, V', v1, rfl, by rw [v4, e, hlen], K4, fun i hi => ?_, fun i hi => ?_⟩, q9⟩, hl, hc, by rw [hs, e]⟩
  · have hi' : i < cs.length := by omega
    rw [v5 i (by omega), hcv i hi']; simp [List.getD_eq_getElem?_getD, hi']
  · have hi' : i < cs.length := by omega
    simp only [List.getD_eq_getElem?_getD, List.getElem?_map, List.getElem?_eq_getElem hi', Option.map_some, Option.getD_some]
    exact fits_lo8 _
end StrChars.Road
namespace StrChars.Road
open Jvm Sem ClassFile Op Lib Jvm.Stand Jvm.Free Jvm.Free.XT
/-- WHAT COMES BACK, in the writer's own shape -/
def QV (Z : State) (x : Addr) (N : Int32) (bs : List Int32) (h : Heap) (n0 : Nat) (v : Option Value) (h' : Heap) (L : List Loc) : Prop := v = none ∧ RoadKit.Fr n0 L ∧ RoadKit.Keep h h' [x] ∧ RoadKit.Exa Z h' x ST ∧ RoadKit.Fld Z h' x ST "coder" "B" (.int 0) ∧
  ∃ (t : Addr) (kb : ClassId), n0 ≤ t ∧ h.size ≤ t ∧ ¬ t = x ∧ RoadKit.Fld Z h' x ST "value" "[B" (.ref t) ∧ RoadKit.Arv Z h' t kb .byte N (bs.map Value.int) (.int 0)
/-- **new String(chars) AT A CALL, FOR THE WRITER**: a char[] of n known ints, each 0 to 255 -/
theorem backV {p : Program} {l : Launch} {e : Env} {R : Room} {s : State} {args : Array Value} {below : List Frame} {len W : Nat} {Z : State} {a0 : Array Value} {h : Heap} (hZ : Z.Warmed39 s.vm) (hw : ∀ d ∈ words, d.before a0 Z = true) {kI : Nat} (wi : (Jvm.Cond.instantiable ST kI).before a0 Z = true)
    {x b : Addr} {kC : ClassId} {cs bs : List Int32} {d v0 c0 : Value} {z N : Int32} {n n0 : Nat} (hx0 : n0 ≤ x) (hh0 : n0 ≤ h.size) (E : RoadKit.Exa Z h x ST) (V : RoadKit.Fld Z h x ST "value" "[B" v0) (C : RoadKit.Fld Z h x ST "coder" "B" c0) (K : RoadKit.Arv Z h b kC .char N (cs.map Value.int) d) (S : RoadKit.Sta Z h ST "COMPACT_STRINGS" "Z" (.int z)) (hz : ¬ z = 0)
    (hn : cs.length = n) (hN : N = Int32.ofNat n) (l0 : 0 < n) (l2 : n ≤ 4000) (hp : ∀ c ∈ cs, ¬ c < 0 ∧ ¬ (255 : Int32) < c) (hb : bs = cs.map (fun c => c.toInt8.toInt32)) (hfr : 4 ≤ R.frames) (hlo : W + 65 ≤ R.locals) :
    Back l R p e below s args (⟨"java/lang/String", "<init>", "([C)V"⟩ : MethodName) len W (fun P a => a = #[.ref x, .ref b] ∧ P.U.heap = h ∧ P.cells + 1 ≤ R.cells ∧ P.slots + n ≤ R.slots)
      (fun P _ v B => ∃ L, QV Z x N bs h n0 v B.U.heap L ∧ B.locs = P.locs ++ L ∧ B.cells = P.cells + 1 ∧ B.slots = P.slots + n) := by
  subst hn hN hb
  refine Back.mono (backArv hZ hw wi E V C K S hz (n32 (by omega)) l0 (by omega) (fun c hc => (hp c hc).2) hfr hlo) (fun P a hp => hp) (fun P a v B hp hq => ?_)
  obtain ⟨L, ⟨q1, q2, q3, q4, q5, q6, q7, ⟨kb, v1, v2⟩, q9⟩, hl, hc, hs⟩ := hq
  exact ⟨L, ⟨q1, fun y hy => by rw [q2 y hy]; exact hx0, q3, q5, q7, h.size, kb, hh0, Nat.le_refl _, Nat.ne_of_gt E.lt, q6, by rw [List.map_map]; exact v2⟩, hl, hc, hs⟩
end StrChars.Road
end Jvm.Pilot.@@N@@

namespace Jvm.Pilot.@@N@@
open Jvm Jvm.ClassFile Sem Op Lib Jvm.Free Jvm.Stand Jvm.LawKit Jvm.RoadKit Bundle Jvm.Pilot.@@N@@.Jvm.D
/-! own kit: a walk as a chain of "from here the run ends well" -/
section OwnKit
/-- from T with the frame g on top the run goes on and ends as Q says -/
def Own (p : Program) (e : Env) (below : List Frame) (s : State) (kc ks : Nat) (Q : Option Value → Heap → List Loc → Prop) (T : State) (g : JFrame) : Prop :=
  ∃ s₂ o, Steps p.tables e below (T.setTop g) s₂ ∧ s₂.status = .running ∧ Ended s₂ below o ∧ ∃ v L, o = .returned v ∧ Q v s₂.heap L ∧ FrameEnd s o s₂ L kc ks
variable {p : Program} {l : Launch} {e : Env} {R : Room} {s : State} {m : MethodId} {args : Array Value} {below : List Frame} {meth : Method} {c : Code} {T T' : State} {locs : List Loc} {cells slots kc ks : Nat} {Q : Option Value → Heap → List Loc → Prop}
/-- unlike addresses, hidden from omega -/
def own_ne (a b : Addr) : Prop := a ≠ b
theorem own_staK {Z : State} {h h' : Heap} {C n d : String} {v : Value} (F : Sta Z h C n d v) (K : Keep h h' []) : Sta Z h' C n d v := by
  obtain ⟨cf, i, k, f, st, cell, h1, h2, h3, h4, h5, r⟩ := F
  exact ⟨cf, i, k, f, st, cell, h1, h2, h3, h4, K.2.1 _ _ h5 (by simp), r⟩
theorem own_staX {Z : State} {h h' : Heap} {C n d D : String} {v : Value} {x : Addr} (F : Sta Z h C n d v) (K : Keep h h' [x]) (E : Exa Z h x D) : Sta Z h' C n d v := by
  obtain ⟨cf, i, k, f, st, cell, h1, h2, h3, h4, h5, h6, r⟩ := F
  refine ⟨cf, i, k, f, st, cell, h1, h2, h3, h4, K.2.1 _ _ h5 (fun q => ?_), h6, r⟩
  cases List.mem_singleton.mp q
  obtain ⟨c2, k2, g1, g2, g3, g4, -⟩ := E
  cases h5.symm.trans g1
  revert h6
  cases hv : cell.vm <;> simp_all [VmData.isStatics]
theorem own_staA {Z : State} {h h' : Heap} {C n d : String} {v : Value} {x : Addr} (F : Sta Z h C n d v) (K : Keep h h' [x]) (A : ∃ (cl : Cell) (ty : FieldType), Arr Z h x cl ty) : Sta Z h' C n d v := by
  obtain ⟨cf, i, k, f, st, cell, h1, h2, h3, h4, h5, h6, r⟩ := F
  refine ⟨cf, i, k, f, st, cell, h1, h2, h3, h4, K.2.1 _ _ h5 (fun q => ?_), h6, r⟩
  cases List.mem_singleton.mp q
  obtain ⟨cl, ty, g1, ⟨g2, -⟩, -⟩ := A
  cases h5.symm.trans g1
  revert h6
  cases hv : cell.vm <;> simp_all [VmData.isStatics]
theorem own_go {g g' : JFrame} (h : ∀ t, Steps p.tables e below (T'.setTop g') t → Steps p.tables e below (T.setTop g) t) (k : Own p e below s kc ks Q T' g') : Own p e below s kc ks Q T g := by
  obtain ⟨s₂, o, h1, r⟩ := k
  exact ⟨s₂, o, h _ h1, r⟩
theorem own_to (T' : State) (g' : JFrame) {g : JFrame} (h : ∀ t, Steps p.tables e below (T'.setTop g') t → Steps p.tables e below (T.setTop g) t) (k : Own p e below s kc ks Q T' g') : Own p e below s kc ks Q T g := own_go h k
theorem own_ret (X : Stand p l e R s m args below meth c T locs cells slots) (hx : p.tables.exec = Jvm.exec) {pc : Nat} {Ls : Array Slot} {w : Value} {t : FieldType} {i : Instr} {rest : List Value} (hret : meth.sig.returnType = some t) (hlk : meth.locks = false) (hn : narrow t w = w)
    (hi : (i = .ireturn ∧ (t = .int ∨ t = .boolean ∨ t = .byte ∨ t = .char ∨ t = .short) ∧ ∃ z, w = .int z) ∨ (i = .lreturn ∧ t = .long ∧ ∃ z, w = .long z) ∨ (i = .dreturn ∧ t = .double ∧ ∃ z, w = .double z) ∨ (i = .freturn ∧ t = .float ∧ ∃ z, w = .float z) ∨ (i = .areturn ∧ t.isReference = true ∧ w.isRef = true))
    (hd : decode c.code pc = .ok (i, 1)) (hc : cells ≤ kc) (hs : slots ≤ ks) (q : Q (some w) T.heap locs) : Own p e below s kc ks Q T (mkF m pc Ls (w :: rest)) := by
  obtain ⟨fs, hr, hrun, hended, hW, hsame⟩ := X.leave (v := some w) (fun h => by rw [hret] at h; cases h) hlk
  exact ⟨_, _, retOut X hx hret hn hi hd hr, hrun, hended, _, locs, rfl, q, ⟨_, rfl⟩, hW, hsame.mono hc hs⟩
theorem own_retI (X : Stand p l e R s m args below meth c T locs cells slots) (hx : p.tables.exec = Jvm.exec) {pc : Nat} {Ls : Array Slot} {z : Int32} {rest : List Value} (hret : meth.sig.returnType = some .int) (hlk : meth.locks = false)
    (hd : decode c.code pc = .ok (.ireturn, 1)) (hc : cells ≤ kc) (hs : slots ≤ ks) (q : Q (some (.int z)) T.heap locs) : Own p e below s kc ks Q T (mkF m pc Ls (.int z :: rest)) :=
  own_ret X hx hret hlk rfl (Or.inl ⟨rfl, Or.inl rfl, _, rfl⟩) hd hc hs q
theorem own_retZ (X : Stand p l e R s m args below meth c T locs cells slots) (hx : p.tables.exec = Jvm.exec) {pc : Nat} {Ls : Array Slot} {z : Int32} {rest : List Value} (hret : meth.sig.returnType = some .boolean) (hlk : meth.locks = false)
    (hd : decode c.code pc = .ok (.ireturn, 1)) (hc : cells ≤ kc) (hs : slots ≤ ks) (hz : z = 0 ∨ z = 1) (q : Q (some (.int z)) T.heap locs) : Own p e below s kc ks Q T (mkF m pc Ls (.int z :: rest)) :=
  own_ret X hx hret hlk (by rcases hz with rfl | rfl <;> rfl) (Or.inl ⟨rfl, Or.inr (Or.inl rfl), _, rfl⟩) hd hc hs q
theorem own_retC (X : Stand p l e R s m args below meth c T locs cells slots) (hx : p.tables.exec = Jvm.exec) {pc : Nat} {Ls : Array Slot} {z : Int32} {rest : List Value} (hret : meth.sig.returnType = some .char) (hlk : meth.locks = false)
    (hd : decode c.code pc = .ok (.ireturn, 1)) (hc : cells ≤ kc) (hs : slots ≤ ks) (hz : z.toUInt32.toUInt16.toUInt32.toInt32 = z) (q : Q (some (.int z)) T.heap locs) : Own p e below s kc ks Q T (mkF m pc Ls (.int z :: rest)) :=
  own_ret X hx hret hlk (congrArg Value.int hz) (Or.inl ⟨rfl, Or.inr (Or.inr (Or.inr (Or.inl rfl))), _, rfl⟩) hd hc hs q
theorem own_retB (X : Stand p l e R s m args below meth c T locs cells slots) (hx : p.tables.exec = Jvm.exec) {pc : Nat} {Ls : Array Slot} {z : Int32} {rest : List Value} (hret : meth.sig.returnType = some .byte) (hlk : meth.locks = false)
    (hd : decode c.code pc = .ok (.ireturn, 1)) (hc : cells ≤ kc) (hs : slots ≤ ks) (hz : z.toInt8.toInt32 = z) (q : Q (some (.int z)) T.heap locs) : Own p e below s kc ks Q T (mkF m pc Ls (.int z :: rest)) :=
  own_ret X hx hret hlk (congrArg Value.int hz) (Or.inl ⟨rfl, Or.inr (Or.inr (Or.inl rfl)), _, rfl⟩) hd hc hs q
theorem own_cat1 {v : Value} (h : v.isRef = true) : v.category = 1 := by cases v <;> first | rfl | cases h
theorem own_retJ (X : Stand p l e R s m args below meth c T locs cells slots) (hx : p.tables.exec = Jvm.exec) {pc : Nat} {Ls : Array Slot} {z : Int64} {rest : List Value} (hret : meth.sig.returnType = some .long) (hlk : meth.locks = false)
    (hd : decode c.code pc = .ok (.lreturn, 1)) (hc : cells ≤ kc) (hs : slots ≤ ks) (q : Q (some (.long z)) T.heap locs) : Own p e below s kc ks Q T (mkF m pc Ls (.long z :: rest)) :=
  own_ret X hx hret hlk rfl (Or.inr (Or.inl ⟨rfl, rfl, _, rfl⟩)) hd hc hs q
theorem own_retD (X : Stand p l e R s m args below meth c T locs cells slots) (hx : p.tables.exec = Jvm.exec) {pc : Nat} {Ls : Array Slot} {z : UInt64} {rest : List Value} (hret : meth.sig.returnType = some .double) (hlk : meth.locks = false)
    (hd : decode c.code pc = .ok (.dreturn, 1)) (hc : cells ≤ kc) (hs : slots ≤ ks) (q : Q (some (.double z)) T.heap locs) : Own p e below s kc ks Q T (mkF m pc Ls (.double z :: rest)) :=
  own_ret X hx hret hlk rfl (Or.inr (Or.inr (Or.inl ⟨rfl, rfl, _, rfl⟩))) hd hc hs q
theorem own_retA (X : Stand p l e R s m args below meth c T locs cells slots) (hx : p.tables.exec = Jvm.exec) {pc : Nat} {Ls : Array Slot} {w : Value} {t : FieldType} {rest : List Value} (hret : meth.sig.returnType = some t) (hlk : meth.locks = false)
    (ht : t.isReference = true) (hw : w.isRef = true) (hd : decode c.code pc = .ok (.areturn, 1)) (hc : cells ≤ kc) (hs : slots ≤ ks) (q : Q (some w) T.heap locs) : Own p e below s kc ks Q T (mkF m pc Ls (w :: rest)) :=
  own_ret X hx hret hlk (by cases t <;> cases w <;> first | rfl | (cases ht; done) | (cases hw; done)) (Or.inr (Or.inr (Or.inr (Or.inr ⟨rfl, ht, hw⟩)))) hd hc hs q
theorem own_retV (X : Stand p l e R s m args below meth c T locs cells slots) (hx : p.tables.exec = Jvm.exec) {pc : Nat} {Ls : Array Slot} (hret : meth.sig.returnType = none) (hlk : meth.locks = false)
    (hd : decode c.code pc = .ok (.return_, 1)) (hc : cells ≤ kc) (hs : slots ≤ ks) (q : Q none T.heap locs) : Own p e below s kc ks Q T (mkF m pc Ls []) := by
  obtain ⟨fs, hr, hrun, hended, hW, hsame⟩ := X.leave (v := none) (fun _ => rfl) hlk
  exact ⟨_, _, X.returnOut hx hret hd hr, hrun, hended, _, locs, rfl, q, ⟨_, rfl⟩, hW, hsame.mono hc hs⟩
/-- a body's contract out of its walk -/
theorem own_met {Z : State} {h0 : Heap} {y : MethodName} {bytes : ByteArray} {ml : Nat} {ret : Option FieldType} {ws : List Jvm.Cond} {rm : Room} {as' : Array Value} (hp : plainFor y = true)
    (body : ∀ (p : Program) (e : Env) (s : State) (m : MethodId) (below : List Frame) (meth : Method) (c : Code) (s₁ : State), Stand p l e rm s m as' below meth c s₁ [] 0 0 → p.tables.exec = Jvm.exec → c.code = bytes → c.maxLocals = ml → meth.sig.returnType = ret → meth.locks = false →
      s.vm.findClass y.cls = some m.cls → meth.name = y.name → Z.Warmed39 s.vm → s₁.heap = h0 → Own p e below s rm.cells rm.slots Q s₁ (entryFrame m as' ml)) :
    MetFree l y (head1 (Jvm.Cond.code y bytes ml ret :: ws) rm) (fun a U => a = as' ∧ Z.Warmed39 U.vm ∧ U.heap = h0) (fun _ _ _ _ _ => True) (fun _ U o U' => ∃ v L, o = .returned v ∧ Q v U'.heap L ∧ FrameEnd U o U' L rm.cells rm.slots) := by
  refine MetFree.of_bodySF hp hisR ?_
  intro p e s m args below meth c s₁ Bd hml0 hP hK
  obtain ⟨rfl, hZ, hh⟩ := hP
  exact body p e s m below meth c s₁ (Stand.of_body Bd) Bd.exec Bd.bytes hml0 Bd.returns Bd.notSynchronized (findClass_of_methodNamed Bd.named) (name_of_methodNamed Bd.named Bd.method).1 hZ (by rw [← hh, Bd.state]; rfl)
theorem own_entry {g g' : JFrame} (q : g = g') (k : Own p e below s kc ks Q T g') : Own p e below s kc ks Q T g := q ▸ k
theorem own_mvMN {Z s : State} {a0 args : Array Value} {own host : String} {index : Nat} {y : MethodName} (hZ : Z.Warmed39 s.vm) (w : (Jvm.Cond.methodLinkNest own index y host).before a0 Z = true) : (Jvm.Cond.methodLinkNest own index y host).before args s = true := (Jvm.Cond.methodLinkNest_wide hZ w :)
theorem own_w {Z : State} {a0 : Array Value} (hw : ∀ d ∈ tables_1, d.before a0 Z = true) (i : Nat) {d : Jvm.Cond} (h : tables_1[i]? = some d) : d.before a0 Z = true := hw _ (List.mem_of_getElem? h)
end OwnKit
/-! own kit, wide: a walk that may load a String constant for the first time -/
section OwnWide
def OwnW (p : Program) (e : Env) (below : List Frame) (s : State) (kc ks : Nat) (Q : Option Value → Heap → List Loc → Prop) (T : State) (g : JFrame) : Prop :=
  ∃ s₂ o, Steps p.tables e below (T.setTop g) s₂ ∧ s₂.status = .running ∧ Ended s₂ below o ∧ ∃ v L, o = .returned v ∧ Q v s₂.heap L ∧ ReturnedEndW s o s₂ L kc ks
variable {p : Program} {l : Launch} {e : Env} {R : Room} {s : State} {m : MethodId} {args : Array Value} {below : List Frame} {meth : Method} {c : Code} {T T' : State} {locs : List Loc} {cells slots kc ks : Nat} {Q : Option Value → Heap → List Loc → Prop} {vm0 : Vm} {k0 : Nat}
theorem own_toW (T' : State) (g' : JFrame) {g : JFrame} (h : ∀ t, Steps p.tables e below (T'.setTop g') t → Steps p.tables e below (T.setTop g) t) (k : OwnW p e below s kc ks Q T' g') : OwnW p e below s kc ks Q T g := by
  obtain ⟨s₂, o, h1, r⟩ := k
  exact ⟨s₂, o, h _ h1, r⟩
theorem own_retWx (X : Stand p l e R (s.setVm vm0) m args below meth c T locs cells slots) (hS : s.Since vm0 k0) (hk : k0 ≤ T.heap.size) (hx : p.tables.exec = Jvm.exec) {pc : Nat} {Ls : Array Slot} {w : Value} {t : FieldType} {i : Instr} {rest : List Value} (hret : meth.sig.returnType = some t) (hlk : meth.locks = false) (hn : narrow t w = w)
    (hi : (i = .ireturn ∧ (t = .int ∨ t = .boolean ∨ t = .byte ∨ t = .char ∨ t = .short) ∧ ∃ z, w = .int z) ∨ (i = .lreturn ∧ t = .long ∧ ∃ z, w = .long z) ∨ (i = .dreturn ∧ t = .double ∧ ∃ z, w = .double z) ∨ (i = .freturn ∧ t = .float ∧ ∃ z, w = .float z) ∨ (i = .areturn ∧ t.isReference = true ∧ w.isRef = true))
    (hd : decode c.code pc = .ok (i, 1)) (hc : cells ≤ kc) (hs : slots ≤ ks) (q : Q (some w) T.heap locs) : OwnW p e below s kc ks Q T (mkF m pc Ls (w :: rest)) := by
  obtain ⟨fs, hr, hrun, hended, h1, h2, h3, h4⟩ := X.leaveW hS hk (v := some w) (fun h => by rw [hret] at h; cases h) hlk
  exact ⟨_, _, retOut X hx hret hn hi hd hr, hrun, hended, _, locs, rfl, q, h1, h2, h3, h4.mono hc hs⟩
theorem own_retZW (X : Stand p l e R (s.setVm vm0) m args below meth c T locs cells slots) (hS : s.Since vm0 k0) (hk : k0 ≤ T.heap.size) (hx : p.tables.exec = Jvm.exec) {pc : Nat} {Ls : Array Slot} {z : Int32} {rest : List Value} (hret : meth.sig.returnType = some .boolean) (hlk : meth.locks = false)
    (hd : decode c.code pc = .ok (.ireturn, 1)) (hc : cells ≤ kc) (hs : slots ≤ ks) (hz : z = 0 ∨ z = 1) (q : Q (some (.int z)) T.heap locs) : OwnW p e below s kc ks Q T (mkF m pc Ls (.int z :: rest)) :=
  own_retWx X hS hk hx hret hlk (by rcases hz with rfl | rfl <;> rfl) (Or.inl ⟨rfl, Or.inr (Or.inl rfl), _, rfl⟩) hd hc hs q
theorem own_retAW (X : Stand p l e R (s.setVm vm0) m args below meth c T locs cells slots) (hS : s.Since vm0 k0) (hk : k0 ≤ T.heap.size) (hx : p.tables.exec = Jvm.exec) {pc : Nat} {Ls : Array Slot} {w : Value} {t : FieldType} {rest : List Value} (hret : meth.sig.returnType = some t) (hlk : meth.locks = false)
    (ht : t.isReference = true) (hw : w.isRef = true) (hd : decode c.code pc = .ok (.areturn, 1)) (hc : cells ≤ kc) (hs : slots ≤ ks) (q : Q (some w) T.heap locs) : OwnW p e below s kc ks Q T (mkF m pc Ls (w :: rest)) :=
  own_retWx X hS hk hx hret hlk (by cases t <;> cases w <;> first | rfl | (cases ht; done) | (cases hw; done)) (Or.inr (Or.inr (Or.inr (Or.inr ⟨rfl, ht, hw⟩)))) hd hc hs q
theorem own_retVW (X : Stand p l e R (s.setVm vm0) m args below meth c T locs cells slots) (hS : s.Since vm0 k0) (hk : k0 ≤ T.heap.size) (hx : p.tables.exec = Jvm.exec) {pc : Nat} {Ls : Array Slot} (hret : meth.sig.returnType = none) (hlk : meth.locks = false)
    (hd : decode c.code pc = .ok (.return_, 1)) (hc : cells ≤ kc) (hs : slots ≤ ks) (q : Q none T.heap locs) : OwnW p e below s kc ks Q T (mkF m pc Ls []) := by
  obtain ⟨fs, hr, hrun, hended, h1, h2, h3, h4⟩ := X.leaveW hS hk (v := none) (fun _ => rfl) hlk
  exact ⟨_, _, X.returnOut hx hret hd hr, hrun, hended, _, locs, rfl, q, h1, h2, h3, h4.mono hc hs⟩
theorem own_metW {Z : State} {h0 : Heap} {y : MethodName} {bytes : ByteArray} {ml : Nat} {ret : Option FieldType} {ws : List Jvm.Cond} {rm : Room} {as' : Array Value} (hp : plainFor y = true)
    (body : ∀ (p : Program) (e : Env) (s : State) (m : MethodId) (below : List Frame) (meth : Method) (c : Code) (s₁ : State), Stand p l e rm (s.setVm s.vm) m as' below meth c s₁ [] 0 0 → p.tables.exec = Jvm.exec → c.code = bytes → c.maxLocals = ml → meth.sig.returnType = ret → meth.locks = false →
      (s.setVm s.vm).vm.findClass y.cls = some m.cls → meth.name = y.name → Z.Warmed39 (s.setVm s.vm).vm → s₁.heap = h0 → s.Since s.vm h0.size → OwnW p e below s rm.cells rm.slots Q s₁ (entryFrame m as' ml)) :
    MetFree l y (head1 (Jvm.Cond.code y bytes ml ret :: ws) rm) (fun a U => a = as' ∧ Z.Warmed39 U.vm ∧ U.heap = h0) (fun _ _ _ _ _ => True) (fun _ U o U' => ∃ v L, o = .returned v ∧ Q v U'.heap L ∧ ReturnedEndW U o U' L rm.cells rm.slots) := by
  refine MetFree.of_bodySF hp hisR ?_
  intro p e s m args below meth c s₁ Bd hml0 hP hK
  obtain ⟨rfl, hZ, hh⟩ := hP
  have X0 : Stand p l e rm s m _ below meth c s₁ [] 0 0 := Stand.of_body Bd
  have h0' : s₁.heap = h0 := by rw [← hh, Bd.state]; rfl
  have hw : s.WarmedH s.vm := by
    have q := X0.warmed
    rw [Bd.state] at q
    exact q
  exact body p e s m below meth c s₁ X0 Bd.exec Bd.bytes hml0 Bd.returns Bd.notSynchronized (findClass_of_methodNamed Bd.named) (name_of_methodNamed Bd.named Bd.method).1 hZ h0' (hw.since _)
theorem own_entryW {g g' : JFrame} (q : g = g') (k : OwnW p e below s kc ks Q T g') : OwnW p e below s kc ks Q T g := q ▸ k
end OwnWide
/-! own kit, held: a walk that loads String constants and reads them (LawHeld's invariant goes with it) -/
section OwnHeld
def OwnH (Z : State) (EL : List (String × Nat)) (p : Program) (e : Env) (below : List Frame) (s : State) (kc ks : Nat) (Q : Option Value → Heap → List Loc → Prop) (T : State) (g : JFrame) : Prop :=
  ∃ s₂ o, Steps p.tables e below (T.setTop g) s₂ ∧ s₂.status = .running ∧ Ended s₂ below o ∧ ∃ v L, o = .returned v ∧ Q v s₂.heap L ∧ CHr Z EL s.vm s.heap s₂.vm s₂.heap ∧ ReturnedEndW s o s₂ L kc ks
variable {Z : State} {a0 : Array Value} {EL : List (String × Nat)} {p : Program} {l : Launch} {e : Env} {R : Room} {s : State} {m : MethodId} {args : Array Value} {below : List Frame} {meth : Method} {c : Code} {T T' : State} {locs : List Loc} {cells slots kc ks : Nat} {Q : Option Value → Heap → List Loc → Prop} {vm0 : Vm} {k0 : Nat}
theorem own_toH (T' : State) (g' : JFrame) {g : JFrame} (h : ∀ t, Steps p.tables e below (T'.setTop g') t → Steps p.tables e below (T.setTop g) t) (k : OwnH Z EL p e below s kc ks Q T' g') : OwnH Z EL p e below s kc ks Q T g := by
  obtain ⟨s₂, o, h1, r⟩ := k
  exact ⟨s₂, o, h _ h1, r⟩
theorem own_retHx (X : Stand p l e R (s.setVm vm0) m args below meth c T locs cells slots) (hS : s.Since vm0 k0) (hk : k0 ≤ T.heap.size) (hZ : Z.Warmed39 vm0) (hEL : EW Z a0 EL) (C : CHr Z EL s.vm s.heap vm0 T.heap) (hx : p.tables.exec = Jvm.exec) {pc : Nat} {Ls : Array Slot} {w : Value} {t : FieldType} {i : Instr} {rest : List Value} (hret : meth.sig.returnType = some t) (hlk : meth.locks = false) (hn : narrow t w = w)
    (hi : (i = .ireturn ∧ (t = .int ∨ t = .boolean ∨ t = .byte ∨ t = .char ∨ t = .short) ∧ ∃ z, w = .int z) ∨ (i = .lreturn ∧ t = .long ∧ ∃ z, w = .long z) ∨ (i = .dreturn ∧ t = .double ∧ ∃ z, w = .double z) ∨ (i = .freturn ∧ t = .float ∧ ∃ z, w = .float z) ∨ (i = .areturn ∧ t.isReference = true ∧ w.isRef = true))
    (hd : decode c.code pc = .ok (i, 1)) (hc : cells ≤ kc) (hs : slots ≤ ks) (q : Q (some w) T.heap locs) : OwnH Z EL p e below s kc ks Q T (mkF m pc Ls (w :: rest)) := by
  obtain ⟨fs, hr, hrun, hended, h1, h2, h3, h4⟩ := X.leaveW hS hk (v := some w) (fun h => by rw [hret] at h; cases h) hlk
  exact ⟨_, _, retOut X hx hret hn hi hd hr, hrun, hended, _, locs, rfl, q, (have C2 := C.trans (CHv.at X hZ hEL C.1); C2), h1, h2, h3, h4.mono hc hs⟩
theorem own_retZH (X : Stand p l e R (s.setVm vm0) m args below meth c T locs cells slots) (hS : s.Since vm0 k0) (hk : k0 ≤ T.heap.size) (hZ : Z.Warmed39 vm0) (hEL : EW Z a0 EL) (C : CHr Z EL s.vm s.heap vm0 T.heap) (hx : p.tables.exec = Jvm.exec) {pc : Nat} {Ls : Array Slot} {z : Int32} {rest : List Value} (hret : meth.sig.returnType = some .boolean) (hlk : meth.locks = false)
    (hd : decode c.code pc = .ok (.ireturn, 1)) (hc : cells ≤ kc) (hs : slots ≤ ks) (hz : z = 0 ∨ z = 1) (q : Q (some (.int z)) T.heap locs) : OwnH Z EL p e below s kc ks Q T (mkF m pc Ls (.int z :: rest)) :=
  own_retHx X hS hk hZ hEL C hx hret hlk (by rcases hz with rfl | rfl <;> rfl) (Or.inl ⟨rfl, Or.inr (Or.inl rfl), _, rfl⟩) hd hc hs q
theorem own_retAH (X : Stand p l e R (s.setVm vm0) m args below meth c T locs cells slots) (hS : s.Since vm0 k0) (hk : k0 ≤ T.heap.size) (hZ : Z.Warmed39 vm0) (hEL : EW Z a0 EL) (C : CHr Z EL s.vm s.heap vm0 T.heap) (hx : p.tables.exec = Jvm.exec) {pc : Nat} {Ls : Array Slot} {w : Value} {t : FieldType} {rest : List Value} (hret : meth.sig.returnType = some t) (hlk : meth.locks = false)
    (ht : t.isReference = true) (hw : w.isRef = true) (hd : decode c.code pc = .ok (.areturn, 1)) (hc : cells ≤ kc) (hs : slots ≤ ks) (q : Q (some w) T.heap locs) : OwnH Z EL p e below s kc ks Q T (mkF m pc Ls (w :: rest)) :=
  own_retHx X hS hk hZ hEL C hx hret hlk (by cases t <;> cases w <;> first | rfl | (cases ht; done) | (cases hw; done)) (Or.inr (Or.inr (Or.inr (Or.inr ⟨rfl, ht, hw⟩)))) hd hc hs q
theorem own_retVH (X : Stand p l e R (s.setVm vm0) m args below meth c T locs cells slots) (hS : s.Since vm0 k0) (hk : k0 ≤ T.heap.size) (hZ : Z.Warmed39 vm0) (hEL : EW Z a0 EL) (C : CHr Z EL s.vm s.heap vm0 T.heap) (hx : p.tables.exec = Jvm.exec) {pc : Nat} {Ls : Array Slot} (hret : meth.sig.returnType = none) (hlk : meth.locks = false)
    (hd : decode c.code pc = .ok (.return_, 1)) (hc : cells ≤ kc) (hs : slots ≤ ks) (q : Q none T.heap locs) : OwnH Z EL p e below s kc ks Q T (mkF m pc Ls []) := by
  obtain ⟨fs, hr, hrun, hended, h1, h2, h3, h4⟩ := X.leaveW hS hk (v := none) (fun _ => rfl) hlk
  exact ⟨_, _, X.returnOut hx hret hd hr, hrun, hended, _, locs, rfl, q, (have C2 := C.trans (CHv.at X hZ hEL C.1); C2), h1, h2, h3, h4.mono hc hs⟩
theorem own_metH {h0 : Heap} {y : MethodName} {bytes : ByteArray} {ml : Nat} {ret : Option FieldType} {ws : List Jvm.Cond} {rm : Room} {as' : Array Value} (hp : plainFor y = true)
    (body : ∀ (p : Program) (e : Env) (s : State) (m : MethodId) (below : List Frame) (meth : Method) (c : Code) (s₁ : State), Stand p l e rm (s.setVm s.vm) m as' below meth c s₁ [] 0 0 → p.tables.exec = Jvm.exec → c.code = bytes → c.maxLocals = ml → meth.sig.returnType = ret → meth.locks = false →
      (s.setVm s.vm).vm.findClass y.cls = some m.cls → meth.name = y.name → Z.Warmed39 (s.setVm s.vm).vm → s₁.heap = h0 → s.Since s.vm h0.size → CHr Z EL s.vm s.heap s.vm h0 → OwnH Z EL p e below s rm.cells rm.slots Q s₁ (entryFrame m as' ml)) :
    MetFree l y (head1 (Jvm.Cond.code y bytes ml ret :: ws) rm) (fun a U => a = as' ∧ Z.Warmed39 U.vm ∧ U.heap = h0 ∧ CHv Z EL U.vm h0) (fun _ _ _ _ _ => True) (fun _ U o U' => ∃ v L, o = .returned v ∧ Q v U'.heap L ∧ CHr Z EL U.vm U.heap U'.vm U'.heap ∧ ReturnedEndW U o U' L rm.cells rm.slots) := by
  refine MetFree.of_bodySF hp hisR ?_
  intro p e s m args below meth c s₁ Bd hml0 hP hK
  obtain ⟨rfl, hZ, hh, hC⟩ := hP
  have X0 : Stand p l e rm s m _ below meth c s₁ [] 0 0 := Stand.of_body Bd
  have h0' : s₁.heap = h0 := by rw [← hh, Bd.state]; rfl
  have hw : s.WarmedH s.vm := by
    have q := X0.warmed
    rw [Bd.state] at q
    exact q
  have hC0 : CHr Z EL s.vm s.heap s.vm h0 := by rw [hh]; exact CHr.refl hC
  exact body p e s m below meth c s₁ X0 Bd.exec Bd.bytes hml0 Bd.returns Bd.notSynchronized (findClass_of_methodNamed Bd.named) (name_of_methodNamed Bd.named Bd.method).1 hZ h0' (hw.since _) hC0
theorem own_metHS {h0 : Heap} {xs : Addr} {y : MethodName} {bytes : ByteArray} {ml : Nat} {ret : Option FieldType} {ws : List Jvm.Cond} {rm : Room} {as' : Array Value} (hp : plainFor y = true)
    (body : ∀ (p : Program) (e : Env) (s : State) (m : MethodId) (below : List Frame) (meth : Method) (c : Code) (s₁ : State), Stand p l e rm (s.setVm s.vm) m as' below meth c s₁ [] 0 0 → p.tables.exec = Jvm.exec → c.code = bytes → c.maxLocals = ml → meth.sig.returnType = ret → meth.locks = false →
      (s.setVm s.vm).vm.findClass y.cls = some m.cls → meth.name = y.name → Z.Warmed39 (s.setVm s.vm).vm → s₁.heap = h0 → s.Since s.vm h0.size → CHr Z EL s.vm s.heap s.vm h0 → Safe Z EL s.vm h0 xs → OwnH Z EL p e below s rm.cells rm.slots Q s₁ (entryFrame m as' ml)) :
    MetFree l y (head1 (Jvm.Cond.code y bytes ml ret :: ws) rm) (fun a U => a = as' ∧ Z.Warmed39 U.vm ∧ U.heap = h0 ∧ CHv Z EL U.vm h0 ∧ Safe Z EL U.vm h0 xs) (fun _ _ _ _ _ => True) (fun _ U o U' => ∃ v L, o = .returned v ∧ Q v U'.heap L ∧ CHr Z EL U.vm U.heap U'.vm U'.heap ∧ ReturnedEndW U o U' L rm.cells rm.slots) := by
  refine MetFree.of_bodySF hp hisR ?_
  intro p e s m args below meth c s₁ Bd hml0 hP hK
  obtain ⟨rfl, hZ, hh, hC, hSf⟩ := hP
  have X0 : Stand p l e rm s m _ below meth c s₁ [] 0 0 := Stand.of_body Bd
  have h0' : s₁.heap = h0 := by rw [← hh, Bd.state]; rfl
  have hw : s.WarmedH s.vm := by
    have q := X0.warmed
    rw [Bd.state] at q
    exact q
  have hC0 : CHr Z EL s.vm s.heap s.vm h0 := by rw [hh]; exact CHr.refl hC
  exact body p e s m below meth c s₁ X0 Bd.exec Bd.bytes hml0 Bd.returns Bd.notSynchronized (findClass_of_methodNamed Bd.named) (name_of_methodNamed Bd.named Bd.method).1 hZ h0' (hw.since _) hC0 hSf
theorem own_backSH {h : Heap} {xs : Addr} {y : MethodName} {bytes : ByteArray} {maxL : Nat} {ret : Option FieldType} {rm : Room} {len W : Nat} {as' : Array Value}
    (hM : MetFree l y (head1 [Cond.code y bytes maxL ret] rm) (fun a U => a = as' ∧ Z.Warmed39 U.vm ∧ U.heap = h ∧ CHv Z EL U.vm h ∧ Safe Z EL U.vm h xs) (fun _ _ _ _ _ => True) (fun _ U o U' => ∃ v L, o = .returned v ∧ Q v U'.heap L ∧ CHr Z EL U.vm U.heap U'.vm U'.heap ∧ ReturnedEndW U o U' L rm.cells rm.slots))
    (hZ : Z.Warmed39 vm0) (wc : (Cond.code y bytes maxL ret).before a0 Z = true) (wz : (Cond.initialized y.cls).before a0 Z = true) (hf : rm.frames + 1 ≤ R.frames) (hl : W + (maxL + 11) + rm.locals ≤ R.locals) (hEL : EW Z a0 EL) (H : CHv Z EL vm0 h) (hlt : xs < h.size) (S : Safe Z EL vm0 h xs) :
    BackS l R p e below (s.setVm vm0) args y len W (fun A a => a = as' ∧ A.U.heap = h ∧ A.cells + rm.cells ≤ R.cells ∧ A.slots + rm.slots ≤ R.slots)
      (fun A _ v B => ∃ L, Q v B.U.heap L ∧ B.locs = A.locs ++ L ∧ B.cells = A.cells + rm.cells ∧ B.slots = A.slots + rm.slots ∧ CHr Z EL vm0 h B.U.vm B.U.heap) :=
  BackS.of_freeW (bytes := bytes) (maxL := maxL) (ret := ret) (E := fun _ first o t L k n => k = rm.cells ∧ n = rm.slots ∧ (∃ v, o = .returned v ∧ Q v t.heap L) ∧ CHr Z EL first.vm first.heap t.vm t.heap) hM hf hl
    (fun m meth c A a Y hp => have hU : Z.Warmed39 A.U.vm := wtrans (s := s.setVm vm0) hZ Y.warmed
      ⟨by show (Cond.and _ .tt).before a A.U = true; rw [Cond.before_and, mv hU wc]; rfl, mv hU wc, mv hU wz, hp.2.2.1, hp.2.2.2⟩)
    (fun m meth c A a g mk Y hp => ⟨hp.1, wtrans (s := s.setVm vm0) hZ Y.warmed, hp.2.1, (CHv.at Y hZ hEL H).1, (CHv.at Y hZ hEL H).safe hlt S⟩) (fun _ _ _ _ _ _ _ _ _ => trivial)
    (fun _ _ _ _ ⟨v, L, h1, h2, h3, h4⟩ => ⟨L, _, _, h4, rfl, rfl, ⟨v, h1, h2⟩, h3⟩)
    (fun m meth c A a g mk v t L k n Y hp _ _ ⟨e1, e2, ⟨v', e3, e4⟩, e5⟩ => by
      cases e3; subst e1 e2
      refine ⟨L, e4, rfl, rfl, rfl, (CHv.at Y hZ hEL H).trans ?_⟩
      rw [← hp.2.1]; exact e5)
theorem own_metHW {h0 : Heap} {y : MethodName} {bytes : ByteArray} {ml : Nat} {ret : Option FieldType} {ws : List Jvm.Cond} {rm : Room} {as' : Array Value} (hp : plainFor y = true)
    (body : ∀ (p : Program) (e : Env) (s : State) (m : MethodId) (below : List Frame) (meth : Method) (c : Code) (s₁ : State), Stand p l e rm (s.setVm s.vm) m as' below meth c s₁ [] 0 0 → p.tables.exec = Jvm.exec → c.code = bytes → c.maxLocals = ml → meth.sig.returnType = ret → meth.locks = false →
      (s.setVm s.vm).vm.findClass y.cls = some m.cls → meth.name = y.name → Z.Warmed39 (s.setVm s.vm).vm → s₁.heap = h0 → s.Since s.vm h0.size → CHv Z EL s.vm h0 → OwnW p e below s rm.cells rm.slots Q s₁ (entryFrame m as' ml)) :
    MetFree l y (head1 (Jvm.Cond.code y bytes ml ret :: ws) rm) (fun a U => a = as' ∧ Z.Warmed39 U.vm ∧ U.heap = h0 ∧ CHv Z EL U.vm h0) (fun _ _ _ _ _ => True) (fun _ U o U' => ∃ v L, o = .returned v ∧ Q v U'.heap L ∧ ReturnedEndW U o U' L rm.cells rm.slots) := by
  refine MetFree.of_bodySF hp hisR ?_
  intro p e s m args below meth c s₁ Bd hml0 hP hK
  obtain ⟨rfl, hZ, hh, hC⟩ := hP
  have X0 : Stand p l e rm s m _ below meth c s₁ [] 0 0 := Stand.of_body Bd
  have h0' : s₁.heap = h0 := by rw [← hh, Bd.state]; rfl
  have hw : s.WarmedH s.vm := by
    have q := X0.warmed
    rw [Bd.state] at q
    exact q
  exact body p e s m below meth c s₁ X0 Bd.exec Bd.bytes hml0 Bd.returns Bd.notSynchronized (findClass_of_methodNamed Bd.named) (name_of_methodNamed Bd.named Bd.method).1 hZ h0' (hw.since _) hC
theorem own_entryH {g g' : JFrame} (q : g = g') (k : OwnH Z EL p e below s kc ks Q T g') : OwnH Z EL p e below s kc ks Q T g := q ▸ k
end OwnHeld
theorem own_sub : ∀ a ∈ Bundle.stringAtoms, a ∈ tables_1 := by decide +kernel
def own_upd (f : Nat → Int32) (i : Nat) (x : Int32) : Nat → Int32 := fun j => if j = i then x else f j
def BArr (Z : State) (h : Heap) (a : Addr) (n : Nat) (f : Nat → Int32) : Prop := ∃ c : Cell, Arr Z h a c .byte ∧ c.slots.size = n ∧ ∀ i, i < n → c.slots[i]? = some (.int (f i))
theorem BArr.lt {Z : State} {h : Heap} {a : Addr} {n : Nat} {f : Nat → Int32} (F : BArr Z h a n f) : a < h.size := by obtain ⟨c, A, -⟩ := F; exact A.lt
theorem BArr.ext {Z : State} {h h' : Heap} {a : Addr} {n : Nat} {f : Nat → Int32} (F : BArr Z h a n f) (E : Ext h h') : BArr Z h' a n f := by obtain ⟨c, A, r⟩ := F; exact ⟨c, A.ext E, r⟩
theorem BArr.other {Z : State} {h h' : Heap} {a : Addr} {n : Nat} {f : Nat → Int32} {b : Addr} {sl : Nat} {v : Value} (F : BArr Z h b n f) (W : Wr h h' a sl v) (q : b ≠ a) : BArr Z h' b n f := by obtain ⟨c, A, r⟩ := F; exact ⟨c, A.other W q, r⟩
theorem BArr.keep {Z : State} {h h' : Heap} {a : Addr} {n : Nat} {f : Nat → Int32} {ws : List Addr} (F : BArr Z h a n f) (K : Keep h h' ws) (q : a ∉ ws) : BArr Z h' a n f := by obtain ⟨c, A, r⟩ := F; exact ⟨c, ⟨K.2.1 a c A.1 q, A.2⟩, r⟩
theorem BArr.new {Z : State} {h : Heap} {a : Addr} {k : ClassId} {z : Int32} {n : Nat} (A : Arr Z h a (newA k .byte z) .byte) (hz : z.toNatClampNeg = n) : BArr Z h a n (fun _ => 0) := by
  refine ⟨_, A, (sz_new _ _ _).trans hz, fun i hi => ?_⟩
  subst hz
  simp only [newA, Array.getElem?_replicate, if_pos hi]
  rfl
theorem BArr.set {Z : State} {h h' : Heap} {a : Addr} {n : Nat} {f : Nat → Int32} {c : Cell} {j : Int32} {x : Int32} (A : Arr Z h a c .byte) (hs : c.slots.size = n) (hat : ∀ i, i < n → c.slots[i]? = some (.int (f i))) (W : Wr h h' a j.toNatClampNeg (.int (nar .byte x))) {i : Nat} (hj : j.toNatClampNeg = i) : BArr Z h' a n (own_upd f i (x.toInt8.toInt32)) := by
  subst hj
  refine ⟨_, A.same W, (sz_set _ _ _).trans hs, fun i hi => ?_⟩
  simp only [Cell.setSlot, Array.getElem?_setIfInBounds, own_upd]
  by_cases q : j.toNatClampNeg = i
  · subst q
    rw [if_pos rfl, if_pos (by rw [hs]; exact hi), if_pos rfl]
    first | rfl | done
  · rw [if_neg q, if_neg (fun z => q z.symm)]
    exact hat i hi
theorem BArr.eq {Z : State} {h : Heap} {a : Addr} {n : Nat} {f : Nat → Int32} {g : Nat → Int32} (F : BArr Z h a n f) (q : f = g) : BArr Z h a n g := q ▸ F
theorem own_shr0 (x : Int32) : x >>> ((0 : Int32) &&& 31) = x := by
  rw [show (0 : Int32) &&& 31 = 0 from rfl]; exact Int32.shiftRight_zero
theorem own_i2cc {x y : Int32} (h : x.toUInt32.toUInt16.toUInt32.toInt32 = y) : y.toUInt32.toUInt16.toUInt32.toInt32 = y := by
  subst h
  have q := c_i2c x
  have r := c_i2c (x.toUInt32.toUInt16.toUInt32.toInt32)
  rw [← Int32.toInt_inj]
  omega
theorem own_ltn {a b : Nat} (ha : a < 1000) (hb : b < 1000) : Int32.ofNat a < Int32.ofNat b ↔ a < b := by
  rw [Int32.lt_iff_toInt_lt, toInt_of (n := Int32.ofNat a) rfl (by omega), toInt_of (n := Int32.ofNat b) rfl (by omega)]
  omega
theorem own_eqn {a b : Nat} (ha : a < 1000) (hb : b < 1000) : Int32.ofNat a = Int32.ofNat b ↔ a = b := by
  rw [← Int32.toInt_inj, toInt_of (n := Int32.ofNat a) rfl (by omega), toInt_of (n := Int32.ofNat b) rfl (by omega)]
  omega
theorem own_nonneg {n : Nat} (hn : n < 1000) : ¬ Int32.ofNat n < (0 : Int32) := by
  rw [Int32.lt_iff_toInt_lt, toInt_of rfl (by omega)]
  have z : (0 : Int32).toInt = 0 := by decide
  omega
theorem own_addn (a b : Nat) (ha : a < 1000) (hb : b < 1000) : Int32.ofNat a + Int32.ofNat b = Int32.ofNat (a + b) := by
  rw [← Int32.toInt_inj, toInt_of (n := Int32.ofNat (a + b)) rfl (by omega)]
  have q := c_iadd (Int32.ofNat a) (Int32.ofNat b)
  rw [toInt_of (n := Int32.ofNat a) rfl (by omega), toInt_of (n := Int32.ofNat b) rfl (by omega)] at q
  have r := rng32 (Int32.ofNat a + Int32.ofNat b)
  omega
theorem own_subn (a b : Nat) (h : b ≤ a) (ha : a < 1000) : Int32.ofNat a - Int32.ofNat b = Int32.ofNat (a - b) := by
  rw [← Int32.toInt_inj, toInt_of (n := Int32.ofNat (a - b)) rfl (by omega)]
  have q := c_isub (Int32.ofNat a) (Int32.ofNat b)
  rw [toInt_of (n := Int32.ofNat a) rfl (by omega), toInt_of (n := Int32.ofNat b) rfl (by omega)] at q
  have r := rng32 (Int32.ofNat a - Int32.ofNat b)
  omega
/-- an array that the library tells by its list -/
theorem own_barr {Z : State} {h : Heap} {a : Addr} {k : ClassId} {z : Int32} {bs : List Int32} {n : Nat} (F : Arv Z h a k .byte z (bs.map Value.int) (.int 0)) (hn : bs.length = n) (hz : z.toNatClampNeg = n) : BArr Z h a n (fun i => bs.getD i 0) := by
  obtain ⟨c, A, -, hs, -, hh, -⟩ := F
  refine ⟨c, A, hs.trans hz, fun i hi => ?_⟩
  have q := hh i (by rw [hs, hz]; exact hi)
  rw [q]
  simp [List.getD, List.getElem?_map]
theorem d8_0 : decode jdk_42_method_152_code 0 = .ok (.getstatic 38, 3) := by decide +kernel
theorem d8_3 : decode jdk_42_method_152_code 3 = .ok (.ifCond .eq 10, 3) := by decide +kernel
theorem d8_6 : decode jdk_42_method_152_code 6 = .ok (.aload_n 0, 1) := by decide +kernel
theorem d8_7 : decode jdk_42_method_152_code 7 = .ok (.getfield 15, 3) := by decide +kernel
theorem d8_10 : decode jdk_42_method_152_code 10 = .ok (.goto 4, 3) := by decide +kernel
theorem d8_13 : decode jdk_42_method_152_code 13 = .ok (.iconst 1, 1) := by decide +kernel
theorem d8_14 : decode jdk_42_method_152_code 14 = .ok (.ireturn, 1) := by decide +kernel
theorem pn_8 : plainName "java/lang/String" = true := by first | (simp [plainName, overriddenIn]; done) | decide +kernel
theorem ef_8_R (m : MethodId) (x0 : Addr) : entryFrame m #[(.ref x0)] 1 = mkF m 0 #[.val (.ref x0)] [] := by first | (simp [entryFrame, mkF, argsToLocals, Value.category]; done) | rfl
def Q_rmCod (Z : State) (a1 : Addr) (G1 : Int32) (h0 : Heap) (n0 : Nat) (v : Option Value) (h : Heap) (L : List Loc) : Prop := v = some (.int (0 : Int32)) ∧ Fr n0 L ∧ h = h0
set_option maxRecDepth 65536 in
set_option maxHeartbeats 40000000 in
theorem rmCod (l : Launch) (Z : State) (a0 : Array Value) (hw : ∀ d ∈ tables_1, d.before a0 Z = true) (ws : List Jvm.Cond) (a1 : Addr) (G1 : Int32) (h0 : Heap) (n0 : Nat) (Z0 : n0 ≤ h0.size) (O2 : Sta Z h0 "java/lang/String" "COMPACT_STRINGS" "Z" (.int G1)) (hG : ¬ G1 = (0 : Int32)) (F2 : Fld Z h0 a1 "java/lang/String" "coder" "B" (.int (0 : Int32))) :
    MetFree l (⟨"java/lang/String", "coder", "()B"⟩ : MethodName) (head1 (Jvm.Cond.code (⟨"java/lang/String", "coder", "()B"⟩ : MethodName) jdk_42_method_152_code 1 (some .byte) :: ws) ({ frames := 0, cells := 0, slots := 0, locals := 0 } : Room)) (fun a U => a = #[(.ref a1)] ∧ Z.Warmed39 U.vm ∧ U.heap = h0) (fun _ _ _ _ _ => True) (fun _ U o U' => ∃ v L, o = .returned v ∧ Q_rmCod Z a1 G1 h0 n0 v U'.heap L ∧ FrameEnd U o U' L ({ frames := 0, cells := 0, slots := 0, locals := 0 } : Room).cells ({ frames := 0, cells := 0, slots := 0, locals := 0 } : Room).slots) := by
  refine own_met (y := (⟨"java/lang/String", "coder", "()B"⟩ : MethodName)) (Q := (Q_rmCod Z a1 G1 h0 n0)) (plainFor_of_name pn_8) fun p e s m below meth c s₁ X0 hx hby hml hret hlk hown hnm hZ e0 => ?_
  refine own_entry (ef_8_R m a1) ?_
  obtain ⟨T1, X1, e1, st1⟩ := getS2 X0 hx hZ hown (host := "") (Or.inl (own_w hw 52 rfl)) Via.refl e0 O2 (g := (mkF m 0 #[.val (.ref a1)] [])) rfl (hb hby d8_0)
  refine own_to T1 (mkF m 7 #[.val (.ref a1)] [(.ref a1)]) (fun tq kq => st1 _ (XS.ifNo X1.here hx rfl (hb hby d8_3) rfl ((if0 _ _).trans (feq hG).1) (XS.aloadN X1.here hx rfl (hb hby d8_6) rfl rfl kq))) ?_
  obtain ⟨T2, X2, e2, st2⟩ := getF X1 hx hZ hown (host := "") (Or.inl (own_w hw 25 rfl)) Via.refl e1 F2 (g := (mkF m 7 #[.val (.ref a1)] [(.ref a1)])) rfl rfl (hb hby d8_7)
  refine own_to T2 (mkF m 14 #[.val (.ref a1)] [(.int (0 : Int32))]) (fun tq kq => st2 _ (XS.goto X2.here hx rfl (pc0 := 10) (pc' := 14) rfl (hb hby d8_10) (by decide) (by decide) kq)) ?_
  exact own_retB X2 hx hret hlk (hb hby d8_14) (by decide) (by decide) rfl ⟨rfl, (Fr.nil n0), e2⟩
theorem d7_0 : decode jdk_42_method_54_code 0 = .ok (.aload_n 0, 1) := by decide +kernel
theorem d7_1 : decode jdk_42_method_54_code 1 = .ok (.getfield 9, 3) := by decide +kernel
theorem d7_4 : decode jdk_42_method_54_code 4 = .ok (.arraylength, 1) := by decide +kernel
theorem d7_5 : decode jdk_42_method_54_code 5 = .ok (.aload_n 0, 1) := by decide +kernel
theorem d7_6 : decode jdk_42_method_54_code 6 = .ok (.invokevirtual 335, 3) := by decide +kernel
theorem d7_9 : decode jdk_42_method_54_code 9 = .ok (.ishr, 1) := by decide +kernel
theorem d7_10 : decode jdk_42_method_54_code 10 = .ok (.ireturn, 1) := by decide +kernel
theorem ef_7_R (m : MethodId) (x0 : Addr) : entryFrame m #[(.ref x0)] 1 = mkF m 0 #[.val (.ref x0)] [] := by first | (simp [entryFrame, mkF, argsToLocals, Value.category]; done) | rfl
def Q_rmLen (Z : State) (a1 t1 : Addr) (n : Nat) (f : Nat → Int32) (G1 : Int32) (h0 : Heap) (n0 : Nat) (v : Option Value) (h : Heap) (L : List Loc) : Prop := v = some (.int (Int32.ofNat n)) ∧ Fr n0 L ∧ h = h0
theorem pd_7 : parseMethodDescriptor "()B" = some ⟨[], some .byte⟩ := by decide +kernel
set_option maxRecDepth 65536 in
set_option maxHeartbeats 40000000 in
theorem rmLen (l : Launch) (Z : State) (a0 : Array Value) (hw : ∀ d ∈ tables_1, d.before a0 Z = true) (ws : List Jvm.Cond) (a1 t1 : Addr) (n : Nat) (f : Nat → Int32) (G1 : Int32) (h0 : Heap) (n0 : Nat) (Z0 : n0 ≤ h0.size) (O2 : Sta Z h0 "java/lang/String" "COMPACT_STRINGS" "Z" (.int G1)) (hG : ¬ G1 = (0 : Int32)) (E1 : Exa Z h0 a1 "java/lang/String") (F1 : Fld Z h0 a1 "java/lang/String" "value" "[B" (.ref t1)) (F2 : Fld Z h0 a1 "java/lang/String" "coder" "B" (.int (0 : Int32))) (A1 : BArr Z h0 t1 n f) :
    MetFree l (⟨"java/lang/String", "length", "()I"⟩ : MethodName) (head1 (Jvm.Cond.code (⟨"java/lang/String", "length", "()I"⟩ : MethodName) jdk_42_method_54_code 1 (some .int) :: ws) ({ frames := 1, cells := 0, slots := 0, locals := 13 } : Room)) (fun a U => a = #[(.ref a1)] ∧ Z.Warmed39 U.vm ∧ U.heap = h0) (fun _ _ _ _ _ => True) (fun _ U o U' => ∃ v L, o = .returned v ∧ Q_rmLen Z a1 t1 n f G1 h0 n0 v U'.heap L ∧ FrameEnd U o U' L ({ frames := 1, cells := 0, slots := 0, locals := 13 } : Room).cells ({ frames := 1, cells := 0, slots := 0, locals := 13 } : Room).slots) := by
  refine own_met (y := (⟨"java/lang/String", "length", "()I"⟩ : MethodName)) (Q := (Q_rmLen Z a1 t1 n f G1 h0 n0)) (plainFor_of_name pn_8) fun p e s m below meth c s₁ X0 hx hby hml hret hlk hown hnm hZ e0 => ?_
  refine own_entry (ef_7_R m a1) ?_
  obtain ⟨c1, Ar1, hsz1, hat1⟩ := A1
  refine own_to s₁ (mkF m 1 #[.val (.ref a1)] [(.ref a1)]) (fun tq kq => XS.aloadN X0.here hx rfl (hb hby d7_0) rfl rfl kq) ?_
  obtain ⟨T1, X1, e1, st1⟩ := getF X0 hx hZ hown (host := "") (Or.inl (own_w hw 24 rfl)) Via.refl e0 F1 (g := (mkF m 1 #[.val (.ref a1)] [(.ref a1)])) rfl rfl (hb hby d7_1)
  refine own_to T1 (mkF m 5 #[.val (.ref a1)] [(.int (c1.slots.size.toInt32))]) (fun tq kq => st1 _ (X1.arraylength hx (by rw [e1]; exact Ar1.1) (State.isArrayOf_alike hZ.alike Ar1.2.1) (g := (mkF m 4 #[.val (.ref a1)] [(.ref t1)])) rfl rfl (hb hby d7_4) _ kq)) ?_
  rw [show c1.slots.size.toInt32 = Int32.ofNat n from by rw [hsz1] <;> rfl]
  refine own_to T1 (mkF m 6 #[.val (.ref a1)] [(.ref a1), (.int (Int32.ofNat n))]) (fun tq kq => XS.aloadN X1.here hx rfl (hb hby d7_5) rfl rfl kq) ?_
  obtain ⟨cq2, kq2, q2a, q2b, q2c⟩ := isOf hZ e1 E1
  obtain ⟨_, _, ⟨T2, L2, k2, n2⟩, -, X2, ⟨Lc2, hQ2, l2, y2, z2⟩, st2⟩ := X1.virtualBack hx (y := (⟨"java/lang/String", "coder", "()B"⟩ : MethodName)) (z := (⟨"java/lang/String", "coder", "()B"⟩ : MethodName)) hown (mvT hZ (own_w hw 47 rfl)) (mvT hZ (own_w hw 48 rfl)) (notFace_of_selects (args := #[]) (mvT hZ (own_w hw 50 rfl))) (mvT hZ (own_w hw 50 rfl)) (mvT hZ (own_w hw 49 rfl)) (by decide) (backOf (W := 1) (rmCod l Z a0 hw [] a1 G1 h0 n0 Z0 O2 hG F2) hZ (own_w hw 51 rfl) (own_w hw 7 rfl) (by decide) (by decide)) q2a q2c (g := (mkF m 6 #[.val (.ref a1)] [(.ref a1), (.int (Int32.ofNat n))])) rfl (by rw [hml]; rfl) (Steps.refl _) (argsL := []) (rest := [(.int (Int32.ofNat n))]) (lenOf pd_7 rfl) rfl (by show 2 * 0 + _ ≤ _; exact Nat.le_of_eq rfl) (hb hby d7_6) (fun _ _ => ⟨rfl, e1, (by decide : 0 + 0 ≤ _), (by decide : 0 + 0 ≤ _)⟩)
  dsimp only [Pt.U, Pt.locs, Pt.cells, Pt.slots] at X2 l2 y2 z2 st2 hQ2
  have l2y := l2.symm
  clear l2
  subst l2y
  obtain rfl : k2 = 0 := y2
  obtain rfl : n2 = 0 := z2
  obtain ⟨rfl, N2q, e2⟩ := hQ2
  have N2 := Fr.app (Fr.nil n0) N2q
  refine own_to T2 (mkF m 10 #[.val (.ref a1)] [(.int ((Int32.ofNat n) >>> ((0 : Int32) &&& 31)))]) (fun tq kq => st2.trans (XS.ishr X2.here hx rfl (hb hby d7_9) rfl kq)) ?_
  rw [show ((Int32.ofNat n) >>> ((0 : Int32) &&& 31)) = (Int32.ofNat n) from own_shr0 _]
  exact own_retI X2 hx hret hlk (hb hby d7_10) (by decide) (by decide) ⟨rfl, N2, e2⟩
theorem d15_0 : decode jdk_42_method_154_code 0 = .ok (.getstatic 38, 3) := by decide +kernel
theorem d15_3 : decode jdk_42_method_154_code 3 = .ok (.ifCond .eq 14, 3) := by decide +kernel
theorem d15_6 : decode jdk_42_method_154_code 6 = .ok (.aload_n 0, 1) := by decide +kernel
theorem d15_7 : decode jdk_42_method_154_code 7 = .ok (.getfield 15, 3) := by decide +kernel
theorem d15_10 : decode jdk_42_method_154_code 10 = .ok (.ifCond .ne 7, 3) := by decide +kernel
theorem d15_13 : decode jdk_42_method_154_code 13 = .ok (.iconst 1, 1) := by decide +kernel
theorem d15_14 : decode jdk_42_method_154_code 14 = .ok (.goto 4, 3) := by decide +kernel
theorem d15_17 : decode jdk_42_method_154_code 17 = .ok (.iconst 0, 1) := by decide +kernel
theorem d15_18 : decode jdk_42_method_154_code 18 = .ok (.ireturn, 1) := by decide +kernel
theorem ef_15_R (m : MethodId) (x0 : Addr) : entryFrame m #[(.ref x0)] 1 = mkF m 0 #[.val (.ref x0)] [] := by first | (simp [entryFrame, mkF, argsToLocals, Value.category]; done) | rfl
def Q_rmLat (Z : State) (a1 : Addr) (G1 : Int32) (h0 : Heap) (n0 : Nat) (v : Option Value) (h : Heap) (L : List Loc) : Prop := v = some (.int (1 : Int32)) ∧ Fr n0 L ∧ h = h0
set_option maxRecDepth 65536 in
set_option maxHeartbeats 40000000 in
theorem rmLat (l : Launch) (Z : State) (a0 : Array Value) (hw : ∀ d ∈ tables_1, d.before a0 Z = true) (ws : List Jvm.Cond) (a1 : Addr) (G1 : Int32) (h0 : Heap) (n0 : Nat) (Z0 : n0 ≤ h0.size) (O2 : Sta Z h0 "java/lang/String" "COMPACT_STRINGS" "Z" (.int G1)) (hG : ¬ G1 = (0 : Int32)) (F2 : Fld Z h0 a1 "java/lang/String" "coder" "B" (.int (0 : Int32))) :
    MetFree l (⟨"java/lang/String", "isLatin1", "()Z"⟩ : MethodName) (head1 (Jvm.Cond.code (⟨"java/lang/String", "isLatin1", "()Z"⟩ : MethodName) jdk_42_method_154_code 1 (some .boolean) :: ws) ({ frames := 0, cells := 0, slots := 0, locals := 0 } : Room)) (fun a U => a = #[(.ref a1)] ∧ Z.Warmed39 U.vm ∧ U.heap = h0) (fun _ _ _ _ _ => True) (fun _ U o U' => ∃ v L, o = .returned v ∧ Q_rmLat Z a1 G1 h0 n0 v U'.heap L ∧ FrameEnd U o U' L ({ frames := 0, cells := 0, slots := 0, locals := 0 } : Room).cells ({ frames := 0, cells := 0, slots := 0, locals := 0 } : Room).slots) := by
  refine own_met (y := (⟨"java/lang/String", "isLatin1", "()Z"⟩ : MethodName)) (Q := (Q_rmLat Z a1 G1 h0 n0)) (plainFor_of_name pn_8) fun p e s m below meth c s₁ X0 hx hby hml hret hlk hown hnm hZ e0 => ?_
  refine own_entry (ef_15_R m a1) ?_
  obtain ⟨T1, X1, e1, st1⟩ := getS2 X0 hx hZ hown (host := "") (Or.inl (own_w hw 52 rfl)) Via.refl e0 O2 (g := (mkF m 0 #[.val (.ref a1)] [])) rfl (hb hby d15_0)
  refine own_to T1 (mkF m 7 #[.val (.ref a1)] [(.ref a1)]) (fun tq kq => st1 _ (XS.ifNo X1.here hx rfl (hb hby d15_3) rfl ((if0 _ _).trans (feq hG).1) (XS.aloadN X1.here hx rfl (hb hby d15_6) rfl rfl kq))) ?_
  obtain ⟨T2, X2, e2, st2⟩ := getF X1 hx hZ hown (host := "") (Or.inl (own_w hw 25 rfl)) Via.refl e1 F2 (g := (mkF m 7 #[.val (.ref a1)] [(.ref a1)])) rfl rfl (hb hby d15_7)
  refine own_to T2 (mkF m 18 #[.val (.ref a1)] [(.int (1 : Int32))]) (fun tq kq => st2 _ (XS.ifNo X2.here hx rfl (hb hby d15_10) rfl ((if0 _ _).trans (teq (by decide : (0 : Int32) = (0 : Int32))).2) (XS.iconst X2.here hx rfl (hb hby d15_13) (XS.goto X2.here hx rfl (pc0 := 14) (pc' := 18) rfl (hb hby d15_14) (by decide) (by decide) kq)))) ?_
  exact own_retZ X2 hx hret hlk (hb hby d15_18) (by decide) (by decide) (Or.inr rfl) ⟨rfl, (Fr.nil n0), e2⟩
theorem d32_0 : decode jdk_41_method_11_code 0 = .ok (.iload_n 0, 1) := by decide +kernel
theorem d32_1 : decode jdk_41_method_11_code 1 = .ok (.ifCond .lt 8, 3) := by decide +kernel
theorem d32_4 : decode jdk_41_method_11_code 4 = .ok (.iload_n 0, 1) := by decide +kernel
theorem d32_5 : decode jdk_41_method_11_code 5 = .ok (.iload_n 1, 1) := by decide +kernel
theorem d32_6 : decode jdk_41_method_11_code 6 = .ok (.if_icmp .lt 10, 3) := by decide +kernel
theorem d32_9 : decode jdk_41_method_11_code 9 = .ok (.aload_n 2, 1) := by decide +kernel
theorem d32_10 : decode jdk_41_method_11_code 10 = .ok (.iload_n 0, 1) := by decide +kernel
theorem d32_11 : decode jdk_41_method_11_code 11 = .ok (.iload_n 1, 1) := by decide +kernel
theorem d32_12 : decode jdk_41_method_11_code 12 = .ok (.invokestatic 95, 3) := by decide +kernel
theorem d32_16 : decode jdk_41_method_11_code 16 = .ok (.iload_n 0, 1) := by decide +kernel
theorem d32_17 : decode jdk_41_method_11_code 17 = .ok (.ireturn, 1) := by decide +kernel
theorem pn_32 : plainName "jdk/internal/util/Preconditions" = true := by first | (simp [plainName, overriddenIn]; done) | decide +kernel
theorem ef_32_IIV (m : MethodId) (x0 : Int32) (x1 : Int32) (x2 : Value) (hx2 : x2.category = 1) : entryFrame m #[(.int x0), (.int x1), x2] 3 = mkF m 0 #[.val (.int x0), .val (.int x1), .val x2] [] := by first | (simp [entryFrame, mkF, argsToLocals, Value.category]; done) | rfl | (cases x2 <;> first | (cases hx2; done) | skip <;> rfl)
def Q_rmPC (Z : State) (i n : Nat) (vF : Value) (h0 : Heap) (n0 : Nat) (v : Option Value) (h : Heap) (L : List Loc) : Prop := v = some (.int (Int32.ofNat i)) ∧ Fr n0 L ∧ h = h0
set_option maxRecDepth 65536 in
set_option maxHeartbeats 40000000 in
theorem rmPC (l : Launch) (Z : State) (a0 : Array Value) (hw : ∀ d ∈ tables_1, d.before a0 Z = true) (ws : List Jvm.Cond) (i n : Nat) (vF : Value) (h0 : Heap) (n0 : Nat) (Z0 : n0 ≤ h0.size) (hvF : vF.isRef = true) (hi : i < n) (hn : n < 1000) :
    MetFree l (⟨"jdk/internal/util/Preconditions", "checkIndex", "(IILjava/util/function/BiFunction;)I"⟩ : MethodName) (head1 (Jvm.Cond.code (⟨"jdk/internal/util/Preconditions", "checkIndex", "(IILjava/util/function/BiFunction;)I"⟩ : MethodName) jdk_41_method_11_code 3 (some .int) :: ws) ({ frames := 0, cells := 0, slots := 0, locals := 0 } : Room)) (fun a U => a = #[(.int (Int32.ofNat i)), (.int (Int32.ofNat n)), vF] ∧ Z.Warmed39 U.vm ∧ U.heap = h0) (fun _ _ _ _ _ => True) (fun _ U o U' => ∃ v L, o = .returned v ∧ Q_rmPC Z i n vF h0 n0 v U'.heap L ∧ FrameEnd U o U' L ({ frames := 0, cells := 0, slots := 0, locals := 0 } : Room).cells ({ frames := 0, cells := 0, slots := 0, locals := 0 } : Room).slots) := by
  refine own_met (y := (⟨"jdk/internal/util/Preconditions", "checkIndex", "(IILjava/util/function/BiFunction;)I"⟩ : MethodName)) (Q := (Q_rmPC Z i n vF h0 n0)) (plainFor_of_name pn_32) fun p e s m below meth c s₁ X0 hx hby hml hret hlk hown hnm hZ e0 => ?_
  refine own_entry (ef_32_IIV m (Int32.ofNat i) (Int32.ofNat n) vF (own_cat1 hvF)) ?_
  refine own_to s₁ (mkF m 17 #[.val (.int (Int32.ofNat i)), .val (.int (Int32.ofNat n)), .val vF] [(.int (Int32.ofNat i))]) (fun tq kq => XS.iloadN X0.here hx rfl (hb hby d32_0) rfl (XS.ifNo X0.here hx rfl (hb hby d32_1) rfl ((if0 _ _).trans (flt (own_nonneg (by omega))).1) (XS.iloadN X0.here hx rfl (hb hby d32_4) rfl (XS.iloadN X0.here hx rfl (hb hby d32_5) rfl (XS.icmpYes X0.here hx rfl (pc0 := 6) (pc' := 16) rfl (hb hby d32_6) rfl (tlt ((own_ltn (by omega) (by omega)).mpr hi)).1 (by decide) (by decide) (XS.iloadN X0.here hx rfl (hb hby d32_16) rfl kq)))))) ?_
  exact own_retI X0 hx hret hlk (hb hby d32_17) (by decide) (by decide) ⟨rfl, (Fr.nil n0), e0⟩
theorem d31_0 : decode jdk_42_method_155_code 0 = .ok (.iload_n 0, 1) := by decide +kernel
theorem d31_1 : decode jdk_42_method_155_code 1 = .ok (.iload_n 1, 1) := by decide +kernel
theorem d31_2 : decode jdk_42_method_155_code 2 = .ok (.getstatic 1053, 3) := by decide +kernel
theorem d31_5 : decode jdk_42_method_155_code 5 = .ok (.invokestatic 1059, 3) := by decide +kernel
theorem d31_8 : decode jdk_42_method_155_code 8 = .ok (.pop, 1) := by decide +kernel
theorem d31_9 : decode jdk_42_method_155_code 9 = .ok (.return_, 1) := by decide +kernel
theorem ef_31_II (m : MethodId) (x0 : Int32) (x1 : Int32) : entryFrame m #[(.int x0), (.int x1)] 2 = mkF m 0 #[.val (.int x0), .val (.int x1)] [] := by first | (simp [entryFrame, mkF, argsToLocals, Value.category]; done) | rfl
def Q_rmCI (Z : State) (i n : Nat) (vF : Value) (h0 : Heap) (n0 : Nat) (v : Option Value) (h : Heap) (L : List Loc) : Prop := v = none ∧ Fr n0 L ∧ h = h0
theorem pd_24 : parseMethodDescriptor "(IILjava/util/function/BiFunction;)I" = some ⟨[.int, .int, (.object "java/util/function/BiFunction")], some .int⟩ := by decide +kernel
set_option maxRecDepth 65536 in
set_option maxHeartbeats 40000000 in
theorem rmCI (l : Launch) (Z : State) (a0 : Array Value) (hw : ∀ d ∈ tables_1, d.before a0 Z = true) (ws : List Jvm.Cond) (i n : Nat) (vF : Value) (h0 : Heap) (n0 : Nat) (Z0 : n0 ≤ h0.size) (O4 : Sta Z h0 "jdk/internal/util/Preconditions" "SIOOBE_FORMATTER" "Ljava/util/function/BiFunction;" vF) (hvF : vF.isRef = true) (hi : i < n) (hn : n < 1000) :
    MetFree l (⟨"java/lang/String", "checkIndex", "(II)V"⟩ : MethodName) (head1 (Jvm.Cond.code (⟨"java/lang/String", "checkIndex", "(II)V"⟩ : MethodName) jdk_42_method_155_code 2 none :: ws) ({ frames := 1, cells := 0, slots := 0, locals := 14 } : Room)) (fun a U => a = #[(.int (Int32.ofNat i)), (.int (Int32.ofNat n))] ∧ Z.Warmed39 U.vm ∧ U.heap = h0) (fun _ _ _ _ _ => True) (fun _ U o U' => ∃ v L, o = .returned v ∧ Q_rmCI Z i n vF h0 n0 v U'.heap L ∧ FrameEnd U o U' L ({ frames := 1, cells := 0, slots := 0, locals := 14 } : Room).cells ({ frames := 1, cells := 0, slots := 0, locals := 14 } : Room).slots) := by
  refine own_met (y := (⟨"java/lang/String", "checkIndex", "(II)V"⟩ : MethodName)) (Q := (Q_rmCI Z i n vF h0 n0)) (plainFor_of_name pn_8) fun p e s m below meth c s₁ X0 hx hby hml hret hlk hown hnm hZ e0 => ?_
  refine own_entry (ef_31_II m (Int32.ofNat i) (Int32.ofNat n)) ?_
  refine own_to s₁ (mkF m 2 #[.val (.int (Int32.ofNat i)), .val (.int (Int32.ofNat n))] [(.int (Int32.ofNat n)), (.int (Int32.ofNat i))]) (fun tq kq => XS.iloadN X0.here hx rfl (hb hby d31_0) rfl (XS.iloadN X0.here hx rfl (hb hby d31_1) rfl kq)) ?_
  obtain ⟨T1, X1, e1, st1⟩ := getS2 X0 hx hZ hown (host := "") (Or.inl (own_w hw 111 rfl)) Via.refl e0 O4 (g := (mkF m 2 #[.val (.int (Int32.ofNat i)), .val (.int (Int32.ofNat n))] [(.int (Int32.ofNat n)), (.int (Int32.ofNat i))])) rfl (hb hby d31_2)
  refine own_to T1 (mkF m 5 #[.val (.int (Int32.ofNat i)), .val (.int (Int32.ofNat n))] [vF, (.int (Int32.ofNat n)), (.int (Int32.ofNat i))]) (fun tq kq => st1 _ kq) ?_
  obtain ⟨_, _, ⟨T2, L2, k2, n2⟩, -, X2, ⟨Lc2, hQ2, l2, y2, z2⟩, st2⟩ := Jvm.LawKit.callS X1 hx (y := (⟨"jdk/internal/util/Preconditions", "checkIndex", "(IILjava/util/function/BiFunction;)I"⟩ : MethodName)) hown (mvT hZ (own_w hw 150 rfl)) (mvT hZ (own_w hw 151 rfl)) (mvT hZ (own_w hw 112 rfl)) (mvT hZ (own_w hw 152 rfl)) (by decide) (backOf (W := 0) (rmPC l Z a0 hw [] i n vF h0 n0 Z0 hvF hi hn) hZ (own_w hw 152 rfl) (own_w hw 112 rfl) (by decide) (by decide)) (g := (mkF m 5 #[.val (.int (Int32.ofNat i)), .val (.int (Int32.ofNat n))] [vF, (.int (Int32.ofNat n)), (.int (Int32.ofNat i))])) rfl (by rw [hml]; rfl) (argsL := [(.int (Int32.ofNat i)), (.int (Int32.ofNat n)), vF]) (rest := []) (lenOf pd_24 rfl) rfl (by show 2 * 0 + _ ≤ _; exact Nat.le_of_eq rfl) (hb hby d31_5) (fun _ _ => ⟨rfl, e1, (by decide : 0 + 0 ≤ _), (by decide : 0 + 0 ≤ _)⟩)
  dsimp only [Pt.U, Pt.locs, Pt.cells, Pt.slots] at X2 l2 y2 z2 st2 hQ2
  have l2y := l2.symm
  clear l2
  subst l2y
  obtain rfl : k2 = 0 := y2
  obtain rfl : n2 = 0 := z2
  obtain ⟨rfl, N2q, e2⟩ := hQ2
  have N2 := Fr.app (Fr.nil n0) N2q
  refine own_to T2 (mkF m 9 #[.val (.int (Int32.ofNat i)), .val (.int (Int32.ofNat n))] []) (fun tq kq => st2 _ (XS.pop X2.here hx rfl (hb hby d31_8) rfl rfl kq)) ?_
  exact own_retV X2 hx hret hlk (hb hby d31_9) (by decide) (by decide) ⟨rfl, N2, e2⟩
theorem d30_0 : decode jdk_43_method_2_code 0 = .ok (.iload_n 1, 1) := by decide +kernel
theorem d30_1 : decode jdk_43_method_2_code 1 = .ok (.aload_n 0, 1) := by decide +kernel
theorem d30_2 : decode jdk_43_method_2_code 2 = .ok (.arraylength, 1) := by decide +kernel
theorem d30_3 : decode jdk_43_method_2_code 3 = .ok (.invokestatic 9, 3) := by decide +kernel
theorem d30_6 : decode jdk_43_method_2_code 6 = .ok (.aload_n 0, 1) := by decide +kernel
theorem d30_7 : decode jdk_43_method_2_code 7 = .ok (.iload_n 1, 1) := by decide +kernel
theorem d30_8 : decode jdk_43_method_2_code 8 = .ok (.baload, 1) := by decide +kernel
theorem d30_9 : decode jdk_43_method_2_code 9 = .ok (.sipush 255, 3) := by decide +kernel
theorem d30_12 : decode jdk_43_method_2_code 12 = .ok (.iand, 1) := by decide +kernel
theorem d30_13 : decode jdk_43_method_2_code 13 = .ok (.i2c, 1) := by decide +kernel
theorem d30_14 : decode jdk_43_method_2_code 14 = .ok (.ireturn, 1) := by decide +kernel
theorem pn_30 : plainName "java/lang/StringLatin1" = true := by first | (simp [plainName, overriddenIn]; done) | decide +kernel
theorem ef_30_RI (m : MethodId) (x0 : Addr) (x1 : Int32) : entryFrame m #[(.ref x0), (.int x1)] 2 = mkF m 0 #[.val (.ref x0), .val (.int x1)] [] := by first | (simp [entryFrame, mkF, argsToLocals, Value.category]; done) | rfl
def Q_rmChL (Z : State) (t1 : Addr) (i n : Nat) (f : Nat → Int32) (y : Int32) (vF : Value) (h0 : Heap) (n0 : Nat) (v : Option Value) (h : Heap) (L : List Loc) : Prop := v = some (.int y) ∧ Fr n0 L ∧ h = h0
theorem pd_20 : parseMethodDescriptor "(II)V" = some ⟨[.int, .int], none⟩ := by decide +kernel
set_option maxRecDepth 65536 in
set_option maxHeartbeats 40000000 in
theorem rmChL (l : Launch) (Z : State) (a0 : Array Value) (hw : ∀ d ∈ tables_1, d.before a0 Z = true) (ws : List Jvm.Cond) (t1 : Addr) (i n : Nat) (f : Nat → Int32) (y : Int32) (vF : Value) (h0 : Heap) (n0 : Nat) (Z0 : n0 ≤ h0.size) (O4 : Sta Z h0 "jdk/internal/util/Preconditions" "SIOOBE_FORMATTER" "Ljava/util/function/BiFunction;" vF) (hvF : vF.isRef = true) (A1 : BArr Z h0 t1 n f) (hi : i < n) (hn : n < 1000) (hy : ((f i &&& (255 : Int32)).toUInt32.toUInt16.toUInt32.toInt32) = y) :
    MetFree l (⟨"java/lang/StringLatin1", "charAt", "([BI)C"⟩ : MethodName) (head1 (Jvm.Cond.code (⟨"java/lang/StringLatin1", "charAt", "([BI)C"⟩ : MethodName) jdk_43_method_2_code 2 (some .char) :: ws) ({ frames := 2, cells := 0, slots := 0, locals := 27 } : Room)) (fun a U => a = #[(.ref t1), (.int (Int32.ofNat i))] ∧ Z.Warmed39 U.vm ∧ U.heap = h0) (fun _ _ _ _ _ => True) (fun _ U o U' => ∃ v L, o = .returned v ∧ Q_rmChL Z t1 i n f y vF h0 n0 v U'.heap L ∧ FrameEnd U o U' L ({ frames := 2, cells := 0, slots := 0, locals := 27 } : Room).cells ({ frames := 2, cells := 0, slots := 0, locals := 27 } : Room).slots) := by
  refine own_met (y := (⟨"java/lang/StringLatin1", "charAt", "([BI)C"⟩ : MethodName)) (Q := (Q_rmChL Z t1 i n f y vF h0 n0)) (plainFor_of_name pn_30) fun p e s m below meth c s₁ X0 hx hby hml hret hlk hown hnm hZ e0 => ?_
  refine own_entry (ef_30_RI m t1 (Int32.ofNat i)) ?_
  obtain ⟨c1, Ar1, hsz1, hat1⟩ := A1
  have hin1 : ¬ ((Int32.ofNat i) < 0 ∨ c1.slots.size ≤ (Int32.ofNat i).toNatClampNeg) := by rw [hsz1]; exact within rfl hi (by omega)
  have hat2 : c1.slots[(Int32.ofNat i).toNatClampNeg]? = some (.int (f i)) := by rw [clamp_of rfl (by omega)]; exact hat1 _ hi
  refine own_to s₁ (mkF m 3 #[.val (.ref t1), .val (.int (Int32.ofNat i))] [(.int (c1.slots.size.toInt32)), (.int (Int32.ofNat i))]) (fun tq kq => XS.iloadN X0.here hx rfl (hb hby d30_0) rfl (XS.aloadN X0.here hx rfl (hb hby d30_1) rfl rfl (X0.arraylength hx (by rw [e0]; exact Ar1.1) (State.isArrayOf_alike hZ.alike Ar1.2.1) (g := (mkF m 2 #[.val (.ref t1), .val (.int (Int32.ofNat i))] [(.ref t1), (.int (Int32.ofNat i))])) rfl rfl (hb hby d30_2) _ kq))) ?_
  rw [show c1.slots.size.toInt32 = Int32.ofNat n from by rw [hsz1] <;> rfl]
  obtain ⟨_, _, ⟨T1, L1, k1, n1⟩, -, X1, ⟨Lc1, hQ1, l1, y1, z1⟩, st1⟩ := Jvm.LawKit.callS X0 hx (y := (⟨"java/lang/String", "checkIndex", "(II)V"⟩ : MethodName)) hown (mvT hZ (own_w hw 147 rfl)) (mvT hZ (own_w hw 148 rfl)) (mvT hZ (own_w hw 7 rfl)) (mvT hZ (own_w hw 149 rfl)) (by decide) (backOf (W := 0) (rmCI l Z a0 hw [] i n vF h0 n0 Z0 O4 hvF hi hn) hZ (own_w hw 149 rfl) (own_w hw 7 rfl) (by decide) (by decide)) (g := (mkF m 3 #[.val (.ref t1), .val (.int (Int32.ofNat i))] [(.int (Int32.ofNat n)), (.int (Int32.ofNat i))])) rfl (by rw [hml]; rfl) (argsL := [(.int (Int32.ofNat i)), (.int (Int32.ofNat n))]) (rest := []) (lenOf pd_20 rfl) rfl (by show 2 * 0 + _ ≤ _; exact Nat.le_of_eq rfl) (hb hby d30_3) (fun _ _ => ⟨rfl, e0, (by decide : 0 + 0 ≤ _), (by decide : 0 + 0 ≤ _)⟩)
  dsimp only [Pt.U, Pt.locs, Pt.cells, Pt.slots] at X1 l1 y1 z1 st1 hQ1
  have l1y := l1.symm
  clear l1
  subst l1y
  obtain rfl : k1 = 0 := y1
  obtain rfl : n1 = 0 := z1
  obtain ⟨rfl, N1q, e1⟩ := hQ1
  have N1 := Fr.app (Fr.nil n0) N1q
  refine own_to T1 (mkF m 14 #[.val (.ref t1), .val (.int (Int32.ofNat i))] [(.int (((f i) &&& (255 : Int32)).toUInt32.toUInt16.toUInt32.toInt32))]) (fun tq kq => st1 _ (XS.aloadN X1.here hx rfl (hb hby d30_6) rfl rfl (XS.iloadN X1.here hx rfl (hb hby d30_7) rfl (X1.baloadBytes hx (j := (Int32.ofNat i)) (v := (.int (f i))) (by rw [e1]; exact Ar1.1) (State.isArrayOf_alike hZ.alike Ar1.2.1) Ar1.2.2 hin1 hat2 (g := (mkF m 8 #[.val (.ref t1), .val (.int (Int32.ofNat i))] [(.int (Int32.ofNat i)), (.ref t1)])) rfl rfl (hb hby d30_8) _ (XS.sipush X1.here hx rfl (hb hby d30_9) (XS.iand X1.here hx rfl (hb hby d30_12) rfl (XS.i2c X1.here hx rfl (hb hby d30_13) rfl kq))))))) ?_
  rw [show (((f i) &&& (255 : Int32)).toUInt32.toUInt16.toUInt32.toInt32) = y from hy]
  exact own_retC X1 hx hret hlk (hb hby d30_14) (by decide) (by decide) (own_i2cc hy) ⟨rfl, N1, e1⟩
theorem d29_0 : decode jdk_42_method_56_code 0 = .ok (.aload_n 0, 1) := by decide +kernel
theorem d29_1 : decode jdk_42_method_56_code 1 = .ok (.invokevirtual 492, 3) := by decide +kernel
theorem d29_4 : decode jdk_42_method_56_code 4 = .ok (.ifCond .eq 12, 3) := by decide +kernel
theorem d29_7 : decode jdk_42_method_56_code 7 = .ok (.aload_n 0, 1) := by decide +kernel
theorem d29_8 : decode jdk_42_method_56_code 8 = .ok (.getfield 9, 3) := by decide +kernel
theorem d29_11 : decode jdk_42_method_56_code 11 = .ok (.iload_n 1, 1) := by decide +kernel
theorem d29_12 : decode jdk_42_method_56_code 12 = .ok (.invokestatic 495, 3) := by decide +kernel
theorem d29_15 : decode jdk_42_method_56_code 15 = .ok (.ireturn, 1) := by decide +kernel
theorem d29_16 : decode jdk_42_method_56_code 16 = .ok (.aload_n 0, 1) := by decide +kernel
theorem d29_17 : decode jdk_42_method_56_code 17 = .ok (.getfield 9, 3) := by decide +kernel
theorem d29_20 : decode jdk_42_method_56_code 20 = .ok (.iload_n 1, 1) := by decide +kernel
theorem d29_21 : decode jdk_42_method_56_code 21 = .ok (.invokestatic 498, 3) := by decide +kernel
theorem d29_24 : decode jdk_42_method_56_code 24 = .ok (.ireturn, 1) := by decide +kernel
theorem ef_29_RI (m : MethodId) (x0 : Addr) (x1 : Int32) : entryFrame m #[(.ref x0), (.int x1)] 2 = mkF m 0 #[.val (.ref x0), .val (.int x1)] [] := by first | (simp [entryFrame, mkF, argsToLocals, Value.category]; done) | rfl
def Q_rmCh (Z : State) (a1 t1 : Addr) (i n : Nat) (f : Nat → Int32) (y G1 : Int32) (vF : Value) (h0 : Heap) (n0 : Nat) (v : Option Value) (h : Heap) (L : List Loc) : Prop := v = some (.int y) ∧ Fr n0 L ∧ h = h0
theorem pd_5 : parseMethodDescriptor "()Z" = some ⟨[], some .boolean⟩ := by decide +kernel
theorem pd_23 : parseMethodDescriptor "([BI)C" = some ⟨[(.array .byte), .int], some .char⟩ := by decide +kernel
set_option maxRecDepth 65536 in
set_option maxHeartbeats 40000000 in
theorem rmCh (l : Launch) (Z : State) (a0 : Array Value) (hw : ∀ d ∈ tables_1, d.before a0 Z = true) (ws : List Jvm.Cond) (a1 t1 : Addr) (i n : Nat) (f : Nat → Int32) (y G1 : Int32) (vF : Value) (h0 : Heap) (n0 : Nat) (Z0 : n0 ≤ h0.size) (O2 : Sta Z h0 "java/lang/String" "COMPACT_STRINGS" "Z" (.int G1)) (hG : ¬ G1 = (0 : Int32)) (O4 : Sta Z h0 "jdk/internal/util/Preconditions" "SIOOBE_FORMATTER" "Ljava/util/function/BiFunction;" vF) (hvF : vF.isRef = true) (E1 : Exa Z h0 a1 "java/lang/String") (F1 : Fld Z h0 a1 "java/lang/String" "value" "[B" (.ref t1)) (F2 : Fld Z h0 a1 "java/lang/String" "coder" "B" (.int (0 : Int32))) (A1 : BArr Z h0 t1 n f) (hi : i < n) (hn : n < 1000) (hy : ((f i &&& (255 : Int32)).toUInt32.toUInt16.toUInt32.toInt32) = y) :
    MetFree l (⟨"java/lang/String", "charAt", "(I)C"⟩ : MethodName) (head1 (Jvm.Cond.code (⟨"java/lang/String", "charAt", "(I)C"⟩ : MethodName) jdk_42_method_56_code 2 (some .char) :: ws) ({ frames := 3, cells := 0, slots := 0, locals := 40 } : Room)) (fun a U => a = #[(.ref a1), (.int (Int32.ofNat i))] ∧ Z.Warmed39 U.vm ∧ U.heap = h0) (fun _ _ _ _ _ => True) (fun _ U o U' => ∃ v L, o = .returned v ∧ Q_rmCh Z a1 t1 i n f y G1 vF h0 n0 v U'.heap L ∧ FrameEnd U o U' L ({ frames := 3, cells := 0, slots := 0, locals := 40 } : Room).cells ({ frames := 3, cells := 0, slots := 0, locals := 40 } : Room).slots) := by
  refine own_met (y := (⟨"java/lang/String", "charAt", "(I)C"⟩ : MethodName)) (Q := (Q_rmCh Z a1 t1 i n f y G1 vF h0 n0)) (plainFor_of_name pn_8) fun p e s m below meth c s₁ X0 hx hby hml hret hlk hown hnm hZ e0 => ?_
  refine own_entry (ef_29_RI m a1 (Int32.ofNat i)) ?_
  refine own_to s₁ (mkF m 1 #[.val (.ref a1), .val (.int (Int32.ofNat i))] [(.ref a1)]) (fun tq kq => XS.aloadN X0.here hx rfl (hb hby d29_0) rfl rfl kq) ?_
  obtain ⟨cq1, kq1, q1a, q1b, q1c⟩ := isOf hZ e0 E1
  obtain ⟨_, _, ⟨T1, L1, k1, n1⟩, -, X1, ⟨Lc1, hQ1, l1, y1, z1⟩, st1⟩ := X0.virtualBack hx (y := (⟨"java/lang/String", "isLatin1", "()Z"⟩ : MethodName)) (z := (⟨"java/lang/String", "isLatin1", "()Z"⟩ : MethodName)) hown (mvT hZ (own_w hw 80 rfl)) (mvT hZ (own_w hw 81 rfl)) (notFace_of_selects (args := #[]) (mvT hZ (own_w hw 83 rfl))) (mvT hZ (own_w hw 83 rfl)) (mvT hZ (own_w hw 82 rfl)) (by decide) (backOf (W := 0) (rmLat l Z a0 hw [] a1 G1 h0 n0 Z0 O2 hG F2) hZ (own_w hw 84 rfl) (own_w hw 7 rfl) (by decide) (by decide)) q1a q1c (g := (mkF m 1 #[.val (.ref a1), .val (.int (Int32.ofNat i))] [(.ref a1)])) rfl (by rw [hml]; rfl) (Steps.refl _) (argsL := []) (rest := []) (lenOf pd_5 rfl) rfl (by show 2 * 0 + _ ≤ _; exact Nat.le_of_eq rfl) (hb hby d29_1) (fun _ _ => ⟨rfl, e0, (by decide : 0 + 0 ≤ _), (by decide : 0 + 0 ≤ _)⟩)
  dsimp only [Pt.U, Pt.locs, Pt.cells, Pt.slots] at X1 l1 y1 z1 st1 hQ1
  have l1y := l1.symm
  clear l1
  subst l1y
  obtain rfl : k1 = 0 := y1
  obtain rfl : n1 = 0 := z1
  obtain ⟨rfl, N1q, e1⟩ := hQ1
  have N1 := Fr.app (Fr.nil n0) N1q
  refine own_to T1 (mkF m 8 #[.val (.ref a1), .val (.int (Int32.ofNat i))] [(.ref a1)]) (fun tq kq => st1.trans (XS.ifNo X1.here hx rfl (hb hby d29_4) rfl ((if0 _ _).trans (feq (by decide : ¬ ((1 : Int32) = (0 : Int32)))).1) (XS.aloadN X1.here hx rfl (hb hby d29_7) rfl rfl kq))) ?_
  obtain ⟨T2, X2, e2, st2⟩ := getF X1 hx hZ hown (host := "") (Or.inl (own_w hw 24 rfl)) Via.refl e1 F1 (g := (mkF m 8 #[.val (.ref a1), .val (.int (Int32.ofNat i))] [(.ref a1)])) rfl rfl (hb hby d29_8)
  refine own_to T2 (mkF m 12 #[.val (.ref a1), .val (.int (Int32.ofNat i))] [(.int (Int32.ofNat i)), (.ref t1)]) (fun tq kq => st2 _ (XS.iloadN X2.here hx rfl (hb hby d29_11) rfl kq)) ?_
  obtain ⟨_, _, ⟨T3, L3, k3, n3⟩, -, X3, ⟨Lc3, hQ3, l3, y3, z3⟩, st3⟩ := Jvm.LawKit.callS X2 hx (y := (⟨"java/lang/StringLatin1", "charAt", "([BI)C"⟩ : MethodName)) hown (mvT hZ (own_w hw 144 rfl)) (mvT hZ (own_w hw 145 rfl)) (mvT hZ (own_w hw 88 rfl)) (mvT hZ (own_w hw 146 rfl)) (by decide) (backOf (W := 0) (rmChL l Z a0 hw [] t1 i n f y vF h0 n0 Z0 O4 hvF A1 hi hn hy) hZ (own_w hw 146 rfl) (own_w hw 88 rfl) (by decide) (by decide)) (g := (mkF m 12 #[.val (.ref a1), .val (.int (Int32.ofNat i))] [(.int (Int32.ofNat i)), (.ref t1)])) rfl (by rw [hml]; rfl) (argsL := [(.ref t1), (.int (Int32.ofNat i))]) (rest := []) (lenOf pd_23 rfl) rfl (by show 2 * 0 + _ ≤ _; exact Nat.le_of_eq rfl) (hb hby d29_12) (fun _ _ => ⟨rfl, e2, (by decide : 0 + 0 ≤ _), (by decide : 0 + 0 ≤ _)⟩)
  dsimp only [Pt.U, Pt.locs, Pt.cells, Pt.slots] at X3 l3 y3 z3 st3 hQ3
  have l3y := l3.symm
  clear l3
  subst l3y
  obtain rfl : k3 = 0 := y3
  obtain rfl : n3 = 0 := z3
  obtain ⟨rfl, N3q, e3⟩ := hQ3
  have N3 := Fr.app N1 N3q
  refine own_to T3 (mkF m 15 #[.val (.ref a1), .val (.int (Int32.ofNat i))] [(.int y)]) (fun tq kq => st3 _ kq) ?_
  exact own_retC X3 hx hret hlk (hb hby d29_15) (by decide) (by decide) (own_i2cc hy) ⟨rfl, N3, e3⟩
def own_end (q n : Nat) : Int32 := if q < n then 0 else 1
def own_ch (x : Int32) : Int32 := (x &&& (255 : Int32)).toUInt32.toUInt16.toUInt32.toInt32
def own_ws (y : Int32) : Prop := y = 32 ∨ y = 9
theorem d5_0 : decode prog_11_method_1_code 0 = .ok (.aload_n 0, 1) := by decide +kernel
theorem d5_1 : decode prog_11_method_1_code 1 = .ok (.invokespecial 1, 3) := by decide +kernel
theorem d5_4 : decode prog_11_method_1_code 4 = .ok (.aload_n 0, 1) := by decide +kernel
theorem d5_5 : decode prog_11_method_1_code 5 = .ok (.aload_n 1, 1) := by decide +kernel
theorem d5_6 : decode prog_11_method_1_code 6 = .ok (.putfield 7, 3) := by decide +kernel
theorem d5_9 : decode prog_11_method_1_code 9 = .ok (.return_, 1) := by decide +kernel
theorem pn_5 : plainName "com/example/wayline/wayline/HeaderReader" = true := by first | (simp [plainName, overriddenIn]; done) | decide +kernel
theorem ef_5_RR (m : MethodId) (x0 : Addr) (x1 : Addr) : entryFrame m #[(.ref x0), (.ref x1)] 2 = mkF m 0 #[.val (.ref x0), .val (.ref x1)] [] := by first | (simp [entryFrame, mkF, argsToLocals, Value.category]; done) | rfl
def Q_rmHI (Z : State) (a1 a2 : Addr) (h0 : Heap) (n0 : Nat) (v : Option Value) (h : Heap) (L : List Loc) : Prop := v = none ∧ Fr n0 L ∧ Keep h0 h [a1] ∧ Exa Z h a1 "com/example/wayline/wayline/HeaderReader" ∧ Fld Z h a1 "com/example/wayline/wayline/HeaderReader" "value" "Ljava/lang/String;" (.ref a2) ∧ Fld Z h a1 "com/example/wayline/wayline/HeaderReader" "position" "I" (.int (Int32.ofNat 0))
theorem sn_position_value {Z : State} {a0 : Array Value} (hw : ∀ d ∈ tables_1, d.before a0 Z = true) : Jvm.RoadKit.slotOf Z "com/example/wayline/wayline/HeaderReader" "position" "I" ≠ Jvm.RoadKit.slotOf Z "com/example/wayline/wayline/HeaderReader" "value" "Ljava/lang/String;" := Jvm.RoadKit.slot_ne (a0 := a0) (Or.inl (own_w hw 41 rfl)) (Or.inr (own_w hw 34 rfl)) (by decide) (t := .int) (t' := (.object "java/lang/String")) (by decide) (by decide)
set_option maxRecDepth 65536 in
set_option maxHeartbeats 40000000 in
theorem rmHI (l : Launch) (Z : State) (a0 : Array Value) (hw : ∀ d ∈ tables_1, d.before a0 Z = true) (ws : List Jvm.Cond) (a1 a2 : Addr) (h0 : Heap) (n0 : Nat) (Z0 : n0 ≤ h0.size) (Ea1 : Exa Z h0 a1 "com/example/wayline/wayline/HeaderReader") (Fv1 : Fld Z h0 a1 "com/example/wayline/wayline/HeaderReader" "value" "Ljava/lang/String;" .null) (Fp1 : Fld Z h0 a1 "com/example/wayline/wayline/HeaderReader" "position" "I" (.int (Int32.ofNat 0))) (g_a1 : n0 ≤ a1) :
    MetFree l (⟨"com/example/wayline/wayline/HeaderReader", "<init>", "(Ljava/lang/String;)V"⟩ : MethodName) (head1 (Jvm.Cond.code (⟨"com/example/wayline/wayline/HeaderReader", "<init>", "(Ljava/lang/String;)V"⟩ : MethodName) prog_11_method_1_code 2 none :: ws) ({ frames := 1, cells := 0, slots := 0, locals := 12 } : Room)) (fun a U => a = #[(.ref a1), (.ref a2)] ∧ Z.Warmed39 U.vm ∧ U.heap = h0) (fun _ _ _ _ _ => True) (fun _ U o U' => ∃ v L, o = .returned v ∧ Q_rmHI Z a1 a2 h0 n0 v U'.heap L ∧ FrameEnd U o U' L ({ frames := 1, cells := 0, slots := 0, locals := 12 } : Room).cells ({ frames := 1, cells := 0, slots := 0, locals := 12 } : Room).slots) := by
  refine own_met (y := (⟨"com/example/wayline/wayline/HeaderReader", "<init>", "(Ljava/lang/String;)V"⟩ : MethodName)) (Q := (Q_rmHI Z a1 a2 h0 n0)) (plainFor_of_name pn_5) fun p e s m below meth c s₁ X0 hx hby hml hret hlk hown hnm hZ e0 => ?_
  refine own_entry (ef_5_RR m a1 a2) ?_
  have K0 := Keep.refl h0 [a1]
  refine own_to s₁ (mkF m 1 #[.val (.ref a1), .val (.ref a2)] [(.ref a1)]) (fun tq kq => XS.aloadN X0.here hx rfl (hb hby d5_0) rfl rfl kq) ?_
  obtain ⟨T1, X1, e1, st1⟩ := initO X0 hx hZ hown (own_w hw 32 rfl) (own_w hw 16 rfl) (own_w hw 17 rfl) e0 (g := (mkF m 1 #[.val (.ref a1), .val (.ref a2)] [(.ref a1)])) rfl (by rw [hml]; rfl) rfl (hb hby d5_1) (by decide) (W := 0) (by show 2 * 0 + _ ≤ _; exact Nat.le_of_eq rfl) (by decide)
  refine own_to T1 (mkF m 6 #[.val (.ref a1), .val (.ref a2)] [(.ref a2), (.ref a1)]) (fun tq kq => st1 _ (XS.aloadN X1.here hx rfl (hb hby d5_4) rfl rfl (XS.aloadN X1.here hx rfl (hb hby d5_5) rfl rfl kq))) ?_
  obtain ⟨T2, h2, X2, e2, W2, st2⟩ := putF X1 hx hZ hown (host := "") (Or.inl (own_w hw 33 rfl)) Via.refl e1 Fv1 Ea1 (Or.inr ⟨(own_w hw 34 rfl), rfl, hnm⟩) (own_w hw 27 rfl) (ty := (.object "java/lang/String")) (by decide) rfl rfl (g := (mkF m 6 #[.val (.ref a1), .val (.ref a2)] [(.ref a2), (.ref a1)])) rfl rfl (hb hby d5_6)
  have f3 := Ea1.wr W2
  have f4 := Fp1.other W2 (Or.inr (sn_position_value hw))
  have f5 := Fv1.same W2
  have N2 := Fr.snoc X2 (Fr.nil n0) g_a1
  have Zs2 : n0 ≤ h2.size := by rw [W2.size]; exact Z0
  have K2 := K0.wr W2 (Or.inl (List.mem_of_getElem? (i := 0) rfl))
  refine own_to T2 (mkF m 9 #[.val (.ref a1), .val (.ref a2)] []) (fun tq kq => st2 _ kq) ?_
  exact own_retV X2 hx hret hlk (hb hby d5_9) (by decide) (by decide) (by rw [e2]; exact ⟨rfl, N2, K2, f3, f5, f4⟩)
theorem d6_0 : decode prog_11_method_2_code 0 = .ok (.aload_n 0, 1) := by decide +kernel
theorem d6_1 : decode prog_11_method_2_code 1 = .ok (.getfield 13, 3) := by decide +kernel
theorem d6_4 : decode prog_11_method_2_code 4 = .ok (.aload_n 0, 1) := by decide +kernel
theorem d6_5 : decode prog_11_method_2_code 5 = .ok (.getfield 7, 3) := by decide +kernel
theorem d6_8 : decode prog_11_method_2_code 8 = .ok (.invokevirtual 17, 3) := by decide +kernel
theorem d6_11 : decode prog_11_method_2_code 11 = .ok (.if_icmp .lt 7, 3) := by decide +kernel
theorem d6_14 : decode prog_11_method_2_code 14 = .ok (.iconst 1, 1) := by decide +kernel
theorem d6_15 : decode prog_11_method_2_code 15 = .ok (.goto 4, 3) := by decide +kernel
theorem d6_18 : decode prog_11_method_2_code 18 = .ok (.iconst 0, 1) := by decide +kernel
theorem d6_19 : decode prog_11_method_2_code 19 = .ok (.ireturn, 1) := by decide +kernel
theorem ef_6_R (m : MethodId) (x0 : Addr) : entryFrame m #[(.ref x0)] 1 = mkF m 0 #[.val (.ref x0)] [] := by first | (simp [entryFrame, mkF, argsToLocals, Value.category]; done) | rfl
def Q_rmEnd (Z : State) (a1 a2 t2 : Addr) (q n : Nat) (f : Nat → Int32) (G1 : Int32) (h0 : Heap) (n0 : Nat) (v : Option Value) (h : Heap) (L : List Loc) : Prop := v = some (.int (own_end q n)) ∧ Fr n0 L ∧ h = h0
theorem pd_6 : parseMethodDescriptor "()I" = some ⟨[], some .int⟩ := by decide +kernel
set_option maxRecDepth 65536 in
set_option maxHeartbeats 40000000 in
theorem rmEnd (l : Launch) (Z : State) (a0 : Array Value) (hw : ∀ d ∈ tables_1, d.before a0 Z = true) (ws : List Jvm.Cond) (a1 a2 t2 : Addr) (q n : Nat) (f : Nat → Int32) (G1 : Int32) (h0 : Heap) (n0 : Nat) (Z0 : n0 ≤ h0.size) (O2 : Sta Z h0 "java/lang/String" "COMPACT_STRINGS" "Z" (.int G1)) (hG : ¬ G1 = (0 : Int32)) (Fv1 : Fld Z h0 a1 "com/example/wayline/wayline/HeaderReader" "value" "Ljava/lang/String;" (.ref a2)) (Fp1 : Fld Z h0 a1 "com/example/wayline/wayline/HeaderReader" "position" "I" (.int (Int32.ofNat q))) (Ea2 : Exa Z h0 a2 "java/lang/String") (Fa2 : Fld Z h0 a2 "java/lang/String" "value" "[B" (.ref t2)) (Ca2 : Fld Z h0 a2 "java/lang/String" "coder" "B" (.int (0 : Int32))) (Aa2 : BArr Z h0 t2 n f) (hq' : q < 1000) (hn' : n < 1000) :
    MetFree l (⟨"com/example/wayline/wayline/HeaderReader", "atEnd", "()Z"⟩ : MethodName) (head1 (Jvm.Cond.code (⟨"com/example/wayline/wayline/HeaderReader", "atEnd", "()Z"⟩ : MethodName) prog_11_method_2_code 1 (some .boolean) :: ws) ({ frames := 2, cells := 0, slots := 0, locals := 26 } : Room)) (fun a U => a = #[(.ref a1)] ∧ Z.Warmed39 U.vm ∧ U.heap = h0) (fun _ _ _ _ _ => True) (fun _ U o U' => ∃ v L, o = .returned v ∧ Q_rmEnd Z a1 a2 t2 q n f G1 h0 n0 v U'.heap L ∧ FrameEnd U o U' L ({ frames := 2, cells := 0, slots := 0, locals := 26 } : Room).cells ({ frames := 2, cells := 0, slots := 0, locals := 26 } : Room).slots) := by
  refine own_met (y := (⟨"com/example/wayline/wayline/HeaderReader", "atEnd", "()Z"⟩ : MethodName)) (Q := (Q_rmEnd Z a1 a2 t2 q n f G1 h0 n0)) (plainFor_of_name pn_5) fun p e s m below meth c s₁ X0 hx hby hml hret hlk hown hnm hZ e0 => ?_
  refine own_entry (ef_6_R m a1) ?_
  refine own_to s₁ (mkF m 1 #[.val (.ref a1)] [(.ref a1)]) (fun tq kq => XS.aloadN X0.here hx rfl (hb hby d6_0) rfl rfl kq) ?_
  obtain ⟨T1, X1, e1, st1⟩ := getF X0 hx hZ hown (host := "") (Or.inl (own_w hw 40 rfl)) Via.refl e0 Fp1 (g := (mkF m 1 #[.val (.ref a1)] [(.ref a1)])) rfl rfl (hb hby d6_1)
  refine own_to T1 (mkF m 5 #[.val (.ref a1)] [(.ref a1), (.int (Int32.ofNat q))]) (fun tq kq => st1 _ (XS.aloadN X1.here hx rfl (hb hby d6_4) rfl rfl kq)) ?_
  obtain ⟨T2, X2, e2, st2⟩ := getF X1 hx hZ hown (host := "") (Or.inl (own_w hw 33 rfl)) Via.refl e1 Fv1 (g := (mkF m 5 #[.val (.ref a1)] [(.ref a1), (.int (Int32.ofNat q))])) rfl rfl (hb hby d6_5)
  refine own_to T2 (mkF m 8 #[.val (.ref a1)] [(.ref a2), (.int (Int32.ofNat q))]) (fun tq kq => st2 _ kq) ?_
  obtain ⟨cq3, kq3, q3a, q3b, q3c⟩ := isOf hZ e2 Ea2
  obtain ⟨_, _, ⟨T3, L3, k3, n3⟩, -, X3, ⟨Lc3, hQ3, l3, y3, z3⟩, st3⟩ := X2.virtualBack hx (y := (⟨"java/lang/String", "length", "()I"⟩ : MethodName)) (z := (⟨"java/lang/String", "length", "()I"⟩ : MethodName)) hown (mvT hZ (own_w hw 42 rfl)) (mvT hZ (own_w hw 43 rfl)) (notFace_of_selects (args := #[]) (mvT hZ (own_w hw 45 rfl))) (mvT hZ (own_w hw 45 rfl)) (mvT hZ (own_w hw 44 rfl)) (by decide) (backOf (W := 1) (rmLen l Z a0 hw [] a2 t2 n f G1 h0 n0 Z0 O2 hG Ea2 Fa2 Ca2 Aa2) hZ (own_w hw 46 rfl) (own_w hw 7 rfl) (by decide) (by decide)) q3a q3c (g := (mkF m 8 #[.val (.ref a1)] [(.ref a2), (.int (Int32.ofNat q))])) rfl (by rw [hml]; rfl) (Steps.refl _) (argsL := []) (rest := [(.int (Int32.ofNat q))]) (lenOf pd_6 rfl) rfl (by show 2 * 0 + _ ≤ _; exact Nat.le_of_eq rfl) (hb hby d6_8) (fun _ _ => ⟨rfl, e2, (by decide : 0 + 0 ≤ _), (by decide : 0 + 0 ≤ _)⟩)
  dsimp only [Pt.U, Pt.locs, Pt.cells, Pt.slots] at X3 l3 y3 z3 st3 hQ3
  have l3y := l3.symm
  clear l3
  subst l3y
  obtain rfl : k3 = 0 := y3
  obtain rfl : n3 = 0 := z3
  obtain ⟨rfl, N3q, e3⟩ := hQ3
  have N3 := Fr.app (Fr.nil n0) N3q
  refine own_to T3 (mkF m 11 #[.val (.ref a1)] [(.int (Int32.ofNat n)), (.int (Int32.ofNat q))]) (fun tq kq => st3.trans kq) ?_
  by_cases c11 : (Int32.ofNat q) < (Int32.ofNat n)
  · skip
    refine own_to T3 (mkF m 19 #[.val (.ref a1)] [(.int (0 : Int32))]) (fun tq kq => XS.icmpYes X3.here hx rfl (pc0 := 11) (pc' := 18) rfl (hb hby d6_11) rfl (tlt c11).1 (by decide) (by decide) (XS.iconst X3.here hx rfl (hb hby d6_18) kq)) ?_
    exact own_retZ X3 hx hret hlk (hb hby d6_19) (by decide) (by decide) (Or.inl rfl) ⟨congrArg (fun z => some (Value.int z)) (show own_end q n = (0 : Int32) from if_pos ((own_ltn (by omega) (by omega)).mp c11)).symm, N3, e3⟩
  · skip
    refine own_to T3 (mkF m 19 #[.val (.ref a1)] [(.int (1 : Int32))]) (fun tq kq => XS.icmpNo X3.here hx rfl (hb hby d6_11) rfl (flt c11).1 (XS.iconst X3.here hx rfl (hb hby d6_14) (XS.goto X3.here hx rfl (pc0 := 15) (pc' := 19) rfl (hb hby d6_15) (by decide) (by decide) kq))) ?_
    exact own_retZ X3 hx hret hlk (hb hby d6_19) (by decide) (by decide) (Or.inr rfl) ⟨congrArg (fun z => some (Value.int z)) (show own_end q n = (1 : Int32) from if_neg (mt (own_ltn (by omega) (by omega)).mpr c11)).symm, N3, e3⟩
theorem d9_0 : decode prog_11_method_14_code 0 = .ok (.aload_n 0, 1) := by decide +kernel
theorem d9_1 : decode prog_11_method_14_code 1 = .ok (.invokevirtual 30, 3) := by decide +kernel
theorem d9_4 : decode prog_11_method_14_code 4 = .ok (.ifCond .ne 48, 3) := by decide +kernel
theorem d9_7 : decode prog_11_method_14_code 7 = .ok (.aload_n 0, 1) := by decide +kernel
theorem d9_8 : decode prog_11_method_14_code 8 = .ok (.getfield 7, 3) := by decide +kernel
theorem d9_11 : decode prog_11_method_14_code 11 = .ok (.aload_n 0, 1) := by decide +kernel
theorem d9_12 : decode prog_11_method_14_code 12 = .ok (.getfield 13, 3) := by decide +kernel
theorem d9_15 : decode prog_11_method_14_code 15 = .ok (.invokevirtual 34, 3) := by decide +kernel
theorem d9_18 : decode prog_11_method_14_code 18 = .ok (.bipush 32, 2) := by decide +kernel
theorem d9_20 : decode prog_11_method_14_code 20 = .ok (.if_icmp .eq 19, 3) := by decide +kernel
theorem d9_23 : decode prog_11_method_14_code 23 = .ok (.aload_n 0, 1) := by decide +kernel
theorem d9_24 : decode prog_11_method_14_code 24 = .ok (.getfield 7, 3) := by decide +kernel
theorem d9_27 : decode prog_11_method_14_code 27 = .ok (.aload_n 0, 1) := by decide +kernel
theorem d9_28 : decode prog_11_method_14_code 28 = .ok (.getfield 13, 3) := by decide +kernel
theorem d9_31 : decode prog_11_method_14_code 31 = .ok (.invokevirtual 34, 3) := by decide +kernel
theorem d9_34 : decode prog_11_method_14_code 34 = .ok (.bipush 9, 2) := by decide +kernel
theorem d9_36 : decode prog_11_method_14_code 36 = .ok (.if_icmp .ne 16, 3) := by decide +kernel
theorem d9_39 : decode prog_11_method_14_code 39 = .ok (.aload_n 0, 1) := by decide +kernel
theorem d9_40 : decode prog_11_method_14_code 40 = .ok (.dup, 1) := by decide +kernel
theorem d9_41 : decode prog_11_method_14_code 41 = .ok (.getfield 13, 3) := by decide +kernel
theorem d9_44 : decode prog_11_method_14_code 44 = .ok (.iconst 1, 1) := by decide +kernel
theorem d9_45 : decode prog_11_method_14_code 45 = .ok (.iadd, 1) := by decide +kernel
theorem d9_46 : decode prog_11_method_14_code 46 = .ok (.putfield 13, 3) := by decide +kernel
theorem d9_49 : decode prog_11_method_14_code 49 = .ok (.goto (-49), 3) := by decide +kernel
theorem d9_52 : decode prog_11_method_14_code 52 = .ok (.return_, 1) := by decide +kernel
theorem ef_9_R (m : MethodId) (x0 : Addr) : entryFrame m #[(.ref x0)] 1 = mkF m 0 #[.val (.ref x0)] [] := by first | (simp [entryFrame, mkF, argsToLocals, Value.category]; done) | rfl
def Q_rmSkip (Z : State) (a1 a2 t2 : Addr) (q n : Nat) (f : Nat → Int32) (G1 : Int32) (vF : Value) (h0 : Heap) (n0 : Nat) (v : Option Value) (h : Heap) (L : List Loc) : Prop := v = none ∧ Fr n0 L ∧ Keep h0 h [a1] ∧ Exa Z h a1 "com/example/wayline/wayline/HeaderReader" ∧ Fld Z h a1 "com/example/wayline/wayline/HeaderReader" "value" "Ljava/lang/String;" (.ref a2) ∧ ∃ q', q ≤ q' ∧ q' ≤ n ∧ Fld Z h a1 "com/example/wayline/wayline/HeaderReader" "position" "I" (.int (Int32.ofNat q')) ∧ (∀ i, q ≤ i → i < q' → own_ws (own_ch (f i))) ∧ (q' < n → ¬ own_ws (own_ch (f q')))
theorem pd_0 : parseMethodDescriptor "(I)C" = some ⟨[.int], some .char⟩ := by decide +kernel
theorem sn_value_position {Z : State} {a0 : Array Value} (hw : ∀ d ∈ tables_1, d.before a0 Z = true) : Jvm.RoadKit.slotOf Z "com/example/wayline/wayline/HeaderReader" "value" "Ljava/lang/String;" ≠ Jvm.RoadKit.slotOf Z "com/example/wayline/wayline/HeaderReader" "position" "I" := Jvm.RoadKit.slot_ne (a0 := a0) (Or.inr (own_w hw 34 rfl)) (Or.inl (own_w hw 41 rfl)) (by decide) (t := (.object "java/lang/String")) (t' := .int) (by decide) (by decide)
set_option maxRecDepth 65536 in
set_option maxHeartbeats 40000000 in
theorem rmSkip (l : Launch) (Z : State) (a0 : Array Value) (hw : ∀ d ∈ tables_1, d.before a0 Z = true) (ws : List Jvm.Cond) (a1 a2 t2 : Addr) (q n : Nat) (f : Nat → Int32) (G1 : Int32) (vF : Value) (h0 : Heap) (n0 : Nat) (Z0 : n0 ≤ h0.size) (O2 : Sta Z h0 "java/lang/String" "COMPACT_STRINGS" "Z" (.int G1)) (hG : ¬ G1 = (0 : Int32)) (O4 : Sta Z h0 "jdk/internal/util/Preconditions" "SIOOBE_FORMATTER" "Ljava/util/function/BiFunction;" vF) (hvF : vF.isRef = true) (Ea1 : Exa Z h0 a1 "com/example/wayline/wayline/HeaderReader") (Fv1 : Fld Z h0 a1 "com/example/wayline/wayline/HeaderReader" "value" "Ljava/lang/String;" (.ref a2)) (Fp1 : Fld Z h0 a1 "com/example/wayline/wayline/HeaderReader" "position" "I" (.int (Int32.ofNat q))) (Ea2 : Exa Z h0 a2 "java/lang/String") (Fa2 : Fld Z h0 a2 "java/lang/String" "value" "[B" (.ref t2)) (Ca2 : Fld Z h0 a2 "java/lang/String" "coder" "B" (.int (0 : Int32))) (Aa2 : BArr Z h0 t2 n f) (hqn : q ≤ n) (hn' : n < 100) (ne2 : a1 ≠ a2) (net : a1 ≠ t2) (g_a1 : n0 ≤ a1) :
    MetFree l (⟨"com/example/wayline/wayline/HeaderReader", "skipWhiteSpace", "()V"⟩ : MethodName) (head1 (Jvm.Cond.code (⟨"com/example/wayline/wayline/HeaderReader", "skipWhiteSpace", "()V"⟩ : MethodName) prog_11_method_14_code 1 none :: ws) ({ frames := 4, cells := 0, slots := 0, locals := 60 } : Room)) (fun a U => a = #[(.ref a1)] ∧ Z.Warmed39 U.vm ∧ U.heap = h0) (fun _ _ _ _ _ => True) (fun _ U o U' => ∃ v L, o = .returned v ∧ Q_rmSkip Z a1 a2 t2 q n f G1 vF h0 n0 v U'.heap L ∧ FrameEnd U o U' L ({ frames := 4, cells := 0, slots := 0, locals := 60 } : Room).cells ({ frames := 4, cells := 0, slots := 0, locals := 60 } : Room).slots) := by
  refine own_met (y := (⟨"com/example/wayline/wayline/HeaderReader", "skipWhiteSpace", "()V"⟩ : MethodName)) (Q := (Q_rmSkip Z a1 a2 t2 q n f G1 vF h0 n0)) (plainFor_of_name pn_5) fun p e s m below meth c s₁ X0 hx hby hml hret hlk hown hnm hZ e0 => ?_
  refine own_entry (ef_9_R m a1) ?_
  have loop : ∀ (k1 q1 : Nat) (T1 : State) (h1 : Heap) (L1 : List Loc), q1 + k1 = n → q ≤ q1 → (∀ i, q ≤ i → i < q1 → own_ws (own_ch (f i))) → Stand p l e ({ frames := 4, cells := 0, slots := 0, locals := 60 } : Room) s m #[(.ref a1)] below meth c T1 L1 0 0 → T1.heap = h1 → Fr n0 L1 → n0 ≤ h1.size → Keep h0 h1 [a1] → Exa Z h1 a1 "com/example/wayline/wayline/HeaderReader" → Fld Z h1 a1 "com/example/wayline/wayline/HeaderReader" "value" "Ljava/lang/String;" (.ref a2) → Fld Z h1 a1 "com/example/wayline/wayline/HeaderReader" "position" "I" (.int (Int32.ofNat q1)) → Exa Z h1 a2 "java/lang/String" → Fld Z h1 a2 "java/lang/String" "value" "[B" (.ref t2) → Fld Z h1 a2 "java/lang/String" "coder" "B" (.int (0 : Int32)) → BArr Z h1 t2 n f → Sta Z h1 "java/lang/String" "COMPACT_STRINGS" "Z" (.int G1) → Sta Z h1 "jdk/internal/util/Preconditions" "SIOOBE_FORMATTER" "Ljava/util/function/BiFunction;" vF → Own p e below s ({ frames := 4, cells := 0, slots := 0, locals := 60 } : Room).cells ({ frames := 4, cells := 0, slots := 0, locals := 60 } : Room).slots (Q_rmSkip Z a1 a2 t2 q n f G1 vF h0 n0) T1 (mkF m 0 #[.val (.ref a1)] []) := by
    intro k1
    induction k1 with
    | zero =>
      intro q1 T1 h1 L1 hqk hle hall X1 e1 N1 Z1 K1 Ea1' Fv1' Fp1' Ea2' Fa2' Ca2' Aa2' O2' O4'
      refine own_to T1 (mkF m 1 #[.val (.ref a1)] [(.ref a1)]) (fun tq kq => XS.aloadN X1.here hx rfl (hb hby d9_0) rfl rfl kq) ?_
      obtain ⟨cq1, kq1, q1a, q1b, q1c⟩ := isOf hZ e1 Ea1'
      obtain ⟨_, _, ⟨T1, L1, k1, n1⟩, -, X1, ⟨Lc1, hQ1, l1, y1, z1⟩, st1⟩ := X1.virtualBack hx (y := (⟨"com/example/wayline/wayline/HeaderReader", "atEnd", "()Z"⟩ : MethodName)) (z := (⟨"com/example/wayline/wayline/HeaderReader", "atEnd", "()Z"⟩ : MethodName)) hown (mvT hZ (own_w hw 58 rfl)) (mvT hZ (own_w hw 36 rfl)) (notFace_of_selects (args := #[]) (mvT hZ (own_w hw 38 rfl))) (mvT hZ (own_w hw 38 rfl)) (mvT hZ (own_w hw 37 rfl)) (by decide) (backOf (W := 0) (rmEnd l Z a0 hw [] a1 a2 t2 q1 n f G1 h1 n0 Z1 O2' hG Fv1' Fp1' Ea2' Fa2' Ca2' Aa2' (by omega) (by omega)) hZ (own_w hw 39 rfl) (own_w hw 28 rfl) (by decide) (by decide)) q1a q1c (g := (mkF m 1 #[.val (.ref a1)] [(.ref a1)])) rfl (by rw [hml]; rfl) (Steps.refl _) (argsL := []) (rest := []) (lenOf pd_5 rfl) rfl (by show 2 * 0 + _ ≤ _; exact Nat.le_of_eq rfl) (hb hby d9_1) (fun _ _ => ⟨rfl, e1, (by decide : 0 + 0 ≤ _), (by decide : 0 + 0 ≤ _)⟩)
      dsimp only [Pt.U, Pt.locs, Pt.cells, Pt.slots] at X1 l1 y1 z1 st1 hQ1
      have l1y := l1.symm
      clear l1
      subst l1y
      obtain rfl : k1 = 0 := y1
      obtain rfl : n1 = 0 := z1
      obtain ⟨rfl, N1q, e1⟩ := hQ1
      have N1 := Fr.app N1 N1q
      refine own_to T1 (mkF m 4 #[.val (.ref a1)] [(.int (own_end q1 n))]) (fun tq kq => st1.trans kq) ?_
      rw [show own_end q1 n = (1 : Int32) from if_neg (by omega)]
      refine own_to T1 (mkF m 52 #[.val (.ref a1)] []) (fun tq kq => XS.ifYes X1.here hx rfl (pc0 := 4) (pc' := 52) rfl (hb hby d9_4) rfl ((if0 _ _).trans (feq (by decide : ¬ ((1 : Int32) = (0 : Int32)))).2) (by decide) (by decide) kq) ?_
      exact own_retV X1 hx hret hlk (hb hby d9_52) (by decide) (by decide) (by rw [e1]; exact ⟨rfl, N1, K1, Ea1', Fv1', q1, hle, (by omega), Fp1', (fun i h1 h2 => hall i h1 h2), (fun z => absurd z (by omega))⟩)
    | succ k1 ih =>
      intro q1 T1 h1 L1 hqk hle hall X1 e1 N1 Z1 K1 Ea1' Fv1' Fp1' Ea2' Fa2' Ca2' Aa2' O2' O4'
      refine own_to T1 (mkF m 1 #[.val (.ref a1)] [(.ref a1)]) (fun tq kq => XS.aloadN X1.here hx rfl (hb hby d9_0) rfl rfl kq) ?_
      obtain ⟨cq2, kq2, q2a, q2b, q2c⟩ := isOf hZ e1 Ea1'
      obtain ⟨_, _, ⟨T2, L2, k2, n2⟩, -, X2, ⟨Lc2, hQ2, l2, y2, z2⟩, st2⟩ := X1.virtualBack hx (y := (⟨"com/example/wayline/wayline/HeaderReader", "atEnd", "()Z"⟩ : MethodName)) (z := (⟨"com/example/wayline/wayline/HeaderReader", "atEnd", "()Z"⟩ : MethodName)) hown (mvT hZ (own_w hw 58 rfl)) (mvT hZ (own_w hw 36 rfl)) (notFace_of_selects (args := #[]) (mvT hZ (own_w hw 38 rfl))) (mvT hZ (own_w hw 38 rfl)) (mvT hZ (own_w hw 37 rfl)) (by decide) (backOf (W := 0) (rmEnd l Z a0 hw [] a1 a2 t2 q1 n f G1 h1 n0 Z1 O2' hG Fv1' Fp1' Ea2' Fa2' Ca2' Aa2' (by omega) (by omega)) hZ (own_w hw 39 rfl) (own_w hw 28 rfl) (by decide) (by decide)) q2a q2c (g := (mkF m 1 #[.val (.ref a1)] [(.ref a1)])) rfl (by rw [hml]; rfl) (Steps.refl _) (argsL := []) (rest := []) (lenOf pd_5 rfl) rfl (by show 2 * 0 + _ ≤ _; exact Nat.le_of_eq rfl) (hb hby d9_1) (fun _ _ => ⟨rfl, e1, (by decide : 0 + 0 ≤ _), (by decide : 0 + 0 ≤ _)⟩)
      dsimp only [Pt.U, Pt.locs, Pt.cells, Pt.slots] at X2 l2 y2 z2 st2 hQ2
      have l2y := l2.symm
      clear l2
      subst l2y
      obtain rfl : k2 = 0 := y2
      obtain rfl : n2 = 0 := z2
      obtain ⟨rfl, N2q, e2⟩ := hQ2
      have N2 := Fr.app N1 N2q
      refine own_to T2 (mkF m 4 #[.val (.ref a1)] [(.int (own_end q1 n))]) (fun tq kq => st2.trans kq) ?_
      rw [show own_end q1 n = (0 : Int32) from if_pos (by omega)]
      refine own_to T2 (mkF m 8 #[.val (.ref a1)] [(.ref a1)]) (fun tq kq => XS.ifNo X2.here hx rfl (hb hby d9_4) rfl ((if0 _ _).trans (teq (by decide : (0 : Int32) = (0 : Int32))).2) (XS.aloadN X2.here hx rfl (hb hby d9_7) rfl rfl kq)) ?_
      obtain ⟨T3, X3, e3, st3⟩ := getF X2 hx hZ hown (host := "") (Or.inl (own_w hw 33 rfl)) Via.refl e2 Fv1' (g := (mkF m 8 #[.val (.ref a1)] [(.ref a1)])) rfl rfl (hb hby d9_8)
      refine own_to T3 (mkF m 12 #[.val (.ref a1)] [(.ref a1), (.ref a2)]) (fun tq kq => st3 _ (XS.aloadN X3.here hx rfl (hb hby d9_11) rfl rfl kq)) ?_
      obtain ⟨T4, X4, e4, st4⟩ := getF X3 hx hZ hown (host := "") (Or.inl (own_w hw 40 rfl)) Via.refl e3 Fp1' (g := (mkF m 12 #[.val (.ref a1)] [(.ref a1), (.ref a2)])) rfl rfl (hb hby d9_12)
      refine own_to T4 (mkF m 15 #[.val (.ref a1)] [(.int (Int32.ofNat q1)), (.ref a2)]) (fun tq kq => st4 _ kq) ?_
      obtain ⟨cq5, kq5, q5a, q5b, q5c⟩ := isOf hZ e4 Ea2'
      obtain ⟨_, _, ⟨T5, L5, k5, n5⟩, -, X5, ⟨Lc5, hQ5, l5, y5, z5⟩, st5⟩ := X4.virtualBack hx (y := (⟨"java/lang/String", "charAt", "(I)C"⟩ : MethodName)) (z := (⟨"java/lang/String", "charAt", "(I)C"⟩ : MethodName)) hown (mvT hZ (own_w hw 139 rfl)) (mvT hZ (own_w hw 140 rfl)) (notFace_of_selects (args := #[]) (mvT hZ (own_w hw 142 rfl))) (mvT hZ (own_w hw 142 rfl)) (mvT hZ (own_w hw 141 rfl)) (by decide) (backOf (W := 0) (rmCh l Z a0 hw [] a2 t2 q1 n f (own_ch (f q1)) G1 vF h1 n0 Z1 O2' hG O4' hvF Ea2' Fa2' Ca2' Aa2' (by omega) (by omega) rfl) hZ (own_w hw 143 rfl) (own_w hw 7 rfl) (by decide) (by decide)) q5a q5c (g := (mkF m 15 #[.val (.ref a1)] [(.int (Int32.ofNat q1)), (.ref a2)])) rfl (by rw [hml]; rfl) (Steps.refl _) (argsL := [(.int (Int32.ofNat q1))]) (rest := []) (lenOf pd_0 rfl) rfl (by show 2 * 0 + _ ≤ _; exact Nat.le_of_eq rfl) (hb hby d9_15) (fun _ _ => ⟨rfl, e4, (by decide : 0 + 0 ≤ _), (by decide : 0 + 0 ≤ _)⟩)
      dsimp only [Pt.U, Pt.locs, Pt.cells, Pt.slots] at X5 l5 y5 z5 st5 hQ5
      have l5y := l5.symm
      clear l5
      subst l5y
      obtain rfl : k5 = 0 := y5
      obtain rfl : n5 = 0 := z5
      obtain ⟨rfl, N5q, e5⟩ := hQ5
      have N5 := Fr.app N2 N5q
      refine own_to T5 (mkF m 20 #[.val (.ref a1)] [(.int (32 : Int32)), (.int (own_ch (f q1)))]) (fun tq kq => st5.trans (XS.bipush X5.here hx rfl (hb hby d9_18) kq)) ?_
      by_cases c20 : (own_ch (f q1)) = (32 : Int32)
      · skip
        refine own_to T5 (mkF m 41 #[.val (.ref a1)] [(.ref a1), (.ref a1)]) (fun tq kq => XS.icmpYes X5.here hx rfl (pc0 := 20) (pc' := 39) rfl (hb hby d9_20) rfl (teq c20).1 (by decide) (by decide) (XS.aloadN X5.here hx rfl (hb hby d9_39) rfl rfl (XS.dup X5.here hx rfl (hb hby d9_40) rfl rfl kq))) ?_
        obtain ⟨T6, X6, e6, st6⟩ := getF X5 hx hZ hown (host := "") (Or.inl (own_w hw 40 rfl)) Via.refl e5 Fp1' (g := (mkF m 41 #[.val (.ref a1)] [(.ref a1), (.ref a1)])) rfl rfl (hb hby d9_41)
        refine own_to T6 (mkF m 46 #[.val (.ref a1)] [(.int ((Int32.ofNat q1) + (1 : Int32))), (.ref a1)]) (fun tq kq => st6 _ (XS.iconst X6.here hx rfl (hb hby d9_44) (XS.iadd X6.here hx rfl (hb hby d9_45) rfl kq))) ?_
        rw [show ((Int32.ofNat q1) + (1 : Int32)) = (Int32.ofNat (q1 + 1)) from own_addn q1 1 (by omega) (by decide)]
        obtain ⟨T7, h7, X7, e7, W7, st7⟩ := putF X6 hx hZ hown (host := "") (Or.inl (own_w hw 40 rfl)) Via.refl e6 Fp1' Ea1' (Or.inl (own_w hw 41 rfl)) (own_w hw 27 rfl) (ty := .int) (by decide) rfl rfl (g := (mkF m 46 #[.val (.ref a1)] [(.int (Int32.ofNat (q1 + 1))), (.ref a1)])) rfl rfl (hb hby d9_46)
        have f8 := Ea1'.wr W7
        have f9 := Fv1'.other W7 (Or.inr (sn_value_position hw))
        have f10 := O2'.wr W7
        have f11 := O4'.wr W7
        have f12 := Ea2'.wr W7
        have f13 := Fa2'.other W7 (Or.inl (Ne.symm ne2))
        have f14 := Ca2'.other W7 (Or.inl (Ne.symm ne2))
        have f15 := Aa2'.other W7 (Ne.symm net)
        have f16 := Fp1'.same W7
        have N7 := Fr.snoc X7 N5 g_a1
        have Zs7 : n0 ≤ h7.size := by rw [W7.size]; exact Z1
        have K7 := K1.wr W7 (Or.inl (List.mem_of_getElem? (i := 0) rfl))
        refine own_to T7 (mkF m 0 #[.val (.ref a1)] []) (fun tq kq => st7 _ (XS.goto X7.here hx rfl (pc0 := 49) (pc' := 0) rfl (hb hby d9_49) (by decide) (by decide) kq)) ?_
        refine ih (q1 + 1) _ _ _ (by omega) (by omega) (fun i h1 h2 => ?_) X7 e7 N7 Zs7 K7 f8 f9 f16 f12 f13 f14 f15 f10 f11
        by_cases hiq : i = q1
        · subst hiq; exact (Or.inl c20)
        · exact hall i h1 (by omega)
      · skip
        refine own_to T5 (mkF m 24 #[.val (.ref a1)] [(.ref a1)]) (fun tq kq => XS.icmpNo X5.here hx rfl (hb hby d9_20) rfl (feq c20).1 (XS.aloadN X5.here hx rfl (hb hby d9_23) rfl rfl kq)) ?_
        obtain ⟨T17, X17, e17, st17⟩ := getF X5 hx hZ hown (host := "") (Or.inl (own_w hw 33 rfl)) Via.refl e5 Fv1' (g := (mkF m 24 #[.val (.ref a1)] [(.ref a1)])) rfl rfl (hb hby d9_24)
        refine own_to T17 (mkF m 28 #[.val (.ref a1)] [(.ref a1), (.ref a2)]) (fun tq kq => st17 _ (XS.aloadN X17.here hx rfl (hb hby d9_27) rfl rfl kq)) ?_
        obtain ⟨T18, X18, e18, st18⟩ := getF X17 hx hZ hown (host := "") (Or.inl (own_w hw 40 rfl)) Via.refl e17 Fp1' (g := (mkF m 28 #[.val (.ref a1)] [(.ref a1), (.ref a2)])) rfl rfl (hb hby d9_28)
        refine own_to T18 (mkF m 31 #[.val (.ref a1)] [(.int (Int32.ofNat q1)), (.ref a2)]) (fun tq kq => st18 _ kq) ?_
        obtain ⟨cq19, kq19, q19a, q19b, q19c⟩ := isOf hZ e18 Ea2'
        obtain ⟨_, _, ⟨T19, L19, k19, n19⟩, -, X19, ⟨Lc19, hQ19, l19, y19, z19⟩, st19⟩ := X18.virtualBack hx (y := (⟨"java/lang/String", "charAt", "(I)C"⟩ : MethodName)) (z := (⟨"java/lang/String", "charAt", "(I)C"⟩ : MethodName)) hown (mvT hZ (own_w hw 139 rfl)) (mvT hZ (own_w hw 140 rfl)) (notFace_of_selects (args := #[]) (mvT hZ (own_w hw 142 rfl))) (mvT hZ (own_w hw 142 rfl)) (mvT hZ (own_w hw 141 rfl)) (by decide) (backOf (W := 0) (rmCh l Z a0 hw [] a2 t2 q1 n f (own_ch (f q1)) G1 vF h1 n0 Z1 O2' hG O4' hvF Ea2' Fa2' Ca2' Aa2' (by omega) (by omega) rfl) hZ (own_w hw 143 rfl) (own_w hw 7 rfl) (by decide) (by decide)) q19a q19c (g := (mkF m 31 #[.val (.ref a1)] [(.int (Int32.ofNat q1)), (.ref a2)])) rfl (by rw [hml]; rfl) (Steps.refl _) (argsL := [(.int (Int32.ofNat q1))]) (rest := []) (lenOf pd_0 rfl) rfl (by show 2 * 0 + _ ≤ _; exact Nat.le_of_eq rfl) (hb hby d9_31) (fun _ _ => ⟨rfl, e18, (by decide : 0 + 0 ≤ _), (by decide : 0 + 0 ≤ _)⟩)
        dsimp only [Pt.U, Pt.locs, Pt.cells, Pt.slots] at X19 l19 y19 z19 st19 hQ19
        have l19y := l19.symm
        clear l19
        subst l19y
        obtain rfl : k19 = 0 := y19
        obtain rfl : n19 = 0 := z19
        obtain ⟨rfl, N19q, e19⟩ := hQ19
        have N19 := Fr.app N5 N19q
        refine own_to T19 (mkF m 36 #[.val (.ref a1)] [(.int (9 : Int32)), (.int (own_ch (f q1)))]) (fun tq kq => st19.trans (XS.bipush X19.here hx rfl (hb hby d9_34) kq)) ?_
        by_cases c36 : (own_ch (f q1)) = (9 : Int32)
        · skip
          refine own_to T19 (mkF m 41 #[.val (.ref a1)] [(.ref a1), (.ref a1)]) (fun tq kq => XS.icmpNo X19.here hx rfl (hb hby d9_36) rfl (teq c36).2 (XS.aloadN X19.here hx rfl (hb hby d9_39) rfl rfl (XS.dup X19.here hx rfl (hb hby d9_40) rfl rfl kq))) ?_
          obtain ⟨T20, X20, e20, st20⟩ := getF X19 hx hZ hown (host := "") (Or.inl (own_w hw 40 rfl)) Via.refl e19 Fp1' (g := (mkF m 41 #[.val (.ref a1)] [(.ref a1), (.ref a1)])) rfl rfl (hb hby d9_41)
          refine own_to T20 (mkF m 46 #[.val (.ref a1)] [(.int ((Int32.ofNat q1) + (1 : Int32))), (.ref a1)]) (fun tq kq => st20 _ (XS.iconst X20.here hx rfl (hb hby d9_44) (XS.iadd X20.here hx rfl (hb hby d9_45) rfl kq))) ?_
          rw [show ((Int32.ofNat q1) + (1 : Int32)) = (Int32.ofNat (q1 + 1)) from own_addn q1 1 (by omega) (by decide)]
          obtain ⟨T21, h21, X21, e21, W21, st21⟩ := putF X20 hx hZ hown (host := "") (Or.inl (own_w hw 40 rfl)) Via.refl e20 Fp1' Ea1' (Or.inl (own_w hw 41 rfl)) (own_w hw 27 rfl) (ty := .int) (by decide) rfl rfl (g := (mkF m 46 #[.val (.ref a1)] [(.int (Int32.ofNat (q1 + 1))), (.ref a1)])) rfl rfl (hb hby d9_46)
          have f22 := Ea1'.wr W21
          have f23 := Fv1'.other W21 (Or.inr (sn_value_position hw))
          have f24 := O2'.wr W21
          have f25 := O4'.wr W21
          have f26 := Ea2'.wr W21
          have f27 := Fa2'.other W21 (Or.inl (Ne.symm ne2))
          have f28 := Ca2'.other W21 (Or.inl (Ne.symm ne2))
          have f29 := Aa2'.other W21 (Ne.symm net)
          have f30 := Fp1'.same W21
          have N21 := Fr.snoc X21 N19 g_a1
          have Zs21 : n0 ≤ h21.size := by rw [W21.size]; exact Z1
          have K21 := K1.wr W21 (Or.inl (List.mem_of_getElem? (i := 0) rfl))
          refine own_to T21 (mkF m 0 #[.val (.ref a1)] []) (fun tq kq => st21 _ (XS.goto X21.here hx rfl (pc0 := 49) (pc' := 0) rfl (hb hby d9_49) (by decide) (by decide) kq)) ?_
          refine ih (q1 + 1) _ _ _ (by omega) (by omega) (fun i h1 h2 => ?_) X21 e21 N21 Zs21 K21 f22 f23 f30 f26 f27 f28 f29 f24 f25
          by_cases hiq : i = q1
          · subst hiq; exact (Or.inr c36)
          · exact hall i h1 (by omega)
        · skip
          refine own_to T19 (mkF m 52 #[.val (.ref a1)] []) (fun tq kq => XS.icmpYes X19.here hx rfl (pc0 := 36) (pc' := 52) rfl (hb hby d9_36) rfl (feq c36).2 (by decide) (by decide) kq) ?_
          exact own_retV X19 hx hret hlk (hb hby d9_52) (by decide) (by decide) (by rw [e19]; exact ⟨rfl, N19, K1, Ea1', Fv1', q1, hle, (by omega), Fp1', (fun i h1 h2 => hall i h1 h2), (fun _ z => z.elim c20 c36)⟩)
  exact loop (n - q) q s₁ h0 [] (by omega) (Nat.le_refl _) (fun i h1 h2 => absurd h2 (by omega)) X0 e0 (Fr.nil n0) Z0 (Keep.refl h0 [a1]) Ea1 Fv1 Fp1 Ea2 Fa2 Ca2 Aa2 O2 O4
theorem d17_0 : decode jdk_43_method_4_code 0 = .ok (.iload_n 0, 1) := by decide +kernel
theorem d17_1 : decode jdk_43_method_4_code 1 = .ok (.ifCond .lt 14, 3) := by decide +kernel
theorem d17_4 : decode jdk_43_method_4_code 4 = .ok (.iload_n 0, 1) := by decide +kernel
theorem d17_5 : decode jdk_43_method_4_code 5 = .ok (.sipush 255, 3) := by decide +kernel
theorem d17_8 : decode jdk_43_method_4_code 8 = .ok (.if_icmp .gt 7, 3) := by decide +kernel
theorem d17_11 : decode jdk_43_method_4_code 11 = .ok (.iconst 1, 1) := by decide +kernel
theorem d17_12 : decode jdk_43_method_4_code 12 = .ok (.goto 4, 3) := by decide +kernel
theorem d17_15 : decode jdk_43_method_4_code 15 = .ok (.iconst 0, 1) := by decide +kernel
theorem d17_16 : decode jdk_43_method_4_code 16 = .ok (.ireturn, 1) := by decide +kernel
theorem ef_17_I (m : MethodId) (x0 : Int32) : entryFrame m #[(.int x0)] 1 = mkF m 0 #[.val (.int x0)] [] := by first | (simp [entryFrame, mkF, argsToLocals, Value.category]; done) | rfl
def Q_rmCanI (Z : State) (x0 : Int32) (h0 : Heap) (n0 : Nat) (v : Option Value) (h : Heap) (L : List Loc) : Prop := v = some (.int (1 : Int32)) ∧ Fr n0 L ∧ h = h0
set_option maxRecDepth 65536 in
set_option maxHeartbeats 40000000 in
theorem rmCanI (l : Launch) (Z : State) (a0 : Array Value) (hw : ∀ d ∈ tables_1, d.before a0 Z = true) (ws : List Jvm.Cond) (x0 : Int32) (h0 : Heap) (n0 : Nat) (Z0 : n0 ≤ h0.size) (hp0 : ¬ x0 < (0 : Int32)) (hp1 : ¬ (255 : Int32) < x0) :
    MetFree l (⟨"java/lang/StringLatin1", "canEncode", "(I)Z"⟩ : MethodName) (head1 (Jvm.Cond.code (⟨"java/lang/StringLatin1", "canEncode", "(I)Z"⟩ : MethodName) jdk_43_method_4_code 1 (some .boolean) :: ws) ({ frames := 0, cells := 0, slots := 0, locals := 0 } : Room)) (fun a U => a = #[(.int x0)] ∧ Z.Warmed39 U.vm ∧ U.heap = h0) (fun _ _ _ _ _ => True) (fun _ U o U' => ∃ v L, o = .returned v ∧ Q_rmCanI Z x0 h0 n0 v U'.heap L ∧ FrameEnd U o U' L ({ frames := 0, cells := 0, slots := 0, locals := 0 } : Room).cells ({ frames := 0, cells := 0, slots := 0, locals := 0 } : Room).slots) := by
  refine own_met (y := (⟨"java/lang/StringLatin1", "canEncode", "(I)Z"⟩ : MethodName)) (Q := (Q_rmCanI Z x0 h0 n0)) (plainFor_of_name pn_30) fun p e s m below meth c s₁ X0 hx hby hml hret hlk hown hnm hZ e0 => ?_
  refine own_entry (ef_17_I m x0) ?_
  refine own_to s₁ (mkF m 16 #[.val (.int x0)] [(.int (1 : Int32))]) (fun tq kq => XS.iloadN X0.here hx rfl (hb hby d17_0) rfl (XS.ifNo X0.here hx rfl (hb hby d17_1) rfl ((if0 _ _).trans (flt hp0).1) (XS.iloadN X0.here hx rfl (hb hby d17_4) rfl (XS.sipush X0.here hx rfl (hb hby d17_5) (XS.icmpNo X0.here hx rfl (hb hby d17_8) rfl (flt hp1).2.2.1 (XS.iconst X0.here hx rfl (hb hby d17_11) (XS.goto X0.here hx rfl (pc0 := 12) (pc' := 16) rfl (hb hby d17_12) (by decide) (by decide) kq))))))) ?_
  exact own_retZ X0 hx hret hlk (hb hby d17_16) (by decide) (by decide) (Or.inr rfl) ⟨rfl, (Fr.nil n0), e0⟩
theorem d18_0 : decode jdk_29_method_65_code 0 = .ok (.iload_n 0, 1) := by decide +kernel
theorem d18_1 : decode jdk_29_method_65_code 1 = .ok (.iload_n 1, 1) := by decide +kernel
theorem d18_2 : decode jdk_29_method_65_code 2 = .ok (.if_icmp .lt 7, 3) := by decide +kernel
theorem d18_5 : decode jdk_29_method_65_code 5 = .ok (.iload_n 0, 1) := by decide +kernel
theorem d18_6 : decode jdk_29_method_65_code 6 = .ok (.goto 4, 3) := by decide +kernel
theorem d18_9 : decode jdk_29_method_65_code 9 = .ok (.iload_n 1, 1) := by decide +kernel
theorem d18_10 : decode jdk_29_method_65_code 10 = .ok (.ireturn, 1) := by decide +kernel
theorem ef_18_II (m : MethodId) (x0 : Int32) (x1 : Int32) : entryFrame m #[(.int x0), (.int x1)] 2 = mkF m 0 #[.val (.int x0), .val (.int x1)] [] := by first | (simp [entryFrame, mkF, argsToLocals, Value.category]; done) | rfl
def Q_rmMax (Z : State) (x0 x1 : Int32) (h0 : Heap) (n0 : Nat) (v : Option Value) (h : Heap) (L : List Loc) : Prop := v = some (.int x0) ∧ Fr n0 L ∧ h = h0
set_option maxRecDepth 65536 in
set_option maxHeartbeats 40000000 in
theorem rmMax (l : Launch) (Z : State) (a0 : Array Value) (hw : ∀ d ∈ tables_1, d.before a0 Z = true) (ws : List Jvm.Cond) (x0 x1 : Int32) (h0 : Heap) (n0 : Nat) (Z0 : n0 ≤ h0.size) (hp0 : ¬ x0 < x1) :
    MetFree l (⟨"java/lang/Math", "max", "(II)I"⟩ : MethodName) (head1 (Jvm.Cond.code (⟨"java/lang/Math", "max", "(II)I"⟩ : MethodName) jdk_29_method_65_code 2 (some .int) :: ws) ({ frames := 0, cells := 0, slots := 0, locals := 0 } : Room)) (fun a U => a = #[(.int x0), (.int x1)] ∧ Z.Warmed39 U.vm ∧ U.heap = h0) (fun _ _ _ _ _ => True) (fun _ U o U' => ∃ v L, o = .returned v ∧ Q_rmMax Z x0 x1 h0 n0 v U'.heap L ∧ FrameEnd U o U' L ({ frames := 0, cells := 0, slots := 0, locals := 0 } : Room).cells ({ frames := 0, cells := 0, slots := 0, locals := 0 } : Room).slots) := by
  refine own_met (y := (⟨"java/lang/Math", "max", "(II)I"⟩ : MethodName)) (Q := (Q_rmMax Z x0 x1 h0 n0)) (Jvm.Free.JP.mathPlain rfl (by decide +kernel)) fun p e s m below meth c s₁ X0 hx hby hml hret hlk hown hnm hZ e0 => ?_
  refine own_entry (ef_18_II m x0 x1) ?_
  refine own_to s₁ (mkF m 10 #[.val (.int x0), .val (.int x1)] [(.int x0)]) (fun tq kq => XS.iloadN X0.here hx rfl (hb hby d18_0) rfl (XS.iloadN X0.here hx rfl (hb hby d18_1) rfl (XS.icmpNo X0.here hx rfl (hb hby d18_2) rfl (flt hp0).1 (XS.iloadN X0.here hx rfl (hb hby d18_5) rfl (XS.goto X0.here hx rfl (pc0 := 6) (pc' := 10) rfl (hb hby d18_6) (by decide) (by decide) kq))))) ?_
  exact own_retI X0 hx hret hlk (hb hby d18_10) (by decide) (by decide) ⟨rfl, (Fr.nil n0), e0⟩
theorem d19_0 : decode jdk_29_method_69_code 0 = .ok (.iload_n 0, 1) := by decide +kernel
theorem d19_1 : decode jdk_29_method_69_code 1 = .ok (.iload_n 1, 1) := by decide +kernel
theorem d19_2 : decode jdk_29_method_69_code 2 = .ok (.if_icmp .gt 7, 3) := by decide +kernel
theorem d19_5 : decode jdk_29_method_69_code 5 = .ok (.iload_n 0, 1) := by decide +kernel
theorem d19_6 : decode jdk_29_method_69_code 6 = .ok (.goto 4, 3) := by decide +kernel
theorem d19_9 : decode jdk_29_method_69_code 9 = .ok (.iload_n 1, 1) := by decide +kernel
theorem d19_10 : decode jdk_29_method_69_code 10 = .ok (.ireturn, 1) := by decide +kernel
theorem ef_19_II (m : MethodId) (x0 : Int32) (x1 : Int32) : entryFrame m #[(.int x0), (.int x1)] 2 = mkF m 0 #[.val (.int x0), .val (.int x1)] [] := by first | (simp [entryFrame, mkF, argsToLocals, Value.category]; done) | rfl
def Q_rmMin (Z : State) (x0 x1 : Int32) (h0 : Heap) (n0 : Nat) (v : Option Value) (h : Heap) (L : List Loc) : Prop := v = some (.int x0) ∧ Fr n0 L ∧ h = h0
set_option maxRecDepth 65536 in
set_option maxHeartbeats 40000000 in
theorem rmMin (l : Launch) (Z : State) (a0 : Array Value) (hw : ∀ d ∈ tables_1, d.before a0 Z = true) (ws : List Jvm.Cond) (x0 x1 : Int32) (h0 : Heap) (n0 : Nat) (Z0 : n0 ≤ h0.size) (hp0 : ¬ x1 < x0) :
    MetFree l (⟨"java/lang/Math", "min", "(II)I"⟩ : MethodName) (head1 (Jvm.Cond.code (⟨"java/lang/Math", "min", "(II)I"⟩ : MethodName) jdk_29_method_69_code 2 (some .int) :: ws) ({ frames := 0, cells := 0, slots := 0, locals := 0 } : Room)) (fun a U => a = #[(.int x0), (.int x1)] ∧ Z.Warmed39 U.vm ∧ U.heap = h0) (fun _ _ _ _ _ => True) (fun _ U o U' => ∃ v L, o = .returned v ∧ Q_rmMin Z x0 x1 h0 n0 v U'.heap L ∧ FrameEnd U o U' L ({ frames := 0, cells := 0, slots := 0, locals := 0 } : Room).cells ({ frames := 0, cells := 0, slots := 0, locals := 0 } : Room).slots) := by
  refine own_met (y := (⟨"java/lang/Math", "min", "(II)I"⟩ : MethodName)) (Q := (Q_rmMin Z x0 x1 h0 n0)) (Jvm.Free.JP.mathPlain rfl (by decide +kernel)) fun p e s m below meth c s₁ X0 hx hby hml hret hlk hown hnm hZ e0 => ?_
  refine own_entry (ef_19_II m x0 x1) ?_
  refine own_to s₁ (mkF m 10 #[.val (.int x0), .val (.int x1)] [(.int x0)]) (fun tq kq => XS.iloadN X0.here hx rfl (hb hby d19_0) rfl (XS.iloadN X0.here hx rfl (hb hby d19_1) rfl (XS.icmpNo X0.here hx rfl (hb hby d19_2) rfl (flt hp0).2.2.1 (XS.iloadN X0.here hx rfl (hb hby d19_5) rfl (XS.goto X0.here hx rfl (pc0 := 6) (pc' := 10) rfl (hb hby d19_6) (by decide) (by decide) kq))))) ?_
  exact own_retI X0 hx hret hlk (hb hby d19_10) (by decide) (by decide) ⟨rfl, (Fr.nil n0), e0⟩
theorem d20_0 : decode jdk_43_method_23_code 0 = .ok (.iload_n 1, 1) := by decide +kernel
theorem d20_1 : decode jdk_43_method_23_code 1 = .ok (.i2b, 1) := by decide +kernel
theorem d20_2 : decode jdk_43_method_23_code 2 = .ok (.istore 4, 2) := by decide +kernel
theorem d20_4 : decode jdk_43_method_23_code 4 = .ok (.iload_n 2, 1) := by decide +kernel
theorem d20_5 : decode jdk_43_method_23_code 5 = .ok (.istore 5, 2) := by decide +kernel
theorem d20_7 : decode jdk_43_method_23_code 7 = .ok (.iload 5, 2) := by decide +kernel
theorem d20_9 : decode jdk_43_method_23_code 9 = .ok (.iload_n 3, 1) := by decide +kernel
theorem d20_10 : decode jdk_43_method_23_code 10 = .ok (.if_icmp .ge 21, 3) := by decide +kernel
theorem d20_13 : decode jdk_43_method_23_code 13 = .ok (.aload_n 0, 1) := by decide +kernel
theorem d20_14 : decode jdk_43_method_23_code 14 = .ok (.iload 5, 2) := by decide +kernel
theorem d20_16 : decode jdk_43_method_23_code 16 = .ok (.baload, 1) := by decide +kernel
theorem d20_17 : decode jdk_43_method_23_code 17 = .ok (.iload 4, 2) := by decide +kernel
theorem d20_19 : decode jdk_43_method_23_code 19 = .ok (.if_icmp .ne 6, 3) := by decide +kernel
theorem d20_22 : decode jdk_43_method_23_code 22 = .ok (.iload 5, 2) := by decide +kernel
theorem d20_24 : decode jdk_43_method_23_code 24 = .ok (.ireturn, 1) := by decide +kernel
theorem d20_25 : decode jdk_43_method_23_code 25 = .ok (.iinc 5 1, 3) := by decide +kernel
theorem d20_28 : decode jdk_43_method_23_code 28 = .ok (.goto (-21), 3) := by decide +kernel
theorem d20_31 : decode jdk_43_method_23_code 31 = .ok (.iconst (-1), 1) := by decide +kernel
theorem d20_32 : decode jdk_43_method_23_code 32 = .ok (.ireturn, 1) := by decide +kernel
theorem ef_20_RIII (m : MethodId) (x0 : Addr) (x1 : Int32) (x2 : Int32) (x3 : Int32) : entryFrame m #[(.ref x0), (.int x1), (.int x2), (.int x3)] 6 = mkF m 0 #[.val (.ref x0), .val (.int x1), .val (.int x2), .val (.int x3), .unset, .unset] [] := by first | (simp [entryFrame, mkF, argsToLocals, Value.category]; done) | rfl
def Q_rmIxC (Z : State) (t2 : Addr) (q j n : Nat) (f : Nat → Int32) (ch : Int32) (h0 : Heap) (n0 : Nat) (v : Option Value) (h : Heap) (L : List Loc) : Prop := v = some (.int (Int32.ofNat j)) ∧ Fr n0 L ∧ h = h0
set_option maxRecDepth 65536 in
set_option maxHeartbeats 40000000 in
theorem rmIxC (l : Launch) (Z : State) (a0 : Array Value) (hw : ∀ d ∈ tables_1, d.before a0 Z = true) (ws : List Jvm.Cond) (t2 : Addr) (q j n : Nat) (f : Nat → Int32) (ch : Int32) (h0 : Heap) (n0 : Nat) (Z0 : n0 ≤ h0.size) (Aa2 : BArr Z h0 t2 n f) (hj : q ≤ j) (hjn : j < n) (hn' : n < 100) (hfj : f j = (ch.toInt8.toInt32)) (hff : ∀ i, q ≤ i → i < j → ¬ f i = (ch.toInt8.toInt32)) :
    MetFree l (⟨"java/lang/StringLatin1", "indexOfChar", "([BIII)I"⟩ : MethodName) (head1 (Jvm.Cond.code (⟨"java/lang/StringLatin1", "indexOfChar", "([BIII)I"⟩ : MethodName) jdk_43_method_23_code 6 (some .int) :: ws) ({ frames := 0, cells := 0, slots := 0, locals := 0 } : Room)) (fun a U => a = #[(.ref t2), (.int ch), (.int (Int32.ofNat q)), (.int (Int32.ofNat n))] ∧ Z.Warmed39 U.vm ∧ U.heap = h0) (fun _ _ _ _ _ => True) (fun _ U o U' => ∃ v L, o = .returned v ∧ Q_rmIxC Z t2 q j n f ch h0 n0 v U'.heap L ∧ FrameEnd U o U' L ({ frames := 0, cells := 0, slots := 0, locals := 0 } : Room).cells ({ frames := 0, cells := 0, slots := 0, locals := 0 } : Room).slots) := by
  refine own_met (y := (⟨"java/lang/StringLatin1", "indexOfChar", "([BIII)I"⟩ : MethodName)) (Q := (Q_rmIxC Z t2 q j n f ch h0 n0)) (plainFor_of_name pn_30) fun p e s m below meth c s₁ X0 hx hby hml hret hlk hown hnm hZ e0 => ?_
  refine own_entry (ef_20_RIII m t2 ch (Int32.ofNat q) (Int32.ofNat n)) ?_
  obtain ⟨c1, Ar1, hsz1, hat1⟩ := Aa2
  refine own_to s₁ (mkF m 7 #[.val (.ref t2), .val (.int ch), .val (.int (Int32.ofNat q)), .val (.int (Int32.ofNat n)), .val (.int (ch.toInt8.toInt32)), .val (.int (Int32.ofNat q))] []) (fun tq kq => XS.iloadN X0.here hx rfl (hb hby d20_0) rfl (XS.i2b X0.here hx rfl (hb hby d20_1) rfl (XS.istore X0.here hx rfl (hb hby d20_2) rfl (l' := #[.val (.ref t2), .val (.int ch), .val (.int (Int32.ofNat q)), .val (.int (Int32.ofNat n)), .val (.int (ch.toInt8.toInt32)), .unset]) rfl (XS.iloadN X0.here hx rfl (hb hby d20_4) rfl (XS.istore X0.here hx rfl (hb hby d20_5) rfl (l' := #[.val (.ref t2), .val (.int ch), .val (.int (Int32.ofNat q)), .val (.int (Int32.ofNat n)), .val (.int (ch.toInt8.toInt32)), .val (.int (Int32.ofNat q))]) rfl kq))))) ?_
  have loop : ∀ (k1 i : Nat), i + k1 = j → q ≤ i → Own p e below s ({ frames := 0, cells := 0, slots := 0, locals := 0 } : Room).cells ({ frames := 0, cells := 0, slots := 0, locals := 0 } : Room).slots (Q_rmIxC Z t2 q j n f ch h0 n0) s₁ (mkF m 7 #[.val (.ref t2), .val (.int ch), .val (.int (Int32.ofNat q)), .val (.int (Int32.ofNat n)), .val (.int (ch.toInt8.toInt32)), .val (.int (Int32.ofNat i))] []) := by
    intro k1
    induction k1 with
    | zero =>
      intro i hij hqi
      have hin1 : ¬ ((Int32.ofNat i) < 0 ∨ c1.slots.size ≤ (Int32.ofNat i).toNatClampNeg) := by rw [hsz1]; exact within rfl (by omega) (by omega)
      have hat2 : c1.slots[(Int32.ofNat i).toNatClampNeg]? = some (.int (f i)) := by rw [clamp_of rfl (by omega)]; exact hat1 _ (by omega)
      have hi' : i = j := (by omega)
      refine own_to s₁ (mkF m 24 #[.val (.ref t2), .val (.int ch), .val (.int (Int32.ofNat q)), .val (.int (Int32.ofNat n)), .val (.int (ch.toInt8.toInt32)), .val (.int (Int32.ofNat i))] [(.int (Int32.ofNat i))]) (fun tq kq => XS.iload X0.here hx rfl (hb hby d20_7) rfl (XS.iloadN X0.here hx rfl (hb hby d20_9) rfl (XS.icmpNo X0.here hx rfl (hb hby d20_10) rfl (tlt ((own_ltn (by omega) (by omega)).mpr (by omega))).2.1 (XS.aloadN X0.here hx rfl (hb hby d20_13) rfl rfl (XS.iload X0.here hx rfl (hb hby d20_14) rfl (X0.baloadBytes hx (j := (Int32.ofNat i)) (v := (.int (f i))) (by rw [e0]; exact Ar1.1) (State.isArrayOf_alike hZ.alike Ar1.2.1) Ar1.2.2 hin1 hat2 (g := (mkF m 16 #[.val (.ref t2), .val (.int ch), .val (.int (Int32.ofNat q)), .val (.int (Int32.ofNat n)), .val (.int (ch.toInt8.toInt32)), .val (.int (Int32.ofNat i))] [(.int (Int32.ofNat i)), (.ref t2)])) rfl rfl (hb hby d20_16) _ (XS.iload X0.here hx rfl (hb hby d20_17) rfl (XS.icmpNo X0.here hx rfl (hb hby d20_19) rfl (teq (by rw [hi']; exact hfj)).2 (XS.iload X0.here hx rfl (hb hby d20_22) rfl kq))))))))) ?_
      exact own_retI X0 hx hret hlk (hb hby d20_24) (by decide) (by decide) ⟨by rw [hi'], (Fr.nil n0), e0⟩
    | succ k1 ih =>
      intro i hij hqi
      have hin1 : ¬ ((Int32.ofNat i) < 0 ∨ c1.slots.size ≤ (Int32.ofNat i).toNatClampNeg) := by rw [hsz1]; exact within rfl (by omega) (by omega)
      have hat2 : c1.slots[(Int32.ofNat i).toNatClampNeg]? = some (.int (f i)) := by rw [clamp_of rfl (by omega)]; exact hat1 _ (by omega)
      refine own_to s₁ (mkF m 7 #[.val (.ref t2), .val (.int ch), .val (.int (Int32.ofNat q)), .val (.int (Int32.ofNat n)), .val (.int (ch.toInt8.toInt32)), .val (.int ((Int32.ofNat i) + (1 : Int32)))] []) (fun tq kq => XS.iload X0.here hx rfl (hb hby d20_7) rfl (XS.iloadN X0.here hx rfl (hb hby d20_9) rfl (XS.icmpNo X0.here hx rfl (hb hby d20_10) rfl (tlt ((own_ltn (by omega) (by omega)).mpr (by omega))).2.1 (XS.aloadN X0.here hx rfl (hb hby d20_13) rfl rfl (XS.iload X0.here hx rfl (hb hby d20_14) rfl (X0.baloadBytes hx (j := (Int32.ofNat i)) (v := (.int (f i))) (by rw [e0]; exact Ar1.1) (State.isArrayOf_alike hZ.alike Ar1.2.1) Ar1.2.2 hin1 hat2 (g := (mkF m 16 #[.val (.ref t2), .val (.int ch), .val (.int (Int32.ofNat q)), .val (.int (Int32.ofNat n)), .val (.int (ch.toInt8.toInt32)), .val (.int (Int32.ofNat i))] [(.int (Int32.ofNat i)), (.ref t2)])) rfl rfl (hb hby d20_16) _ (XS.iload X0.here hx rfl (hb hby d20_17) rfl (XS.icmpYes X0.here hx rfl (pc0 := 19) (pc' := 25) rfl (hb hby d20_19) rfl (feq (hff i hqi (by omega))).2 (by decide) (by decide) (XS.iinc X0.here hx rfl (hb hby d20_25) rfl (l' := #[.val (.ref t2), .val (.int ch), .val (.int (Int32.ofNat q)), .val (.int (Int32.ofNat n)), .val (.int (ch.toInt8.toInt32)), .val (.int ((Int32.ofNat i) + (1 : Int32)))]) rfl (XS.goto X0.here hx rfl (pc0 := 28) (pc' := 7) rfl (hb hby d20_28) (by decide) (by decide) kq)))))))))) ?_
      rw [show (Int32.ofNat i + (1 : Int32)) = Int32.ofNat (i + 1) from own_addn i 1 (by omega) (by decide)]
      exact ih (i + 1) (by omega) (by omega)
  exact loop (j - q) q (by omega) (Nat.le_refl _)
theorem d16_0 : decode jdk_43_method_22_code 0 = .ok (.iload_n 1, 1) := by decide +kernel
theorem d16_1 : decode jdk_43_method_22_code 1 = .ok (.invokestatic 88, 3) := by decide +kernel
theorem d16_4 : decode jdk_43_method_22_code 4 = .ok (.ifCond .ne 5, 3) := by decide +kernel
theorem d16_7 : decode jdk_43_method_22_code 7 = .ok (.iconst (-1), 1) := by decide +kernel
theorem d16_8 : decode jdk_43_method_22_code 8 = .ok (.ireturn, 1) := by decide +kernel
theorem d16_9 : decode jdk_43_method_22_code 9 = .ok (.iload_n 2, 1) := by decide +kernel
theorem d16_10 : decode jdk_43_method_22_code 10 = .ok (.iconst 0, 1) := by decide +kernel
theorem d16_11 : decode jdk_43_method_22_code 11 = .ok (.invokestatic 92, 3) := by decide +kernel
theorem d16_14 : decode jdk_43_method_22_code 14 = .ok (.istore_n 2, 1) := by decide +kernel
theorem d16_15 : decode jdk_43_method_22_code 15 = .ok (.iload_n 3, 1) := by decide +kernel
theorem d16_16 : decode jdk_43_method_22_code 16 = .ok (.aload_n 0, 1) := by decide +kernel
theorem d16_17 : decode jdk_43_method_22_code 17 = .ok (.arraylength, 1) := by decide +kernel
theorem d16_18 : decode jdk_43_method_22_code 18 = .ok (.invokestatic 38, 3) := by decide +kernel
theorem d16_21 : decode jdk_43_method_22_code 21 = .ok (.istore_n 3, 1) := by decide +kernel
theorem d16_22 : decode jdk_43_method_22_code 22 = .ok (.iload_n 2, 1) := by decide +kernel
theorem d16_23 : decode jdk_43_method_22_code 23 = .ok (.iload_n 3, 1) := by decide +kernel
theorem d16_24 : decode jdk_43_method_22_code 24 = .ok (.if_icmp .lt 5, 3) := by decide +kernel
theorem d16_27 : decode jdk_43_method_22_code 27 = .ok (.iconst (-1), 1) := by decide +kernel
theorem d16_28 : decode jdk_43_method_22_code 28 = .ok (.ireturn, 1) := by decide +kernel
theorem d16_29 : decode jdk_43_method_22_code 29 = .ok (.aload_n 0, 1) := by decide +kernel
theorem d16_30 : decode jdk_43_method_22_code 30 = .ok (.iload_n 1, 1) := by decide +kernel
theorem d16_31 : decode jdk_43_method_22_code 31 = .ok (.iload_n 2, 1) := by decide +kernel
theorem d16_32 : decode jdk_43_method_22_code 32 = .ok (.iload_n 3, 1) := by decide +kernel
theorem d16_33 : decode jdk_43_method_22_code 33 = .ok (.invokestatic 95, 3) := by decide +kernel
theorem d16_36 : decode jdk_43_method_22_code 36 = .ok (.ireturn, 1) := by decide +kernel
theorem ef_16_RIII (m : MethodId) (x0 : Addr) (x1 : Int32) (x2 : Int32) (x3 : Int32) : entryFrame m #[(.ref x0), (.int x1), (.int x2), (.int x3)] 4 = mkF m 0 #[.val (.ref x0), .val (.int x1), .val (.int x2), .val (.int x3)] [] := by first | (simp [entryFrame, mkF, argsToLocals, Value.category]; done) | rfl
def Q_rmIxL (Z : State) (t2 : Addr) (q j n : Nat) (f : Nat → Int32) (ch : Int32) (h0 : Heap) (n0 : Nat) (v : Option Value) (h : Heap) (L : List Loc) : Prop := v = some (.int (Int32.ofNat j)) ∧ Fr n0 L ∧ h = h0
theorem pd_14 : parseMethodDescriptor "(I)Z" = some ⟨[.int], some .boolean⟩ := by decide +kernel
theorem pd_12 : parseMethodDescriptor "(II)I" = some ⟨[.int, .int], some .int⟩ := by decide +kernel
theorem pd_13 : parseMethodDescriptor "([BIII)I" = some ⟨[(.array .byte), .int, .int, .int], some .int⟩ := by decide +kernel
set_option maxRecDepth 65536 in
set_option maxHeartbeats 40000000 in
theorem rmIxL (l : Launch) (Z : State) (a0 : Array Value) (hw : ∀ d ∈ tables_1, d.before a0 Z = true) (ws : List Jvm.Cond) (t2 : Addr) (q j n : Nat) (f : Nat → Int32) (ch : Int32) (h0 : Heap) (n0 : Nat) (Z0 : n0 ≤ h0.size) (Aa2 : BArr Z h0 t2 n f) (hp0 : ¬ ch < (0 : Int32)) (hp1 : ¬ (255 : Int32) < ch) (hj : q ≤ j) (hjn : j < n) (hn' : n < 100) (hfj : f j = (ch.toInt8.toInt32)) (hff : ∀ i, q ≤ i → i < j → ¬ f i = (ch.toInt8.toInt32)) :
    MetFree l (⟨"java/lang/StringLatin1", "indexOf", "([BIII)I"⟩ : MethodName) (head1 (Jvm.Cond.code (⟨"java/lang/StringLatin1", "indexOf", "([BIII)I"⟩ : MethodName) jdk_43_method_22_code 4 (some .int) :: ws) ({ frames := 1, cells := 0, slots := 0, locals := 40 } : Room)) (fun a U => a = #[(.ref t2), (.int ch), (.int (Int32.ofNat q)), (.int (Int32.ofNat n))] ∧ Z.Warmed39 U.vm ∧ U.heap = h0) (fun _ _ _ _ _ => True) (fun _ U o U' => ∃ v L, o = .returned v ∧ Q_rmIxL Z t2 q j n f ch h0 n0 v U'.heap L ∧ FrameEnd U o U' L ({ frames := 1, cells := 0, slots := 0, locals := 40 } : Room).cells ({ frames := 1, cells := 0, slots := 0, locals := 40 } : Room).slots) := by
  refine own_met (y := (⟨"java/lang/StringLatin1", "indexOf", "([BIII)I"⟩ : MethodName)) (Q := (Q_rmIxL Z t2 q j n f ch h0 n0)) (plainFor_of_name pn_30) fun p e s m below meth c s₁ X0 hx hby hml hret hlk hown hnm hZ e0 => ?_
  refine own_entry (ef_16_RIII m t2 ch (Int32.ofNat q) (Int32.ofNat n)) ?_
  obtain ⟨c1, Ar1, hsz1, hat1⟩ := id Aa2
  refine own_to s₁ (mkF m 1 #[.val (.ref t2), .val (.int ch), .val (.int (Int32.ofNat q)), .val (.int (Int32.ofNat n))] [(.int ch)]) (fun tq kq => XS.iloadN X0.here hx rfl (hb hby d16_0) rfl kq) ?_
  obtain ⟨_, _, ⟨T1, L1, k1, n1⟩, -, X1, ⟨Lc1, hQ1, l1, y1, z1⟩, st1⟩ := Jvm.LawKit.callS X0 hx (y := (⟨"java/lang/StringLatin1", "canEncode", "(I)Z"⟩ : MethodName)) hown (mvT hZ (own_w hw 90 rfl)) (mvT hZ (own_w hw 91 rfl)) (mvT hZ (own_w hw 88 rfl)) (mvT hZ (own_w hw 92 rfl)) (by decide) (backOf (W := 0) (rmCanI l Z a0 hw [] ch h0 n0 Z0 hp0 hp1) hZ (own_w hw 92 rfl) (own_w hw 88 rfl) (by decide) (by decide)) (g := (mkF m 1 #[.val (.ref t2), .val (.int ch), .val (.int (Int32.ofNat q)), .val (.int (Int32.ofNat n))] [(.int ch)])) rfl (by rw [hml]; rfl) (argsL := [(.int ch)]) (rest := []) (lenOf pd_14 rfl) rfl (by show 2 * 0 + _ ≤ _; exact Nat.le_of_eq rfl) (hb hby d16_1) (fun _ _ => ⟨rfl, e0, (by decide : 0 + 0 ≤ _), (by decide : 0 + 0 ≤ _)⟩)
  dsimp only [Pt.U, Pt.locs, Pt.cells, Pt.slots] at X1 l1 y1 z1 st1 hQ1
  have l1y := l1.symm
  clear l1
  subst l1y
  obtain rfl : k1 = 0 := y1
  obtain rfl : n1 = 0 := z1
  obtain ⟨rfl, N1q, e1⟩ := hQ1
  have N1 := Fr.app (Fr.nil n0) N1q
  refine own_to T1 (mkF m 11 #[.val (.ref t2), .val (.int ch), .val (.int (Int32.ofNat q)), .val (.int (Int32.ofNat n))] [(.int (0 : Int32)), (.int (Int32.ofNat q))]) (fun tq kq => st1 _ (XS.ifYes X1.here hx rfl (pc0 := 4) (pc' := 9) rfl (hb hby d16_4) rfl ((if0 _ _).trans (feq (by decide : ¬ ((1 : Int32) = (0 : Int32)))).2) (by decide) (by decide) (XS.iloadN X1.here hx rfl (hb hby d16_9) rfl (XS.iconst X1.here hx rfl (hb hby d16_10) kq)))) ?_
  obtain ⟨_, _, ⟨T2, L2, k2, n2⟩, -, X2, ⟨Lc2, hQ2, l2, y2, z2⟩, st2⟩ := Jvm.LawKit.callS X1 hx (y := (⟨"java/lang/Math", "max", "(II)I"⟩ : MethodName)) hown (mvT hZ (own_w hw 93 rfl)) (mvT hZ (own_w hw 94 rfl)) (mvT hZ (own_w hw 95 rfl)) (mvT hZ (own_w hw 96 rfl)) (by decide) (backOf (W := 0) (rmMax l Z a0 hw [] (Int32.ofNat q) (0 : Int32) h0 n0 Z0 (own_nonneg (by omega))) hZ (own_w hw 96 rfl) (own_w hw 95 rfl) (by decide) (by decide)) (g := (mkF m 11 #[.val (.ref t2), .val (.int ch), .val (.int (Int32.ofNat q)), .val (.int (Int32.ofNat n))] [(.int (0 : Int32)), (.int (Int32.ofNat q))])) rfl (by rw [hml]; rfl) (argsL := [(.int (Int32.ofNat q)), (.int (0 : Int32))]) (rest := []) (lenOf pd_12 rfl) rfl (by show 2 * 0 + _ ≤ _; exact Nat.le_of_eq rfl) (hb hby d16_11) (fun _ _ => ⟨rfl, e1, (by decide : 0 + 0 ≤ _), (by decide : 0 + 0 ≤ _)⟩)
  dsimp only [Pt.U, Pt.locs, Pt.cells, Pt.slots] at X2 l2 y2 z2 st2 hQ2
  have l2y := l2.symm
  clear l2
  subst l2y
  obtain rfl : k2 = 0 := y2
  obtain rfl : n2 = 0 := z2
  obtain ⟨rfl, N2q, e2⟩ := hQ2
  have N2 := Fr.app N1 N2q
  refine own_to T2 (mkF m 18 #[.val (.ref t2), .val (.int ch), .val (.int (Int32.ofNat q)), .val (.int (Int32.ofNat n))] [(.int (c1.slots.size.toInt32)), (.int (Int32.ofNat n))]) (fun tq kq => st2 _ (XS.istoreN X2.here hx rfl (hb hby d16_14) rfl (l' := #[.val (.ref t2), .val (.int ch), .val (.int (Int32.ofNat q)), .val (.int (Int32.ofNat n))]) rfl (XS.iloadN X2.here hx rfl (hb hby d16_15) rfl (XS.aloadN X2.here hx rfl (hb hby d16_16) rfl rfl (X2.arraylength hx (by rw [e2]; exact Ar1.1) (State.isArrayOf_alike hZ.alike Ar1.2.1) (g := (mkF m 17 #[.val (.ref t2), .val (.int ch), .val (.int (Int32.ofNat q)), .val (.int (Int32.ofNat n))] [(.ref t2), (.int (Int32.ofNat n))])) rfl rfl (hb hby d16_17) _ kq))))) ?_
  rw [show c1.slots.size.toInt32 = Int32.ofNat n from by rw [hsz1] <;> rfl]
  obtain ⟨_, _, ⟨T3, L3, k3, n3⟩, -, X3, ⟨Lc3, hQ3, l3, y3, z3⟩, st3⟩ := Jvm.LawKit.callS X2 hx (y := (⟨"java/lang/Math", "min", "(II)I"⟩ : MethodName)) hown (mvT hZ (own_w hw 97 rfl)) (mvT hZ (own_w hw 98 rfl)) (mvT hZ (own_w hw 95 rfl)) (mvT hZ (own_w hw 99 rfl)) (by decide) (backOf (W := 0) (rmMin l Z a0 hw [] (Int32.ofNat n) (Int32.ofNat n) h0 n0 Z0 (mt (own_ltn (by omega) (by omega)).mp (by omega))) hZ (own_w hw 99 rfl) (own_w hw 95 rfl) (by decide) (by decide)) (g := (mkF m 18 #[.val (.ref t2), .val (.int ch), .val (.int (Int32.ofNat q)), .val (.int (Int32.ofNat n))] [(.int (Int32.ofNat n)), (.int (Int32.ofNat n))])) rfl (by rw [hml]; rfl) (argsL := [(.int (Int32.ofNat n)), (.int (Int32.ofNat n))]) (rest := []) (lenOf pd_12 rfl) rfl (by show 2 * 0 + _ ≤ _; exact Nat.le_of_eq rfl) (hb hby d16_18) (fun _ _ => ⟨rfl, e2, (by decide : 0 + 0 ≤ _), (by decide : 0 + 0 ≤ _)⟩)
  dsimp only [Pt.U, Pt.locs, Pt.cells, Pt.slots] at X3 l3 y3 z3 st3 hQ3
  have l3y := l3.symm
  clear l3
  subst l3y
  obtain rfl : k3 = 0 := y3
  obtain rfl : n3 = 0 := z3
  obtain ⟨rfl, N3q, e3⟩ := hQ3
  have N3 := Fr.app N2 N3q
  refine own_to T3 (mkF m 33 #[.val (.ref t2), .val (.int ch), .val (.int (Int32.ofNat q)), .val (.int (Int32.ofNat n))] [(.int (Int32.ofNat n)), (.int (Int32.ofNat q)), (.int ch), (.ref t2)]) (fun tq kq => st3 _ (XS.istoreN X3.here hx rfl (hb hby d16_21) rfl (l' := #[.val (.ref t2), .val (.int ch), .val (.int (Int32.ofNat q)), .val (.int (Int32.ofNat n))]) rfl (XS.iloadN X3.here hx rfl (hb hby d16_22) rfl (XS.iloadN X3.here hx rfl (hb hby d16_23) rfl (XS.icmpYes X3.here hx rfl (pc0 := 24) (pc' := 29) rfl (hb hby d16_24) rfl (tlt ((own_ltn (by omega) (by omega)).mpr (by omega))).1 (by decide) (by decide) (XS.aloadN X3.here hx rfl (hb hby d16_29) rfl rfl (XS.iloadN X3.here hx rfl (hb hby d16_30) rfl (XS.iloadN X3.here hx rfl (hb hby d16_31) rfl (XS.iloadN X3.here hx rfl (hb hby d16_32) rfl kq))))))))) ?_
  obtain ⟨_, _, ⟨T4, L4, k4, n4⟩, -, X4, ⟨Lc4, hQ4, l4, y4, z4⟩, st4⟩ := Jvm.LawKit.callS X3 hx (y := (⟨"java/lang/StringLatin1", "indexOfChar", "([BIII)I"⟩ : MethodName)) hown (mvT hZ (own_w hw 100 rfl)) (mvT hZ (own_w hw 101 rfl)) (mvT hZ (own_w hw 88 rfl)) (mvT hZ (own_w hw 102 rfl)) (by decide) (backOf (W := 0) (rmIxC l Z a0 hw [] t2 q j n f ch h0 n0 Z0 Aa2 hj hjn hn' hfj hff) hZ (own_w hw 102 rfl) (own_w hw 88 rfl) (by decide) (by decide)) (g := (mkF m 33 #[.val (.ref t2), .val (.int ch), .val (.int (Int32.ofNat q)), .val (.int (Int32.ofNat n))] [(.int (Int32.ofNat n)), (.int (Int32.ofNat q)), (.int ch), (.ref t2)])) rfl (by rw [hml]; rfl) (argsL := [(.ref t2), (.int ch), (.int (Int32.ofNat q)), (.int (Int32.ofNat n))]) (rest := []) (lenOf pd_13 rfl) rfl (by show 2 * 0 + _ ≤ _; exact Nat.le_of_eq rfl) (hb hby d16_33) (fun _ _ => ⟨rfl, e3, (by decide : 0 + 0 ≤ _), (by decide : 0 + 0 ≤ _)⟩)
  dsimp only [Pt.U, Pt.locs, Pt.cells, Pt.slots] at X4 l4 y4 z4 st4 hQ4
  have l4y := l4.symm
  clear l4
  subst l4y
  obtain rfl : k4 = 0 := y4
  obtain rfl : n4 = 0 := z4
  obtain ⟨rfl, N4q, e4⟩ := hQ4
  have N4 := Fr.app N3 N4q
  refine own_to T4 (mkF m 36 #[.val (.ref t2), .val (.int ch), .val (.int (Int32.ofNat q)), .val (.int (Int32.ofNat n))] [(.int (Int32.ofNat j))]) (fun tq kq => st4 _ kq) ?_
  exact own_retI X4 hx hret hlk (hb hby d16_36) (by decide) (by decide) ⟨rfl, N4, e4⟩
theorem d14_0 : decode jdk_42_method_80_code 0 = .ok (.aload_n 0, 1) := by decide +kernel
theorem d14_1 : decode jdk_42_method_80_code 1 = .ok (.invokevirtual 492, 3) := by decide +kernel
theorem d14_4 : decode jdk_42_method_80_code 4 = .ok (.ifCond .eq 19, 3) := by decide +kernel
theorem d14_7 : decode jdk_42_method_80_code 7 = .ok (.aload_n 0, 1) := by decide +kernel
theorem d14_8 : decode jdk_42_method_80_code 8 = .ok (.getfield 9, 3) := by decide +kernel
theorem d14_11 : decode jdk_42_method_80_code 11 = .ok (.iload_n 1, 1) := by decide +kernel
theorem d14_12 : decode jdk_42_method_80_code 12 = .ok (.iload_n 2, 1) := by decide +kernel
theorem d14_13 : decode jdk_42_method_80_code 13 = .ok (.aload_n 0, 1) := by decide +kernel
theorem d14_14 : decode jdk_42_method_80_code 14 = .ok (.invokevirtual 505, 3) := by decide +kernel
theorem d14_17 : decode jdk_42_method_80_code 17 = .ok (.invokestatic 637, 3) := by decide +kernel
theorem d14_20 : decode jdk_42_method_80_code 20 = .ok (.goto 16, 3) := by decide +kernel
theorem d14_23 : decode jdk_42_method_80_code 23 = .ok (.aload_n 0, 1) := by decide +kernel
theorem d14_24 : decode jdk_42_method_80_code 24 = .ok (.getfield 9, 3) := by decide +kernel
theorem d14_27 : decode jdk_42_method_80_code 27 = .ok (.iload_n 1, 1) := by decide +kernel
theorem d14_28 : decode jdk_42_method_80_code 28 = .ok (.iload_n 2, 1) := by decide +kernel
theorem d14_29 : decode jdk_42_method_80_code 29 = .ok (.aload_n 0, 1) := by decide +kernel
theorem d14_30 : decode jdk_42_method_80_code 30 = .ok (.invokevirtual 505, 3) := by decide +kernel
theorem d14_33 : decode jdk_42_method_80_code 33 = .ok (.invokestatic 640, 3) := by decide +kernel
theorem d14_36 : decode jdk_42_method_80_code 36 = .ok (.ireturn, 1) := by decide +kernel
theorem ef_14_RII (m : MethodId) (x0 : Addr) (x1 : Int32) (x2 : Int32) : entryFrame m #[(.ref x0), (.int x1), (.int x2)] 3 = mkF m 0 #[.val (.ref x0), .val (.int x1), .val (.int x2)] [] := by first | (simp [entryFrame, mkF, argsToLocals, Value.category]; done) | rfl
def Q_rmIx (Z : State) (a2 t2 : Addr) (G1 : Int32) (q j n : Nat) (f : Nat → Int32) (ch : Int32) (h0 : Heap) (n0 : Nat) (v : Option Value) (h : Heap) (L : List Loc) : Prop := v = some (.int (Int32.ofNat j)) ∧ Fr n0 L ∧ h = h0
set_option maxRecDepth 65536 in
set_option maxHeartbeats 40000000 in
theorem rmIx (l : Launch) (Z : State) (a0 : Array Value) (hw : ∀ d ∈ tables_1, d.before a0 Z = true) (ws : List Jvm.Cond) (a2 t2 : Addr) (G1 : Int32) (q j n : Nat) (f : Nat → Int32) (ch : Int32) (h0 : Heap) (n0 : Nat) (Z0 : n0 ≤ h0.size) (O2 : Sta Z h0 "java/lang/String" "COMPACT_STRINGS" "Z" (.int G1)) (hG : ¬ G1 = (0 : Int32)) (Ea2 : Exa Z h0 a2 "java/lang/String") (Fa2 : Fld Z h0 a2 "java/lang/String" "value" "[B" (.ref t2)) (Ca2 : Fld Z h0 a2 "java/lang/String" "coder" "B" (.int (0 : Int32))) (Aa2 : BArr Z h0 t2 n f) (hp0 : ¬ ch < (0 : Int32)) (hp1 : ¬ (255 : Int32) < ch) (hj : q ≤ j) (hjn : j < n) (hn' : n < 100) (hfj : f j = (ch.toInt8.toInt32)) (hff : ∀ i, q ≤ i → i < j → ¬ f i = (ch.toInt8.toInt32)) :
    MetFree l (⟨"java/lang/String", "indexOf", "(II)I"⟩ : MethodName) (head1 (Jvm.Cond.code (⟨"java/lang/String", "indexOf", "(II)I"⟩ : MethodName) jdk_42_method_80_code 3 (some .int) :: ws) ({ frames := 2, cells := 0, slots := 0, locals := 60 } : Room)) (fun a U => a = #[(.ref a2), (.int ch), (.int (Int32.ofNat q))] ∧ Z.Warmed39 U.vm ∧ U.heap = h0) (fun _ _ _ _ _ => True) (fun _ U o U' => ∃ v L, o = .returned v ∧ Q_rmIx Z a2 t2 G1 q j n f ch h0 n0 v U'.heap L ∧ FrameEnd U o U' L ({ frames := 2, cells := 0, slots := 0, locals := 60 } : Room).cells ({ frames := 2, cells := 0, slots := 0, locals := 60 } : Room).slots) := by
  refine own_met (y := (⟨"java/lang/String", "indexOf", "(II)I"⟩ : MethodName)) (Q := (Q_rmIx Z a2 t2 G1 q j n f ch h0 n0)) (plainFor_of_name pn_8) fun p e s m below meth c s₁ X0 hx hby hml hret hlk hown hnm hZ e0 => ?_
  refine own_entry (ef_14_RII m a2 ch (Int32.ofNat q)) ?_
  refine own_to s₁ (mkF m 1 #[.val (.ref a2), .val (.int ch), .val (.int (Int32.ofNat q))] [(.ref a2)]) (fun tq kq => XS.aloadN X0.here hx rfl (hb hby d14_0) rfl rfl kq) ?_
  obtain ⟨cq1, kq1, q1a, q1b, q1c⟩ := isOf hZ e0 Ea2
  obtain ⟨_, _, ⟨T1, L1, k1, n1⟩, -, X1, ⟨Lc1, hQ1, l1, y1, z1⟩, st1⟩ := X0.virtualBack hx (y := (⟨"java/lang/String", "isLatin1", "()Z"⟩ : MethodName)) (z := (⟨"java/lang/String", "isLatin1", "()Z"⟩ : MethodName)) hown (mvT hZ (own_w hw 80 rfl)) (mvT hZ (own_w hw 81 rfl)) (notFace_of_selects (args := #[]) (mvT hZ (own_w hw 83 rfl))) (mvT hZ (own_w hw 83 rfl)) (mvT hZ (own_w hw 82 rfl)) (by decide) (backOf (W := 0) (rmLat l Z a0 hw [] a2 G1 h0 n0 Z0 O2 hG Ca2) hZ (own_w hw 84 rfl) (own_w hw 7 rfl) (by decide) (by decide)) q1a q1c (g := (mkF m 1 #[.val (.ref a2), .val (.int ch), .val (.int (Int32.ofNat q))] [(.ref a2)])) rfl (by rw [hml]; rfl) (Steps.refl _) (argsL := []) (rest := []) (lenOf pd_5 rfl) rfl (by show 2 * 0 + _ ≤ _; exact Nat.le_of_eq rfl) (hb hby d14_1) (fun _ _ => ⟨rfl, e0, (by decide : 0 + 0 ≤ _), (by decide : 0 + 0 ≤ _)⟩)
  dsimp only [Pt.U, Pt.locs, Pt.cells, Pt.slots] at X1 l1 y1 z1 st1 hQ1
  have l1y := l1.symm
  clear l1
  subst l1y
  obtain rfl : k1 = 0 := y1
  obtain rfl : n1 = 0 := z1
  obtain ⟨rfl, N1q, e1⟩ := hQ1
  have N1 := Fr.app (Fr.nil n0) N1q
  refine own_to T1 (mkF m 8 #[.val (.ref a2), .val (.int ch), .val (.int (Int32.ofNat q))] [(.ref a2)]) (fun tq kq => st1.trans (XS.ifNo X1.here hx rfl (hb hby d14_4) rfl ((if0 _ _).trans (feq (by decide : ¬ ((1 : Int32) = (0 : Int32)))).1) (XS.aloadN X1.here hx rfl (hb hby d14_7) rfl rfl kq))) ?_
  obtain ⟨T2, X2, e2, st2⟩ := getF X1 hx hZ hown (host := "") (Or.inl (own_w hw 24 rfl)) Via.refl e1 Fa2 (g := (mkF m 8 #[.val (.ref a2), .val (.int ch), .val (.int (Int32.ofNat q))] [(.ref a2)])) rfl rfl (hb hby d14_8)
  refine own_to T2 (mkF m 14 #[.val (.ref a2), .val (.int ch), .val (.int (Int32.ofNat q))] [(.ref a2), (.int (Int32.ofNat q)), (.int ch), (.ref t2)]) (fun tq kq => st2 _ (XS.iloadN X2.here hx rfl (hb hby d14_11) rfl (XS.iloadN X2.here hx rfl (hb hby d14_12) rfl (XS.aloadN X2.here hx rfl (hb hby d14_13) rfl rfl kq)))) ?_
  obtain ⟨cq3, kq3, q3a, q3b, q3c⟩ := isOf hZ e2 Ea2
  obtain ⟨_, _, ⟨T3, L3, k3, n3⟩, -, X3, ⟨Lc3, hQ3, l3, y3, z3⟩, st3⟩ := X2.virtualBack hx (y := (⟨"java/lang/String", "length", "()I"⟩ : MethodName)) (z := (⟨"java/lang/String", "length", "()I"⟩ : MethodName)) hown (mvT hZ (own_w hw 85 rfl)) (mvT hZ (own_w hw 43 rfl)) (notFace_of_selects (args := #[]) (mvT hZ (own_w hw 45 rfl))) (mvT hZ (own_w hw 45 rfl)) (mvT hZ (own_w hw 44 rfl)) (by decide) (backOf (W := 3) (rmLen l Z a0 hw [] a2 t2 n f G1 h0 n0 Z0 O2 hG Ea2 Fa2 Ca2 Aa2) hZ (own_w hw 46 rfl) (own_w hw 7 rfl) (by decide) (by decide)) q3a q3c (g := (mkF m 14 #[.val (.ref a2), .val (.int ch), .val (.int (Int32.ofNat q))] [(.ref a2), (.int (Int32.ofNat q)), (.int ch), (.ref t2)])) rfl (by rw [hml]; rfl) (Steps.refl _) (argsL := []) (rest := [(.int (Int32.ofNat q)), (.int ch), (.ref t2)]) (lenOf pd_6 rfl) rfl (by show 2 * 0 + _ ≤ _; exact Nat.le_of_eq rfl) (hb hby d14_14) (fun _ _ => ⟨rfl, e2, (by decide : 0 + 0 ≤ _), (by decide : 0 + 0 ≤ _)⟩)
  dsimp only [Pt.U, Pt.locs, Pt.cells, Pt.slots] at X3 l3 y3 z3 st3 hQ3
  have l3y := l3.symm
  clear l3
  subst l3y
  obtain rfl : k3 = 0 := y3
  obtain rfl : n3 = 0 := z3
  obtain ⟨rfl, N3q, e3⟩ := hQ3
  have N3 := Fr.app N1 N3q
  refine own_to T3 (mkF m 17 #[.val (.ref a2), .val (.int ch), .val (.int (Int32.ofNat q))] [(.int (Int32.ofNat n)), (.int (Int32.ofNat q)), (.int ch), (.ref t2)]) (fun tq kq => st3.trans kq) ?_
  obtain ⟨_, _, ⟨T4, L4, k4, n4⟩, -, X4, ⟨Lc4, hQ4, l4, y4, z4⟩, st4⟩ := Jvm.LawKit.callS X3 hx (y := (⟨"java/lang/StringLatin1", "indexOf", "([BIII)I"⟩ : MethodName)) hown (mvT hZ (own_w hw 86 rfl)) (mvT hZ (own_w hw 87 rfl)) (mvT hZ (own_w hw 88 rfl)) (mvT hZ (own_w hw 89 rfl)) (by decide) (backOf (W := 0) (rmIxL l Z a0 hw [] t2 q j n f ch h0 n0 Z0 Aa2 hp0 hp1 hj hjn hn' hfj hff) hZ (own_w hw 89 rfl) (own_w hw 88 rfl) (by decide) (by decide)) (g := (mkF m 17 #[.val (.ref a2), .val (.int ch), .val (.int (Int32.ofNat q))] [(.int (Int32.ofNat n)), (.int (Int32.ofNat q)), (.int ch), (.ref t2)])) rfl (by rw [hml]; rfl) (argsL := [(.ref t2), (.int ch), (.int (Int32.ofNat q)), (.int (Int32.ofNat n))]) (rest := []) (lenOf pd_13 rfl) rfl (by show 2 * 0 + _ ≤ _; exact Nat.le_of_eq rfl) (hb hby d14_17) (fun _ _ => ⟨rfl, e3, (by decide : 0 + 0 ≤ _), (by decide : 0 + 0 ≤ _)⟩)
  dsimp only [Pt.U, Pt.locs, Pt.cells, Pt.slots] at X4 l4 y4 z4 st4 hQ4
  have l4y := l4.symm
  clear l4
  subst l4y
  obtain rfl : k4 = 0 := y4
  obtain rfl : n4 = 0 := z4
  obtain ⟨rfl, N4q, e4⟩ := hQ4
  have N4 := Fr.app N3 N4q
  refine own_to T4 (mkF m 36 #[.val (.ref a2), .val (.int ch), .val (.int (Int32.ofNat q))] [(.int (Int32.ofNat j))]) (fun tq kq => st4 _ (XS.goto X4.here hx rfl (pc0 := 20) (pc' := 36) rfl (hb hby d14_20) (by decide) (by decide) kq)) ?_
  exact own_retI X4 hx hret hlk (hb hby d14_36) (by decide) (by decide) ⟨rfl, N4, e4⟩
section OwnCopy
variable {p : Program} {l : Launch} {e : Env} {R : Room} {s : State} {m : MethodId} {args : Array Value} {below : List Frame} {meth : Method} {c : Code} {T : State} {locs : List Loc} {cells slots : Nat} {Z : State} {h : Heap}
/-- System.arraycopy between two byte arrays: what is said is that nothing but dst changes -/
theorem own_copy (X : Stand p l e R s m args below meth c T locs cells slots) (hx : p.tables.exec = Jvm.exec) (hZ : Z.Warmed39 s.vm) {a0 : Array Value} {own : String} {index : Nat} (hown : s.vm.findClass own = some m.cls)
    (w1 : (Cond.methodLink own index arraycopyName).before a0 Z = true) (w2 : (Cond.native arraycopyName).before a0 Z = true) (w3 : (Cond.static arraycopyName).before a0 Z = true) (w4 : (Cond.initialized "java/lang/System").before a0 Z = true)
    (eT : T.heap = h) {src dst : Addr} {cs cd : Cell} (As : Arr Z h src cs .byte) (Ad : Arr Z h dst cd .byte) {i k n0 : Nat} (gd : n0 ≤ dst) (N : Fr n0 locs) (hi : i + k ≤ cs.slots.size) (hk : k ≤ cd.slots.size) (hb : cs.slots.size < 1000) (hv : ∀ j, j < cs.slots.size → ∃ x : Int32, cs.slots[j]? = some (.int x) ∧ fits .byte (.int x) = true)
    {g : JFrame} (hg : g.method = m) (hsize : g.locals.size = c.maxLocals) {rest : List Value} (hst : g.stack = .int (Int32.ofNat k) :: .int (0 : Int32) :: .ref dst :: .int (Int32.ofNat i) :: .ref src :: rest) (hd : decode c.code g.pc = .ok (.invokestatic index, 3))
    (hf : 1 ≤ R.frames) (hl : 2 * g.monitorRoom + (rest.map fun v => v.category).sum + (nativeFrameWords "java/lang/System" "arraycopy" 5 + 11) ≤ R.locals) :
    ∃ (T' : State) (h' : Heap) (L' : List Loc), Stand p l e R s m args below meth c T' L' cells slots ∧ T'.heap = h' ∧ Keep h h' [dst] ∧ Fr n0 L' ∧
      ∀ target, Steps p.tables e below (T'.setTop { g with pc := g.pc + 3, stack := rest }) target → Steps p.tables e below (T.setTop g) target := by
  subst eT
  obtain ⟨s1, ⟨s2, ks, s3, sc, s4⟩, s5⟩ := As
  obtain ⟨d1, ⟨d2, kd, d3, dc, d4⟩, d5⟩ := Ad
  obtain ⟨ks', s6, s7⟩ := hZ.alike.2.2 _ _ s3
  obtain ⟨kd', d6, d7⟩ := hZ.alike.2.2 _ _ d3
  have ei : (Int32.ofNat i).toInt = i := toInt_of rfl (by omega)
  have ek : (Int32.ofNat k).toInt = k := toInt_of rfl (by omega)
  have ci : (Int32.ofNat i).toNatClampNeg = i := clamp_of rfl (by omega)
  have ck : (Int32.ofNat k).toNatClampNeg = k := clamp_of rfl (by omega)
  have z0 : (0 : Int32).toInt = 0 := by decide
  obtain ⟨vm', X', st⟩ := X.arraycopy hx hown (mvT hZ w1) (mvT hZ w2) (mvT hZ w3) (mvT hZ w4) (src := src) (dst := dst) (srcPos := Int32.ofNat i) (destPos := 0) (n := Int32.ofNat k) (cs := cs) (cd := cd) (ks := ks') (kd := kd') (sComp := sc) (dComp := dc) (sType := .byte) (dType := .byte)
    s1 d1 s2 d2 s5 d5 s6 d6 (by rw [s7]; exact s4) (by rw [d7]; exact d4) (by decide)
    (fun q => by rw [Int32.lt_iff_toInt_lt] at q; omega) (by decide) (fun q => by rw [Int32.lt_iff_toInt_lt] at q; omega) (by omega) (by omega)
    (fun vm' _ j hj => by
      rw [ck] at hj
      obtain ⟨x, q1, q2⟩ := hv (i + j) (by omega)
      rw [ci, Array.getD_eq_getD_getElem?, q1]
      exact ⟨q2, trivial⟩) hg hsize hst hd hf hl
  obtain ⟨f1, f2, f3, -, -⟩ := Cell.storePairs_facts cd (0 : Int32).toNatClampNeg (cs.stretch (Int32.ofNat i).toNatClampNeg (Int32.ofNat k).toNatClampNeg).zipIdx
  refine ⟨_, _, _, X', rfl, ?_, ?_, st⟩
  · have hlt := (Array.getElem?_eq_some_iff.mp d1).1
    refine ⟨?_, fun y cy hy hn => ?_, fun y cy hy => ?_⟩
    · show T.heap.size ≤ (T.heap.setIfInBounds dst _).size
      simp
    · show (T.heap.setIfInBounds dst _)[y]? = some cy
      have q : ¬ dst = y := fun z => hn (by rw [z]; exact List.mem_singleton.mpr rfl)
      rw [Array.getElem?_setIfInBounds, if_neg q]; exact hy
    · show ∃ c', (T.heap.setIfInBounds dst _)[y]? = some c' ∧ _
      by_cases q : dst = y
      · subst q
        cases d1.symm.trans hy
        exact ⟨_, by rw [Array.getElem?_setIfInBounds, if_pos rfl, if_pos hlt]; rfl, f1, f2, f3⟩
      · exact ⟨cy, by rw [Array.getElem?_setIfInBounds, if_neg q]; exact hy, rfl, rfl, rfl⟩
  · refine N.app fun y hy => ?_
    obtain ⟨q, -, rfl⟩ := List.mem_map.mp hy
    exact gd
end OwnCopy
theorem d27_0 : decode jdk_65_method_131_code 0 = .ok (.iload_n 1, 1) := by decide +kernel
theorem d27_1 : decode jdk_65_method_131_code 1 = .ok (.iload_n 0, 1) := by decide +kernel
theorem d27_2 : decode jdk_65_method_131_code 2 = .ok (.if_icmp .ge 35, 3) := by decide +kernel
theorem d27_5 : decode jdk_65_method_131_code 5 = .ok (.new 43, 3) := by decide +kernel
theorem d27_8 : decode jdk_65_method_131_code 8 = .ok (.dup, 1) := by decide +kernel
theorem d27_9 : decode jdk_65_method_131_code 9 = .ok (.new 45, 3) := by decide +kernel
theorem d27_12 : decode jdk_65_method_131_code 12 = .ok (.dup, 1) := by decide +kernel
theorem d27_13 : decode jdk_65_method_131_code 13 = .ok (.invokespecial 47, 3) := by decide +kernel
theorem d27_16 : decode jdk_65_method_131_code 16 = .ok (.iload_n 0, 1) := by decide +kernel
theorem d27_17 : decode jdk_65_method_131_code 17 = .ok (.invokevirtual 54, 3) := by decide +kernel
theorem d27_20 : decode jdk_65_method_131_code 20 = .ok (.ldc_w 337, 3) := by decide +kernel
theorem d27_23 : decode jdk_65_method_131_code 23 = .ok (.invokevirtual 50, 3) := by decide +kernel
theorem d27_26 : decode jdk_65_method_131_code 26 = .ok (.iload_n 1, 1) := by decide +kernel
theorem d27_27 : decode jdk_65_method_131_code 27 = .ok (.invokevirtual 54, 3) := by decide +kernel
theorem d27_30 : decode jdk_65_method_131_code 30 = .ok (.invokevirtual 61, 3) := by decide +kernel
theorem d27_33 : decode jdk_65_method_131_code 33 = .ok (.invokespecial 65, 3) := by decide +kernel
theorem d27_37 : decode jdk_65_method_131_code 37 = .ok (.return_, 1) := by decide +kernel
theorem pn_27 : plainName "java/util/Arrays" = true := by first | (simp [plainName, overriddenIn]; done) | decide +kernel
theorem ef_27_II (m : MethodId) (x0 : Int32) (x1 : Int32) : entryFrame m #[(.int x0), (.int x1)] 2 = mkF m 0 #[.val (.int x0), .val (.int x1)] [] := by first | (simp [entryFrame, mkF, argsToLocals, Value.category]; done) | rfl
def Q_rmChk (Z : State) (x0 x1 : Int32) (h0 : Heap) (n0 : Nat) (v : Option Value) (h : Heap) (L : List Loc) : Prop := v = none ∧ Fr n0 L ∧ h = h0
set_option maxRecDepth 65536 in
set_option maxHeartbeats 40000000 in
theorem rmChk (l : Launch) (Z : State) (a0 : Array Value) (hw : ∀ d ∈ tables_1, d.before a0 Z = true) (ws : List Jvm.Cond) (x0 x1 : Int32) (h0 : Heap) (n0 : Nat) (Z0 : n0 ≤ h0.size) (hp0 : ¬ x1 < x0) :
    MetFree l (⟨"java/util/Arrays", "checkLength", "(II)V"⟩ : MethodName) (head1 (Jvm.Cond.code (⟨"java/util/Arrays", "checkLength", "(II)V"⟩ : MethodName) jdk_65_method_131_code 2 none :: ws) ({ frames := 0, cells := 0, slots := 0, locals := 0 } : Room)) (fun a U => a = #[(.int x0), (.int x1)] ∧ Z.Warmed39 U.vm ∧ U.heap = h0) (fun _ _ _ _ _ => True) (fun _ U o U' => ∃ v L, o = .returned v ∧ Q_rmChk Z x0 x1 h0 n0 v U'.heap L ∧ FrameEnd U o U' L ({ frames := 0, cells := 0, slots := 0, locals := 0 } : Room).cells ({ frames := 0, cells := 0, slots := 0, locals := 0 } : Room).slots) := by
  refine own_met (y := (⟨"java/util/Arrays", "checkLength", "(II)V"⟩ : MethodName)) (Q := (Q_rmChk Z x0 x1 h0 n0)) (plainFor_of_name pn_27) fun p e s m below meth c s₁ X0 hx hby hml hret hlk hown hnm hZ e0 => ?_
  refine own_entry (ef_27_II m x0 x1) ?_
  refine own_to s₁ (mkF m 37 #[.val (.int x0), .val (.int x1)] []) (fun tq kq => XS.iloadN X0.here hx rfl (hb hby d27_0) rfl (XS.iloadN X0.here hx rfl (hb hby d27_1) rfl (XS.icmpYes X0.here hx rfl (pc0 := 2) (pc' := 37) rfl (hb hby d27_2) rfl (flt hp0).2.1 (by decide) (by decide) kq))) ?_
  exact own_retV X0 hx hret hlk (hb hby d27_37) (by decide) (by decide) ⟨rfl, (Fr.nil n0), e0⟩
def Q_rmMin2 (Z : State) (x0 x1 : Int32) (h0 : Heap) (n0 : Nat) (v : Option Value) (h : Heap) (L : List Loc) : Prop := v = some (.int x1) ∧ Fr n0 L ∧ h = h0
set_option maxRecDepth 65536 in
set_option maxHeartbeats 40000000 in
theorem rmMin2 (l : Launch) (Z : State) (a0 : Array Value) (hw : ∀ d ∈ tables_1, d.before a0 Z = true) (ws : List Jvm.Cond) (x0 x1 : Int32) (h0 : Heap) (n0 : Nat) (Z0 : n0 ≤ h0.size) (hp0 : x1 < x0) :
    MetFree l (⟨"java/lang/Math", "min", "(II)I"⟩ : MethodName) (head1 (Jvm.Cond.code (⟨"java/lang/Math", "min", "(II)I"⟩ : MethodName) jdk_29_method_69_code 2 (some .int) :: ws) ({ frames := 0, cells := 0, slots := 0, locals := 0 } : Room)) (fun a U => a = #[(.int x0), (.int x1)] ∧ Z.Warmed39 U.vm ∧ U.heap = h0) (fun _ _ _ _ _ => True) (fun _ U o U' => ∃ v L, o = .returned v ∧ Q_rmMin2 Z x0 x1 h0 n0 v U'.heap L ∧ FrameEnd U o U' L ({ frames := 0, cells := 0, slots := 0, locals := 0 } : Room).cells ({ frames := 0, cells := 0, slots := 0, locals := 0 } : Room).slots) := by
  refine own_met (y := (⟨"java/lang/Math", "min", "(II)I"⟩ : MethodName)) (Q := (Q_rmMin2 Z x0 x1 h0 n0)) (Jvm.Free.JP.mathPlain rfl (by decide +kernel)) fun p e s m below meth c s₁ X0 hx hby hml hret hlk hown hnm hZ e0 => ?_
  refine own_entry (ef_19_II m x0 x1) ?_
  refine own_to s₁ (mkF m 10 #[.val (.int x0), .val (.int x1)] [(.int x1)]) (fun tq kq => XS.iloadN X0.here hx rfl (hb hby d19_0) rfl (XS.iloadN X0.here hx rfl (hb hby d19_1) rfl (XS.icmpYes X0.here hx rfl (pc0 := 2) (pc' := 9) rfl (hb hby d19_2) rfl (tlt hp0).2.2.1 (by decide) (by decide) (XS.iloadN X0.here hx rfl (hb hby d19_9) rfl kq)))) ?_
  exact own_retI X0 hx hret hlk (hb hby d19_10) (by decide) (by decide) ⟨rfl, (Fr.nil n0), e0⟩
theorem d26_0 : decode jdk_65_method_133_code 0 = .ok (.iload_n 1, 1) := by decide +kernel
theorem d26_1 : decode jdk_65_method_133_code 1 = .ok (.iload_n 2, 1) := by decide +kernel
theorem d26_2 : decode jdk_65_method_133_code 2 = .ok (.invokestatic 343, 3) := by decide +kernel
theorem d26_5 : decode jdk_65_method_133_code 5 = .ok (.iload_n 2, 1) := by decide +kernel
theorem d26_6 : decode jdk_65_method_133_code 6 = .ok (.iload_n 1, 1) := by decide +kernel
theorem d26_7 : decode jdk_65_method_133_code 7 = .ok (.isub, 1) := by decide +kernel
theorem d26_8 : decode jdk_65_method_133_code 8 = .ok (.istore_n 3, 1) := by decide +kernel
theorem d26_9 : decode jdk_65_method_133_code 9 = .ok (.iload_n 3, 1) := by decide +kernel
theorem d26_10 : decode jdk_65_method_133_code 10 = .ok (.newarray .byte, 2) := by decide +kernel
theorem d26_12 : decode jdk_65_method_133_code 12 = .ok (.astore 4, 2) := by decide +kernel
theorem d26_14 : decode jdk_65_method_133_code 14 = .ok (.aload_n 0, 1) := by decide +kernel
theorem d26_15 : decode jdk_65_method_133_code 15 = .ok (.iload_n 1, 1) := by decide +kernel
theorem d26_16 : decode jdk_65_method_133_code 16 = .ok (.aload 4, 2) := by decide +kernel
theorem d26_18 : decode jdk_65_method_133_code 18 = .ok (.iconst 0, 1) := by decide +kernel
theorem d26_19 : decode jdk_65_method_133_code 19 = .ok (.aload_n 0, 1) := by decide +kernel
theorem d26_20 : decode jdk_65_method_133_code 20 = .ok (.arraylength, 1) := by decide +kernel
theorem d26_21 : decode jdk_65_method_133_code 21 = .ok (.iload_n 1, 1) := by decide +kernel
theorem d26_22 : decode jdk_65_method_133_code 22 = .ok (.isub, 1) := by decide +kernel
theorem d26_23 : decode jdk_65_method_133_code 23 = .ok (.iload_n 3, 1) := by decide +kernel
theorem d26_24 : decode jdk_65_method_133_code 24 = .ok (.invokestatic 304, 3) := by decide +kernel
theorem d26_27 : decode jdk_65_method_133_code 27 = .ok (.invokestatic 150, 3) := by decide +kernel
theorem d26_30 : decode jdk_65_method_133_code 30 = .ok (.aload 4, 2) := by decide +kernel
theorem d26_32 : decode jdk_65_method_133_code 32 = .ok (.areturn, 1) := by decide +kernel
theorem ef_26_RII (m : MethodId) (x0 : Addr) (x1 : Int32) (x2 : Int32) : entryFrame m #[(.ref x0), (.int x1), (.int x2)] 5 = mkF m 0 #[.val (.ref x0), .val (.int x1), .val (.int x2), .unset, .unset] [] := by first | (simp [entryFrame, mkF, argsToLocals, Value.category]; done) | rfl
def Q_rmCRB (Z : State) (t2 : Addr) (q j n : Nat) (f : Nat → Int32) (h0 : Heap) (n0 : Nat) (v : Option Value) (h : Heap) (L : List Loc) : Prop := ∃ b, v = some (.ref b) ∧ Fr n0 L ∧ Keep h0 h [] ∧ h0.size ≤ b
set_option maxRecDepth 65536 in
set_option maxHeartbeats 40000000 in
theorem rmCRB (l : Launch) (Z : State) (a0 : Array Value) (hw : ∀ d ∈ tables_1, d.before a0 Z = true) (ws : List Jvm.Cond) (t2 : Addr) (q j n : Nat) (f : Nat → Int32) (h0 : Heap) (n0 : Nat) (Z0 : n0 ≤ h0.size) (Aa2 : BArr Z h0 t2 n f) (hfb : ∀ i, i < n → fits .byte (.int (f i)) = true) (hj : q ≤ j) (hjn : j < n) (hn' : n ≤ 3) :
    MetFree l (⟨"java/util/Arrays", "copyOfRangeByte", "([BII)[B"⟩ : MethodName) (head1 (Jvm.Cond.code (⟨"java/util/Arrays", "copyOfRangeByte", "([BII)[B"⟩ : MethodName) jdk_65_method_133_code 5 (some (.array .byte)) :: ws) ({ frames := 1, cells := 1, slots := 3, locals := 60 } : Room)) (fun a U => a = #[(.ref t2), (.int (Int32.ofNat q)), (.int (Int32.ofNat j))] ∧ Z.Warmed39 U.vm ∧ U.heap = h0) (fun _ _ _ _ _ => True) (fun _ U o U' => ∃ v L, o = .returned v ∧ Q_rmCRB Z t2 q j n f h0 n0 v U'.heap L ∧ FrameEnd U o U' L ({ frames := 1, cells := 1, slots := 3, locals := 60 } : Room).cells ({ frames := 1, cells := 1, slots := 3, locals := 60 } : Room).slots) := by
  refine own_met (y := (⟨"java/util/Arrays", "copyOfRangeByte", "([BII)[B"⟩ : MethodName)) (Q := (Q_rmCRB Z t2 q j n f h0 n0)) (plainFor_of_name pn_27) fun p e s m below meth c s₁ X0 hx hby hml hret hlk hown hnm hZ e0 => ?_
  refine own_entry (ef_26_RII m t2 (Int32.ofNat q) (Int32.ofNat j)) ?_
  have K0 := Keep.refl h0 []
  refine own_to s₁ (mkF m 2 #[.val (.ref t2), .val (.int (Int32.ofNat q)), .val (.int (Int32.ofNat j)), .unset, .unset] [(.int (Int32.ofNat j)), (.int (Int32.ofNat q))]) (fun tq kq => XS.iloadN X0.here hx rfl (hb hby d26_0) rfl (XS.iloadN X0.here hx rfl (hb hby d26_1) rfl kq)) ?_
  obtain ⟨_, _, ⟨T1, L1, k1, n1⟩, -, X1, ⟨Lc1, hQ1, l1, y1, z1⟩, st1⟩ := Jvm.LawKit.callS X0 hx (y := (⟨"java/util/Arrays", "checkLength", "(II)V"⟩ : MethodName)) hown (mvT hZ (own_w hw 128 rfl)) (mvT hZ (own_w hw 129 rfl)) (mvT hZ (own_w hw 123 rfl)) (mvT hZ (own_w hw 130 rfl)) (by decide) (backOf (W := 0) (rmChk l Z a0 hw [] (Int32.ofNat q) (Int32.ofNat j) h0 n0 Z0 (mt (own_ltn (by omega) (by omega)).mp (by omega))) hZ (own_w hw 130 rfl) (own_w hw 123 rfl) (by decide) (by decide)) (g := (mkF m 2 #[.val (.ref t2), .val (.int (Int32.ofNat q)), .val (.int (Int32.ofNat j)), .unset, .unset] [(.int (Int32.ofNat j)), (.int (Int32.ofNat q))])) rfl (by rw [hml]; rfl) (argsL := [(.int (Int32.ofNat q)), (.int (Int32.ofNat j))]) (rest := []) (lenOf pd_20 rfl) rfl (by show 2 * 0 + _ ≤ _; exact Nat.le_of_eq rfl) (hb hby d26_2) (fun _ _ => ⟨rfl, e0, (by decide : 0 + 0 ≤ _), (by decide : 0 + 0 ≤ _)⟩)
  dsimp only [Pt.U, Pt.locs, Pt.cells, Pt.slots] at X1 l1 y1 z1 st1 hQ1
  have l1y := l1.symm
  clear l1
  subst l1y
  obtain rfl : k1 = 0 := y1
  obtain rfl : n1 = 0 := z1
  obtain ⟨rfl, N1q, e1⟩ := hQ1
  have N1 := Fr.app (Fr.nil n0) N1q
  refine own_to T1 (mkF m 8 #[.val (.ref t2), .val (.int (Int32.ofNat q)), .val (.int (Int32.ofNat j)), .unset, .unset] [(.int ((Int32.ofNat j) - (Int32.ofNat q)))]) (fun tq kq => st1 _ (XS.iloadN X1.here hx rfl (hb hby d26_5) rfl (XS.iloadN X1.here hx rfl (hb hby d26_6) rfl (XS.isub X1.here hx rfl (hb hby d26_7) rfl kq)))) ?_
  rw [show ((Int32.ofNat j) - (Int32.ofNat q)) = (Int32.ofNat (j - q)) from own_subn j q hj (by omega)]
  refine own_to T1 (mkF m 10 #[.val (.ref t2), .val (.int (Int32.ofNat q)), .val (.int (Int32.ofNat j)), .val (.int (Int32.ofNat (j - q))), .unset] [(.int (Int32.ofNat (j - q)))]) (fun tq kq => XS.istoreN X1.here hx rfl (hb hby d26_8) rfl (l' := #[.val (.ref t2), .val (.int (Int32.ofNat q)), .val (.int (Int32.ofNat j)), .val (.int (Int32.ofNat (j - q))), .unset]) rfl (XS.iloadN X1.here hx rfl (hb hby d26_9) rfl kq)) ?_
  obtain ⟨T2, h2, k2, X2, e2, E2, A2, st2⟩ := newP X1 hx hZ (own_w hw 19 rfl) e1 (g := (mkF m 10 #[.val (.ref t2), .val (.int (Int32.ofNat q)), .val (.int (Int32.ofNat j)), .val (.int (Int32.ofNat (j - q))), .unset] [(.int (Int32.ofNat (j - q)))])) rfl (hb hby d26_10) rfl (own_nonneg (by omega)) (cap := 3) (by rw [clamp_of rfl (by omega)]; omega) (by decide) (by decide) (by decide)
  obtain ⟨b2, g2⟩ : ∃ z, z = h0.size := ⟨_, rfl⟩
  rw [← g2] at A2 st2
  have ne_t2_b2 : own_ne t2 b2 := Nat.ne_of_lt (Nat.lt_of_lt_of_le Aa2.lt (Nat.le_of_eq g2.symm))
  have f3 := Aa2.ext E2
  have sz2 : n0 ≤ b2 := Nat.le_trans Z0 (Nat.le_of_eq g2.symm)
  have hs2 : h0.size ≤ b2 := Nat.le_trans K0.1 (Nat.le_of_eq g2.symm)
  have Zs2 : n0 ≤ h2.size := Nat.le_trans Z0 E2.1
  have K2 := K0.ext E2
  have V2 : BArr Z h2 b2 (j - q) (fun _ => 0) := BArr.new A2 (clamp_of rfl (by omega))
  refine own_to T2 (mkF m 20 #[.val (.ref t2), .val (.int (Int32.ofNat q)), .val (.int (Int32.ofNat j)), .val (.int (Int32.ofNat (j - q))), .val (.ref b2)] [(.ref t2), (.int (0 : Int32)), (.ref b2), (.int (Int32.ofNat q)), (.ref t2)]) (fun tq kq => st2 _ (XS.astore X2.here hx rfl (hb hby d26_12) rfl rfl (l' := #[.val (.ref t2), .val (.int (Int32.ofNat q)), .val (.int (Int32.ofNat j)), .val (.int (Int32.ofNat (j - q))), .val (.ref b2)]) rfl (XS.aloadN X2.here hx rfl (hb hby d26_14) rfl rfl (XS.iloadN X2.here hx rfl (hb hby d26_15) rfl (XS.aload X2.here hx rfl (hb hby d26_16) rfl rfl (XS.iconst X2.here hx rfl (hb hby d26_18) (XS.aloadN X2.here hx rfl (hb hby d26_19) rfl rfl kq))))))) ?_
  obtain ⟨co4, Aro4, hszo4, hato4⟩ := id f3
  refine own_to T2 (mkF m 21 #[.val (.ref t2), .val (.int (Int32.ofNat q)), .val (.int (Int32.ofNat j)), .val (.int (Int32.ofNat (j - q))), .val (.ref b2)] [(.int (co4.slots.size.toInt32)), (.int (0 : Int32)), (.ref b2), (.int (Int32.ofNat q)), (.ref t2)]) (fun tq kq => X2.arraylength hx (by rw [e2]; exact Aro4.1) (State.isArrayOf_alike hZ.alike Aro4.2.1) (g := (mkF m 20 #[.val (.ref t2), .val (.int (Int32.ofNat q)), .val (.int (Int32.ofNat j)), .val (.int (Int32.ofNat (j - q))), .val (.ref b2)] [(.ref t2), (.int (0 : Int32)), (.ref b2), (.int (Int32.ofNat q)), (.ref t2)])) rfl rfl (hb hby d26_20) _ kq) ?_
  rw [show co4.slots.size.toInt32 = Int32.ofNat n from by rw [hszo4] <;> rfl]
  refine own_to T2 (mkF m 23 #[.val (.ref t2), .val (.int (Int32.ofNat q)), .val (.int (Int32.ofNat j)), .val (.int (Int32.ofNat (j - q))), .val (.ref b2)] [(.int ((Int32.ofNat n) - (Int32.ofNat q))), (.int (0 : Int32)), (.ref b2), (.int (Int32.ofNat q)), (.ref t2)]) (fun tq kq => XS.iloadN X2.here hx rfl (hb hby d26_21) rfl (XS.isub X2.here hx rfl (hb hby d26_22) rfl kq)) ?_
  rw [show ((Int32.ofNat n) - (Int32.ofNat q)) = (Int32.ofNat (n - q)) from own_subn n q (by omega) (by omega)]
  refine own_to T2 (mkF m 24 #[.val (.ref t2), .val (.int (Int32.ofNat q)), .val (.int (Int32.ofNat j)), .val (.int (Int32.ofNat (j - q))), .val (.ref b2)] [(.int (Int32.ofNat (j - q))), (.int (Int32.ofNat (n - q))), (.int (0 : Int32)), (.ref b2), (.int (Int32.ofNat q)), (.ref t2)]) (fun tq kq => XS.iloadN X2.here hx rfl (hb hby d26_23) rfl kq) ?_
  obtain ⟨_, _, ⟨T5, L5, k5, n5⟩, -, X5, ⟨Lc5, hQ5, l5, y5, z5⟩, st5⟩ := Jvm.LawKit.callS X2 hx (y := (⟨"java/lang/Math", "min", "(II)I"⟩ : MethodName)) hown (mvT hZ (own_w hw 131 rfl)) (mvT hZ (own_w hw 98 rfl)) (mvT hZ (own_w hw 95 rfl)) (mvT hZ (own_w hw 99 rfl)) (by decide) (backOf (W := 4) (rmMin2 l Z a0 hw [] (Int32.ofNat (n - q)) (Int32.ofNat (j - q)) h2 n0 Zs2 ((own_ltn (by omega) (by omega)).mpr (by omega))) hZ (own_w hw 99 rfl) (own_w hw 95 rfl) (by decide) (by decide)) (g := (mkF m 24 #[.val (.ref t2), .val (.int (Int32.ofNat q)), .val (.int (Int32.ofNat j)), .val (.int (Int32.ofNat (j - q))), .val (.ref b2)] [(.int (Int32.ofNat (j - q))), (.int (Int32.ofNat (n - q))), (.int (0 : Int32)), (.ref b2), (.int (Int32.ofNat q)), (.ref t2)])) rfl (by rw [hml]; rfl) (argsL := [(.int (Int32.ofNat (n - q))), (.int (Int32.ofNat (j - q)))]) (rest := [(.int (0 : Int32)), (.ref b2), (.int (Int32.ofNat q)), (.ref t2)]) (lenOf pd_12 rfl) rfl (by show 2 * 0 + _ ≤ _; exact Nat.le_of_eq rfl) (hb hby d26_24) (fun _ _ => ⟨rfl, e2, (by decide : 1 + 0 ≤ _), (by decide : 3 + 0 ≤ _)⟩)
  dsimp only [Pt.U, Pt.locs, Pt.cells, Pt.slots] at X5 l5 y5 z5 st5 hQ5
  have l5y := l5.symm
  clear l5
  subst l5y
  obtain rfl : k5 = 1 := y5
  obtain rfl : n5 = 3 := z5
  obtain ⟨rfl, N5q, e5⟩ := hQ5
  have N5 := Fr.app N1 N5q
  refine own_to T5 (mkF m 27 #[.val (.ref t2), .val (.int (Int32.ofNat q)), .val (.int (Int32.ofNat j)), .val (.int (Int32.ofNat (j - q))), .val (.ref b2)] [(.int (Int32.ofNat (j - q))), (.int (0 : Int32)), (.ref b2), (.int (Int32.ofNat q)), (.ref t2)]) (fun tq kq => st5 _ kq) ?_
  obtain ⟨cs6, As6, ss6, sv6⟩ := id f3
  obtain ⟨cd6, Ad6, ds6, dv6⟩ := id V2
  obtain ⟨T6, _, L6, X6, rfl, K6q, N6, st6⟩ := own_copy X5 hx hZ hown (own_w hw 132 rfl) (own_w hw 135 rfl) (own_w hw 133 rfl) (own_w hw 134 rfl) e5 As6 Ad6 (i := q) (k := j - q) sz2 N5 (by rw [ss6]; omega) (by rw [ds6]; exact Nat.le_refl _) (by rw [ss6]; omega) (fun i hi => ⟨f i, sv6 i (by rw [ss6] at hi; exact hi), hfb i (by rw [ss6] at hi; exact hi)⟩) (g := (mkF m 27 #[.val (.ref t2), .val (.int (Int32.ofNat q)), .val (.int (Int32.ofNat j)), .val (.int (Int32.ofNat (j - q))), .val (.ref b2)] [(.int (Int32.ofNat (j - q))), (.int (0 : Int32)), (.ref b2), (.int (Int32.ofNat q)), (.ref t2)])) rfl (by rw [hml]; rfl) (rest := []) rfl (hb hby d26_27) (by decide) (by show 2 * 0 + 0 + _ ≤ _; decide)
  have f7 := f3.keep K6q (ninS ne_t2_b2 nin0)
  have Zs6 : n0 ≤ T6.heap.size := Nat.le_trans Zs2 K6q.1
  have KK6 := K2.trans K6q (allS (Or.inr hs2) all0)
  refine own_to T6 (mkF m 32 #[.val (.ref t2), .val (.int (Int32.ofNat q)), .val (.int (Int32.ofNat j)), .val (.int (Int32.ofNat (j - q))), .val (.ref b2)] [(.ref b2)]) (fun tq kq => st6 _ (XS.aload X6.here hx rfl (hb hby d26_30) rfl rfl kq)) ?_
  exact own_retA X6 hx hret hlk rfl rfl (hb hby d26_32) (by decide) (by decide) ⟨b2, rfl, N6, KK6, hs2⟩
theorem d25_0 : decode jdk_65_method_132_code 0 = .ok (.iload_n 1, 1) := by decide +kernel
theorem d25_1 : decode jdk_65_method_132_code 1 = .ok (.ifCond .ne 9, 3) := by decide +kernel
theorem d25_4 : decode jdk_65_method_132_code 4 = .ok (.iload_n 2, 1) := by decide +kernel
theorem d25_5 : decode jdk_65_method_132_code 5 = .ok (.aload_n 0, 1) := by decide +kernel
theorem d25_6 : decode jdk_65_method_132_code 6 = .ok (.arraylength, 1) := by decide +kernel
theorem d25_7 : decode jdk_65_method_132_code 7 = .ok (.if_icmp .eq 10, 3) := by decide +kernel
theorem d25_10 : decode jdk_65_method_132_code 10 = .ok (.aload_n 0, 1) := by decide +kernel
theorem d25_11 : decode jdk_65_method_132_code 11 = .ok (.iload_n 1, 1) := by decide +kernel
theorem d25_12 : decode jdk_65_method_132_code 12 = .ok (.iload_n 2, 1) := by decide +kernel
theorem d25_13 : decode jdk_65_method_132_code 13 = .ok (.invokestatic 339, 3) := by decide +kernel
theorem d25_16 : decode jdk_65_method_132_code 16 = .ok (.areturn, 1) := by decide +kernel
theorem d25_17 : decode jdk_65_method_132_code 17 = .ok (.aload_n 0, 1) := by decide +kernel
theorem d25_18 : decode jdk_65_method_132_code 18 = .ok (.invokevirtual 310, 3) := by decide +kernel
theorem d25_21 : decode jdk_65_method_132_code 21 = .ok (.checkcast 311, 3) := by decide +kernel
theorem d25_24 : decode jdk_65_method_132_code 24 = .ok (.areturn, 1) := by decide +kernel
theorem ef_25_RII (m : MethodId) (x0 : Addr) (x1 : Int32) (x2 : Int32) : entryFrame m #[(.ref x0), (.int x1), (.int x2)] 3 = mkF m 0 #[.val (.ref x0), .val (.int x1), .val (.int x2)] [] := by first | (simp [entryFrame, mkF, argsToLocals, Value.category]; done) | rfl
def Q_rmCR (Z : State) (t2 : Addr) (q j n : Nat) (f : Nat → Int32) (h0 : Heap) (n0 : Nat) (v : Option Value) (h : Heap) (L : List Loc) : Prop := ∃ b, v = some (.ref b) ∧ Fr n0 L ∧ Keep h0 h [] ∧ h0.size ≤ b
theorem pd_19 : parseMethodDescriptor "([BII)[B" = some ⟨[(.array .byte), .int, .int], some (.array .byte)⟩ := by decide +kernel
set_option maxRecDepth 65536 in
set_option maxHeartbeats 40000000 in
theorem rmCR (l : Launch) (Z : State) (a0 : Array Value) (hw : ∀ d ∈ tables_1, d.before a0 Z = true) (ws : List Jvm.Cond) (t2 : Addr) (q j n : Nat) (f : Nat → Int32) (h0 : Heap) (n0 : Nat) (Z0 : n0 ≤ h0.size) (Aa2 : BArr Z h0 t2 n f) (hfb : ∀ i, i < n → fits .byte (.int (f i)) = true) (hj : q ≤ j) (hjn : j < n) (hn' : n ≤ 3) :
    MetFree l (⟨"java/util/Arrays", "copyOfRange", "([BII)[B"⟩ : MethodName) (head1 (Jvm.Cond.code (⟨"java/util/Arrays", "copyOfRange", "([BII)[B"⟩ : MethodName) jdk_65_method_132_code 3 (some (.array .byte)) :: ws) ({ frames := 2, cells := 1, slots := 3, locals := 80 } : Room)) (fun a U => a = #[(.ref t2), (.int (Int32.ofNat q)), (.int (Int32.ofNat j))] ∧ Z.Warmed39 U.vm ∧ U.heap = h0) (fun _ _ _ _ _ => True) (fun _ U o U' => ∃ v L, o = .returned v ∧ Q_rmCR Z t2 q j n f h0 n0 v U'.heap L ∧ FrameEnd U o U' L ({ frames := 2, cells := 1, slots := 3, locals := 80 } : Room).cells ({ frames := 2, cells := 1, slots := 3, locals := 80 } : Room).slots) := by
  refine own_met (y := (⟨"java/util/Arrays", "copyOfRange", "([BII)[B"⟩ : MethodName)) (Q := (Q_rmCR Z t2 q j n f h0 n0)) (plainFor_of_name pn_27) fun p e s m below meth c s₁ X0 hx hby hml hret hlk hown hnm hZ e0 => ?_
  refine own_entry (ef_25_RII m t2 (Int32.ofNat q) (Int32.ofNat j)) ?_
  have K0 := Keep.refl h0 []
  obtain ⟨cx, Ar1, hsz1, hat1⟩ := id Aa2
  refine own_to s₁ (mkF m 1 #[.val (.ref t2), .val (.int (Int32.ofNat q)), .val (.int (Int32.ofNat j))] [(.int (Int32.ofNat q))]) (fun tq kq => XS.iloadN X0.here hx rfl (hb hby d25_0) rfl kq) ?_
  by_cases c1 : (Int32.ofNat q) = (0 : Int32)
  · skip
    refine own_to s₁ (mkF m 7 #[.val (.ref t2), .val (.int (Int32.ofNat q)), .val (.int (Int32.ofNat j))] [(.int (cx.slots.size.toInt32)), (.int (Int32.ofNat j))]) (fun tq kq => XS.ifNo X0.here hx rfl (hb hby d25_1) rfl ((if0 _ _).trans (teq c1).2) (XS.iloadN X0.here hx rfl (hb hby d25_4) rfl (XS.aloadN X0.here hx rfl (hb hby d25_5) rfl rfl (X0.arraylength hx (by rw [e0]; exact Ar1.1) (State.isArrayOf_alike hZ.alike Ar1.2.1) (g := (mkF m 6 #[.val (.ref t2), .val (.int (Int32.ofNat q)), .val (.int (Int32.ofNat j))] [(.ref t2), (.int (Int32.ofNat j))])) rfl rfl (hb hby d25_6) _ kq)))) ?_
    rw [show cx.slots.size.toInt32 = Int32.ofNat n from by rw [hsz1] <;> rfl]
    refine own_to s₁ (mkF m 13 #[.val (.ref t2), .val (.int (Int32.ofNat q)), .val (.int (Int32.ofNat j))] [(.int (Int32.ofNat j)), (.int (Int32.ofNat q)), (.ref t2)]) (fun tq kq => XS.icmpNo X0.here hx rfl (hb hby d25_7) rfl (feq (mt (own_eqn (by omega) (by omega)).mp (by omega))).1 (XS.aloadN X0.here hx rfl (hb hby d25_10) rfl rfl (XS.iloadN X0.here hx rfl (hb hby d25_11) rfl (XS.iloadN X0.here hx rfl (hb hby d25_12) rfl kq)))) ?_
    obtain ⟨_, _, ⟨T1, L1, k1, n1⟩, -, X1, ⟨Lc1, hQ1, l1, y1, z1⟩, st1⟩ := Jvm.LawKit.callS X0 hx (y := (⟨"java/util/Arrays", "copyOfRangeByte", "([BII)[B"⟩ : MethodName)) hown (mvT hZ (own_w hw 125 rfl)) (mvT hZ (own_w hw 126 rfl)) (mvT hZ (own_w hw 123 rfl)) (mvT hZ (own_w hw 127 rfl)) (by decide) (backOf (W := 0) (rmCRB l Z a0 hw [] t2 q j n f h0 n0 Z0 Aa2 hfb hj hjn hn') hZ (own_w hw 127 rfl) (own_w hw 123 rfl) (by decide) (by decide)) (g := (mkF m 13 #[.val (.ref t2), .val (.int (Int32.ofNat q)), .val (.int (Int32.ofNat j))] [(.int (Int32.ofNat j)), (.int (Int32.ofNat q)), (.ref t2)])) rfl (by rw [hml]; rfl) (argsL := [(.ref t2), (.int (Int32.ofNat q)), (.int (Int32.ofNat j))]) (rest := []) (lenOf pd_19 rfl) rfl (by show 2 * 0 + _ ≤ _; exact Nat.le_of_eq rfl) (hb hby d25_13) (fun _ _ => ⟨rfl, e0, (by decide : 0 + 1 ≤ _), (by decide : 0 + 3 ≤ _)⟩)
    dsimp only [Pt.U, Pt.locs, Pt.cells, Pt.slots] at X1 l1 y1 z1 st1 hQ1
    have l1y := l1.symm
    clear l1
    subst l1y
    obtain rfl : k1 = 1 := y1
    obtain rfl : n1 = 3 := z1
    obtain ⟨b1, rfl, N1q, K1q, hsr1⟩ := hQ1
    have N1 := Fr.app (Fr.nil n0) N1q
    have Zs1 : n0 ≤ T1.heap.size := Nat.le_trans Z0 K1q.1
    have KK1 := K0.trans K1q all0
    refine own_to T1 (mkF m 16 #[.val (.ref t2), .val (.int (Int32.ofNat q)), .val (.int (Int32.ofNat j))] [(.ref b1)]) (fun tq kq => st1 _ kq) ?_
    exact own_retA X1 hx hret hlk rfl rfl (hb hby d25_16) (by decide) (by decide) ⟨b1, rfl, N1, KK1, hsr1⟩
  · skip
    refine own_to s₁ (mkF m 13 #[.val (.ref t2), .val (.int (Int32.ofNat q)), .val (.int (Int32.ofNat j))] [(.int (Int32.ofNat j)), (.int (Int32.ofNat q)), (.ref t2)]) (fun tq kq => XS.ifYes X0.here hx rfl (pc0 := 1) (pc' := 10) rfl (hb hby d25_1) rfl ((if0 _ _).trans (feq c1).2) (by decide) (by decide) (XS.aloadN X0.here hx rfl (hb hby d25_10) rfl rfl (XS.iloadN X0.here hx rfl (hb hby d25_11) rfl (XS.iloadN X0.here hx rfl (hb hby d25_12) rfl kq)))) ?_
    obtain ⟨_, _, ⟨T2, L2, k2, n2⟩, -, X2, ⟨Lc2, hQ2, l2, y2, z2⟩, st2⟩ := Jvm.LawKit.callS X0 hx (y := (⟨"java/util/Arrays", "copyOfRangeByte", "([BII)[B"⟩ : MethodName)) hown (mvT hZ (own_w hw 125 rfl)) (mvT hZ (own_w hw 126 rfl)) (mvT hZ (own_w hw 123 rfl)) (mvT hZ (own_w hw 127 rfl)) (by decide) (backOf (W := 0) (rmCRB l Z a0 hw [] t2 q j n f h0 n0 Z0 Aa2 hfb hj hjn hn') hZ (own_w hw 127 rfl) (own_w hw 123 rfl) (by decide) (by decide)) (g := (mkF m 13 #[.val (.ref t2), .val (.int (Int32.ofNat q)), .val (.int (Int32.ofNat j))] [(.int (Int32.ofNat j)), (.int (Int32.ofNat q)), (.ref t2)])) rfl (by rw [hml]; rfl) (argsL := [(.ref t2), (.int (Int32.ofNat q)), (.int (Int32.ofNat j))]) (rest := []) (lenOf pd_19 rfl) rfl (by show 2 * 0 + _ ≤ _; exact Nat.le_of_eq rfl) (hb hby d25_13) (fun _ _ => ⟨rfl, e0, (by decide : 0 + 1 ≤ _), (by decide : 0 + 3 ≤ _)⟩)
    dsimp only [Pt.U, Pt.locs, Pt.cells, Pt.slots] at X2 l2 y2 z2 st2 hQ2
    have l2y := l2.symm
    clear l2
    subst l2y
    obtain rfl : k2 = 1 := y2
    obtain rfl : n2 = 3 := z2
    obtain ⟨b2, rfl, N2q, K2q, hsr2⟩ := hQ2
    have N2 := Fr.app (Fr.nil n0) N2q
    have Zs2 : n0 ≤ T2.heap.size := Nat.le_trans Z0 K2q.1
    have KK2 := K0.trans K2q all0
    refine own_to T2 (mkF m 16 #[.val (.ref t2), .val (.int (Int32.ofNat q)), .val (.int (Int32.ofNat j))] [(.ref b2)]) (fun tq kq => st2 _ kq) ?_
    exact own_retA X2 hx hret hlk rfl rfl (hb hby d25_16) (by decide) (by decide) ⟨b2, rfl, N2, KK2, hsr2⟩
theorem d28_0 : decode jdk_42_method_151_code 0 = .ok (.aload_n 0, 1) := by decide +kernel
theorem d28_1 : decode jdk_42_method_151_code 1 = .ok (.invokespecial 1, 3) := by decide +kernel
theorem d28_4 : decode jdk_42_method_151_code 4 = .ok (.aload_n 0, 1) := by decide +kernel
theorem d28_5 : decode jdk_42_method_151_code 5 = .ok (.aload_n 1, 1) := by decide +kernel
theorem d28_6 : decode jdk_42_method_151_code 6 = .ok (.putfield 9, 3) := by decide +kernel
theorem d28_9 : decode jdk_42_method_151_code 9 = .ok (.aload_n 0, 1) := by decide +kernel
theorem d28_10 : decode jdk_42_method_151_code 10 = .ok (.iload_n 2, 1) := by decide +kernel
theorem d28_11 : decode jdk_42_method_151_code 11 = .ok (.putfield 15, 3) := by decide +kernel
theorem d28_14 : decode jdk_42_method_151_code 14 = .ok (.return_, 1) := by decide +kernel
theorem ef_28_RRI (m : MethodId) (x0 : Addr) (x1 : Addr) (x2 : Int32) : entryFrame m #[(.ref x0), (.ref x1), (.int x2)] 3 = mkF m 0 #[.val (.ref x0), .val (.ref x1), .val (.int x2)] [] := by first | (simp [entryFrame, mkF, argsToLocals, Value.category]; done) | rfl
def Q_rmSB (Z : State) (a1 a2 : Addr) (h0 : Heap) (n0 : Nat) (v : Option Value) (h : Heap) (L : List Loc) : Prop := v = none ∧ Fr n0 L ∧ Keep h0 h [a1]
theorem sn_coder_value {Z : State} {a0 : Array Value} (hw : ∀ d ∈ tables_1, d.before a0 Z = true) : Jvm.RoadKit.slotOf Z "java/lang/String" "coder" "B" ≠ Jvm.RoadKit.slotOf Z "java/lang/String" "value" "[B" := Jvm.RoadKit.slot_ne (a0 := a0) (Or.inr (own_w hw 21 rfl)) (Or.inr (own_w hw 20 rfl)) (by decide) (t := .byte) (t' := (.array .byte)) (by decide) (by decide)
theorem sn_value_coder {Z : State} {a0 : Array Value} (hw : ∀ d ∈ tables_1, d.before a0 Z = true) : Jvm.RoadKit.slotOf Z "java/lang/String" "value" "[B" ≠ Jvm.RoadKit.slotOf Z "java/lang/String" "coder" "B" := Jvm.RoadKit.slot_ne (a0 := a0) (Or.inr (own_w hw 20 rfl)) (Or.inr (own_w hw 21 rfl)) (by decide) (t := (.array .byte)) (t' := .byte) (by decide) (by decide)
set_option maxRecDepth 65536 in
set_option maxHeartbeats 40000000 in
theorem rmSB (l : Launch) (Z : State) (a0 : Array Value) (hw : ∀ d ∈ tables_1, d.before a0 Z = true) (ws : List Jvm.Cond) (a1 a2 : Addr) (h0 : Heap) (n0 : Nat) (Z0 : n0 ≤ h0.size) (E1 : Exa Z h0 a1 "java/lang/String") (F1 : Fld Z h0 a1 "java/lang/String" "value" "[B" .null) (F2 : Fld Z h0 a1 "java/lang/String" "coder" "B" (.int (0 : Int32))) (g_a1 : n0 ≤ a1) :
    MetFree l (⟨"java/lang/String", "<init>", "([BB)V"⟩ : MethodName) (head1 (Jvm.Cond.code (⟨"java/lang/String", "<init>", "([BB)V"⟩ : MethodName) jdk_42_method_151_code 3 none :: ws) ({ frames := 1, cells := 0, slots := 0, locals := 12 } : Room)) (fun a U => a = #[(.ref a1), (.ref a2), (.int (0 : Int32))] ∧ Z.Warmed39 U.vm ∧ U.heap = h0) (fun _ _ _ _ _ => True) (fun _ U o U' => ∃ v L, o = .returned v ∧ Q_rmSB Z a1 a2 h0 n0 v U'.heap L ∧ FrameEnd U o U' L ({ frames := 1, cells := 0, slots := 0, locals := 12 } : Room).cells ({ frames := 1, cells := 0, slots := 0, locals := 12 } : Room).slots) := by
  refine own_met (y := (⟨"java/lang/String", "<init>", "([BB)V"⟩ : MethodName)) (Q := (Q_rmSB Z a1 a2 h0 n0)) (plainFor_of_name pn_8) fun p e s m below meth c s₁ X0 hx hby hml hret hlk hown hnm hZ e0 => ?_
  refine own_entry (ef_28_RRI m a1 a2 (0 : Int32)) ?_
  have K0 := Keep.refl h0 [a1]
  refine own_to s₁ (mkF m 1 #[.val (.ref a1), .val (.ref a2), .val (.int (0 : Int32))] [(.ref a1)]) (fun tq kq => XS.aloadN X0.here hx rfl (hb hby d28_0) rfl rfl kq) ?_
  obtain ⟨T1, X1, e1, st1⟩ := initO X0 hx hZ hown (own_w hw 15 rfl) (own_w hw 16 rfl) (own_w hw 17 rfl) e0 (g := (mkF m 1 #[.val (.ref a1), .val (.ref a2), .val (.int (0 : Int32))] [(.ref a1)])) rfl (by rw [hml]; rfl) rfl (hb hby d28_1) (by decide) (W := 0) (by show 2 * 0 + _ ≤ _; exact Nat.le_of_eq rfl) (by decide)
  refine own_to T1 (mkF m 6 #[.val (.ref a1), .val (.ref a2), .val (.int (0 : Int32))] [(.ref a2), (.ref a1)]) (fun tq kq => st1 _ (XS.aloadN X1.here hx rfl (hb hby d28_4) rfl rfl (XS.aloadN X1.here hx rfl (hb hby d28_5) rfl rfl kq))) ?_
  obtain ⟨T2, h2, X2, e2, W2, st2⟩ := putF X1 hx hZ hown (host := "") (Or.inl (own_w hw 24 rfl)) Via.refl e1 F1 E1 (Or.inr ⟨(own_w hw 20 rfl), rfl, hnm⟩) (own_w hw 6 rfl) (ty := (.array .byte)) (by decide) rfl rfl (g := (mkF m 6 #[.val (.ref a1), .val (.ref a2), .val (.int (0 : Int32))] [(.ref a2), (.ref a1)])) rfl rfl (hb hby d28_6)
  have f3 := E1.wr W2
  have f4 := F2.other W2 (Or.inr (sn_coder_value hw))
  have f5 := F1.same W2
  have N2 := Fr.snoc X2 (Fr.nil n0) g_a1
  have Zs2 : n0 ≤ h2.size := by rw [W2.size]; exact Z0
  have K2 := K0.wr W2 (Or.inl (List.mem_of_getElem? (i := 0) rfl))
  refine own_to T2 (mkF m 11 #[.val (.ref a1), .val (.ref a2), .val (.int (0 : Int32))] [(.int (0 : Int32)), (.ref a1)]) (fun tq kq => st2 _ (XS.aloadN X2.here hx rfl (hb hby d28_9) rfl rfl (XS.iloadN X2.here hx rfl (hb hby d28_10) rfl kq))) ?_
  obtain ⟨T6, h6, X6, e6, W6, st6⟩ := putFN X2 hx hZ hown (own_w hw 25 rfl) Via.refl e2 f4 f3 (Or.inr ⟨(own_w hw 21 rfl), rfl, hnm⟩) (own_w hw 6 rfl) (ty := .byte) (v' := (.int (0 : Int32))) (by decide) rfl rfl (g := (mkF m 11 #[.val (.ref a1), .val (.ref a2), .val (.int (0 : Int32))] [(.int (0 : Int32)), (.ref a1)])) rfl rfl (hb hby d28_11)
  have f7 := f3.wr W6
  have f8 := f5.other W6 (Or.inr (sn_value_coder hw))
  have f9 := f4.same W6
  have N6 := Fr.snoc X6 N2 g_a1
  have Zs6 : n0 ≤ h6.size := by rw [W6.size]; exact Zs2
  have K6 := K2.wr W6 (Or.inl (List.mem_of_getElem? (i := 0) rfl))
  refine own_to T6 (mkF m 14 #[.val (.ref a1), .val (.ref a2), .val (.int (0 : Int32))] []) (fun tq kq => st6 _ kq) ?_
  exact own_retV X6 hx hret hlk (hb hby d28_14) (by decide) (by decide) (by rw [e6]; exact ⟨rfl, N6, K6⟩)
theorem d24_0 : decode jdk_43_method_47_code 0 = .ok (.iload_n 2, 1) := by decide +kernel
theorem d24_1 : decode jdk_43_method_47_code 1 = .ok (.ifCond .ne 6, 3) := by decide +kernel
theorem d24_4 : decode jdk_43_method_47_code 4 = .ok (.ldc 151, 2) := by decide +kernel
theorem d24_6 : decode jdk_43_method_47_code 6 = .ok (.areturn, 1) := by decide +kernel
theorem d24_7 : decode jdk_43_method_47_code 7 = .ok (.new 1, 3) := by decide +kernel
theorem d24_10 : decode jdk_43_method_47_code 10 = .ok (.dup, 1) := by decide +kernel
theorem d24_11 : decode jdk_43_method_47_code 11 = .ok (.aload_n 0, 1) := by decide +kernel
theorem d24_12 : decode jdk_43_method_47_code 12 = .ok (.iload_n 1, 1) := by decide +kernel
theorem d24_13 : decode jdk_43_method_47_code 13 = .ok (.iload_n 1, 1) := by decide +kernel
theorem d24_14 : decode jdk_43_method_47_code 14 = .ok (.iload_n 2, 1) := by decide +kernel
theorem d24_15 : decode jdk_43_method_47_code 15 = .ok (.iadd, 1) := by decide +kernel
theorem d24_16 : decode jdk_43_method_47_code 16 = .ok (.invokestatic 232, 3) := by decide +kernel
theorem d24_19 : decode jdk_43_method_47_code 19 = .ok (.iconst 0, 1) := by decide +kernel
theorem d24_20 : decode jdk_43_method_47_code 20 = .ok (.invokespecial 112, 3) := by decide +kernel
theorem d24_23 : decode jdk_43_method_47_code 23 = .ok (.areturn, 1) := by decide +kernel
theorem ef_24_RII (m : MethodId) (x0 : Addr) (x1 : Int32) (x2 : Int32) : entryFrame m #[(.ref x0), (.int x1), (.int x2)] 3 = mkF m 0 #[.val (.ref x0), .val (.int x1), .val (.int x2)] [] := by first | (simp [entryFrame, mkF, argsToLocals, Value.category]; done) | rfl
def Q_rmNS (Z : State) (t2 : Addr) (q j n : Nat) (f : Nat → Int32) (h0 : Heap) (n0 : Nat) (v : Option Value) (h : Heap) (L : List Loc) : Prop := ∃ b, v = some (.ref b) ∧ Fr n0 L ∧ Keep h0 h []
theorem pd_22 : parseMethodDescriptor "([BB)V" = some ⟨[(.array .byte), .byte], none⟩ := by decide +kernel
set_option maxRecDepth 65536 in
set_option maxHeartbeats 40000000 in
theorem rmNS (l : Launch) (Z : State) (a0 : Array Value) (hw : ∀ d ∈ tables_1, d.before a0 Z = true) (ws : List Jvm.Cond) (t2 : Addr) (q j n : Nat) (f : Nat → Int32) (h0 : Heap) (n0 : Nat) (Z0 : n0 ≤ h0.size) (Aa2 : BArr Z h0 t2 n f) (hfb : ∀ i, i < n → fits .byte (.int (f i)) = true) (hj : q ≤ j) (hjn : j < n) (hn' : n ≤ 3) :
    MetFree l (⟨"java/lang/StringLatin1", "newString", "([BII)Ljava/lang/String;"⟩ : MethodName) (head1 (Jvm.Cond.code (⟨"java/lang/StringLatin1", "newString", "([BII)Ljava/lang/String;"⟩ : MethodName) jdk_43_method_47_code 3 (some (.object "java/lang/String")) :: ws) ({ frames := 3, cells := 2, slots := 8, locals := 110 } : Room)) (fun a U => a = #[(.ref t2), (.int (Int32.ofNat q)), (.int (Int32.ofNat (j - q)))] ∧ Z.Warmed39 U.vm ∧ U.heap = h0) (fun _ _ _ _ _ => True) (fun _ U o U' => ∃ v L, o = .returned v ∧ Q_rmNS Z t2 q j n f h0 n0 v U'.heap L ∧ ReturnedEndW U o U' L ({ frames := 3, cells := 2, slots := 8, locals := 110 } : Room).cells ({ frames := 3, cells := 2, slots := 8, locals := 110 } : Room).slots) := by
  refine own_metW (y := (⟨"java/lang/StringLatin1", "newString", "([BII)Ljava/lang/String;"⟩ : MethodName)) (Q := (Q_rmNS Z t2 q j n f h0 n0)) (plainFor_of_name pn_30) fun p e s m below meth c s₁ X0 hx hby hml hret hlk hown hnm hZ e0 hS => ?_
  have hk := Nat.le_refl h0.size
  refine own_entryW (ef_24_RII m t2 (Int32.ofNat q) (Int32.ofNat (j - q))) ?_
  have own_wS : ∀ a ∈ Bundle.stringAtoms, a.before a0 Z = true := fun a ha => hw a (own_sub a ha)
  have K0 := Keep.refl h0 []
  refine own_toW s₁ (mkF m 1 #[.val (.ref t2), .val (.int (Int32.ofNat q)), .val (.int (Int32.ofNat (j - q)))] [(.int (Int32.ofNat (j - q)))]) (fun tq kq => XS.iloadN X0.here hx rfl (hb hby d24_0) rfl kq) ?_
  by_cases c1 : (Int32.ofNat (j - q)) = (0 : Int32)
  · skip
    refine own_toW s₁ (mkF m 4 #[.val (.ref t2), .val (.int (Int32.ofNat q)), .val (.int (Int32.ofNat (j - q)))] []) (fun tq kq => XS.ifNo X0.here hx rfl (hb hby d24_1) rfl ((if0 _ _).trans (teq c1).2) kq) ?_
    obtain ⟨b1, T1, h1, k1, X1, e1, E1, hS, hk, hZ, hown, st1⟩ := ldcS X0 hx hZ hown (own_w hw 119 rfl) own_wS e0 hS hk (g := (mkF m 4 #[.val (.ref t2), .val (.int (Int32.ofNat q)), .val (.int (Int32.ofNat (j - q)))] [])) rfl (hb hby d24_4) (n := 0) (by decide) (by decide) (by decide) (by decide)
    have f2 := Aa2.ext E1
    have Zs1 : n0 ≤ h1.size := Nat.le_trans Z0 E1.1
    have K1 := K0.ext E1
    refine own_toW T1 (mkF m 6 #[.val (.ref t2), .val (.int (Int32.ofNat q)), .val (.int (Int32.ofNat (j - q)))] [(.ref b1)]) (fun tq kq => st1 _ kq) ?_
    exact own_retAW X1 hS (by rw [e1]; exact hk) hx hret hlk rfl rfl (hb hby d24_6) (by decide) (by decide) ⟨b1, rfl, (Fr.nil n0), (by rw [e1]; exact K1)⟩
  · skip
    refine own_toW s₁ (mkF m 7 #[.val (.ref t2), .val (.int (Int32.ofNat q)), .val (.int (Int32.ofNat (j - q)))] []) (fun tq kq => XS.ifYes X0.here hx rfl (pc0 := 1) (pc' := 7) rfl (hb hby d24_1) rfl ((if0 _ _).trans (feq c1).2) (by decide) (by decide) kq) ?_
    obtain ⟨T3, h3, X3, e3, E3, A3, D3, -, st3⟩ := newO X0 hx hZ hown (own_w hw 120 rfl) (own_w hw 6 rfl) (own_w hw 7 rfl) e0 (g := (mkF m 7 #[.val (.ref t2), .val (.int (Int32.ofNat q)), .val (.int (Int32.ofNat (j - q)))] [])) rfl (hb hby d24_7) (by decide) (by decide)
    obtain ⟨b3, g3⟩ : ∃ z, z = h0.size := ⟨_, rfl⟩
    rw [← g3] at A3 D3 st3
    have ne_t2_b3 : own_ne t2 b3 := Nat.ne_of_lt (Nat.lt_of_lt_of_le Aa2.lt (Nat.le_of_eq g3.symm))
    have f4 := Aa2.ext E3
    have sz3 : n0 ≤ b3 := Nat.le_trans Z0 (Nat.le_of_eq g3.symm)
    have hs3 : h0.size ≤ b3 := Nat.le_trans K0.1 (Nat.le_of_eq g3.symm)
    have Zs3 : n0 ≤ h3.size := Nat.le_trans Z0 E3.1
    have K3 := K0.ext E3
    have hk := Nat.le_trans hk E3.1
    have F3_value : Fld Z h3 b3 "java/lang/String" "value" "[B" .null := D3 (Or.inr (own_w hw 20 rfl)) (ty := (.array .byte)) (by decide)
    have F3_coder : Fld Z h3 b3 "java/lang/String" "coder" "B" (.int (0 : Int32)) := D3 (Or.inr (own_w hw 21 rfl)) (ty := .byte) (by decide)
    refine own_toW T3 (mkF m 16 #[.val (.ref t2), .val (.int (Int32.ofNat q)), .val (.int (Int32.ofNat (j - q)))] [(.int ((Int32.ofNat q) + (Int32.ofNat (j - q)))), (.int (Int32.ofNat q)), (.ref t2), (.ref b3), (.ref b3)]) (fun tq kq => st3 _ (XS.dup X3.here hx rfl (hb hby d24_10) rfl rfl (XS.aloadN X3.here hx rfl (hb hby d24_11) rfl rfl (XS.iloadN X3.here hx rfl (hb hby d24_12) rfl (XS.iloadN X3.here hx rfl (hb hby d24_13) rfl (XS.iloadN X3.here hx rfl (hb hby d24_14) rfl (XS.iadd X3.here hx rfl (hb hby d24_15) rfl kq))))))) ?_
    rw [show ((Int32.ofNat q) + (Int32.ofNat (j - q))) = (Int32.ofNat (j)) from by rw [own_addn q (j - q) (by omega) (by omega)]; exact congrArg Int32.ofNat (by omega)]
    obtain ⟨_, _, ⟨T5, L5, k5, n5⟩, -, X5, ⟨Lc5, hQ5, l5, y5, z5⟩, st5⟩ := Jvm.LawKit.callS X3 hx (y := (⟨"java/util/Arrays", "copyOfRange", "([BII)[B"⟩ : MethodName)) hown (mvT hZ (own_w hw 121 rfl)) (mvT hZ (own_w hw 122 rfl)) (mvT hZ (own_w hw 123 rfl)) (mvT hZ (own_w hw 124 rfl)) (by decide) (backOf (W := 2) (rmCR l Z a0 hw [] t2 q j n f h3 n0 Zs3 f4 hfb hj hjn hn') hZ (own_w hw 124 rfl) (own_w hw 123 rfl) (by decide) (by decide)) (g := (mkF m 16 #[.val (.ref t2), .val (.int (Int32.ofNat q)), .val (.int (Int32.ofNat (j - q)))] [(.int (Int32.ofNat (j))), (.int (Int32.ofNat q)), (.ref t2), (.ref b3), (.ref b3)])) rfl (by rw [hml]; rfl) (argsL := [(.ref t2), (.int (Int32.ofNat q)), (.int (Int32.ofNat (j)))]) (rest := [(.ref b3), (.ref b3)]) (lenOf pd_19 rfl) rfl (by show 2 * 0 + _ ≤ _; exact Nat.le_of_eq rfl) (hb hby d24_16) (fun _ _ => ⟨rfl, e3, (by decide : 1 + 1 ≤ _), (by decide : 4 + 3 ≤ _)⟩)
    dsimp only [Pt.U, Pt.locs, Pt.cells, Pt.slots] at X5 l5 y5 z5 st5 hQ5
    have l5y := l5.symm
    clear l5
    subst l5y
    obtain rfl : k5 = 2 := y5
    obtain rfl : n5 = 7 := z5
    obtain ⟨b5, rfl, N5q, K5q, hsr5⟩ := hQ5
    have N5 := Fr.app (Fr.nil n0) N5q
    have ne_b3_b5 : own_ne b3 b5 := Nat.ne_of_lt (Nat.lt_of_lt_of_le A3.lt hsr5)
    have f6 := f4.keep K5q nin0
    have f7 := A3.keep K5q
    have f8 := F3_value.keep K5q nin0
    have f9 := F3_coder.keep K5q nin0
    have Zs5 : n0 ≤ T5.heap.size := Nat.le_trans Zs3 K5q.1
    have hk := Nat.le_trans hk K5q.1
    have KK5 := K3.trans K5q all0
    refine own_toW T5 (mkF m 20 #[.val (.ref t2), .val (.int (Int32.ofNat q)), .val (.int (Int32.ofNat (j - q)))] [(.int (0 : Int32)), (.ref b5), (.ref b3), (.ref b3)]) (fun tq kq => st5 _ (XS.iconst X5.here hx rfl (hb hby d24_19) kq)) ?_
    obtain ⟨_, _, ⟨T10, L10, k10, n10⟩, -, X10, ⟨Lc10, hQ10, l10, y10, z10⟩, st10⟩ := X5.specialBack hx (y := (⟨"java/lang/String", "<init>", "([BB)V"⟩ : MethodName)) rfl hown (mvT hZ (own_w hw 136 rfl)) (mvT hZ (own_w hw 137 rfl)) (mvT hZ (own_w hw 138 rfl)) (by decide) (backOf (W := 1) (rmSB l Z a0 hw [] b3 b5 T5.heap n0 Zs5 f7 f8 f9 sz3) hZ (own_w hw 138 rfl) (own_w hw 7 rfl) (by decide) (by decide)) (g := (mkF m 20 #[.val (.ref t2), .val (.int (Int32.ofNat q)), .val (.int (Int32.ofNat (j - q)))] [(.int (0 : Int32)), (.ref b5), (.ref b3), (.ref b3)])) rfl (by rw [hml]; rfl) (Steps.refl _) (a := b3) (argsL := [(.ref b5), (.int (0 : Int32))]) (rest := [(.ref b3)]) (lenOf pd_22 rfl) rfl (by show 2 * 0 + _ ≤ _; exact Nat.le_of_eq rfl) (hb hby d24_20) (fun _ _ => ⟨rfl, rfl, (by decide : 2 + 0 ≤ _), (by decide : 7 + 0 ≤ _)⟩)
    dsimp only [Pt.U, Pt.locs, Pt.cells, Pt.slots] at X10 l10 y10 z10 st10 hQ10
    have l10y := l10.symm
    clear l10
    subst l10y
    obtain rfl : k10 = 2 := y10
    obtain rfl : n10 = 7 := z10
    obtain ⟨rfl, N10q, K10q⟩ := hQ10
    have N10 := Fr.app N5 N10q
    have Zs10 : n0 ≤ T10.heap.size := Nat.le_trans Zs5 K10q.1
    have hk := Nat.le_trans hk K10q.1
    have KK10 := KK5.trans K10q (allS (Or.inr hs3) all0)
    refine own_toW T10 (mkF m 23 #[.val (.ref t2), .val (.int (Int32.ofNat q)), .val (.int (Int32.ofNat (j - q)))] [(.ref b3)]) (fun tq kq => st10.trans kq) ?_
    exact own_retAW X10 hS hk hx hret hlk rfl rfl (hb hby d24_23) (by decide) (by decide) ⟨b3, rfl, N10, KK10⟩
theorem d23_0 : decode jdk_41_method_12_code 0 = .ok (.iload_n 0, 1) := by decide +kernel
theorem d23_1 : decode jdk_41_method_12_code 1 = .ok (.ifCond .lt 13, 3) := by decide +kernel
theorem d23_4 : decode jdk_41_method_12_code 4 = .ok (.iload_n 0, 1) := by decide +kernel
theorem d23_5 : decode jdk_41_method_12_code 5 = .ok (.iload_n 1, 1) := by decide +kernel
theorem d23_6 : decode jdk_41_method_12_code 6 = .ok (.if_icmp .gt 8, 3) := by decide +kernel
theorem d23_9 : decode jdk_41_method_12_code 9 = .ok (.iload_n 1, 1) := by decide +kernel
theorem d23_10 : decode jdk_41_method_12_code 10 = .ok (.iload_n 2, 1) := by decide +kernel
theorem d23_11 : decode jdk_41_method_12_code 11 = .ok (.if_icmp .le 11, 3) := by decide +kernel
theorem d23_14 : decode jdk_41_method_12_code 14 = .ok (.aload_n 3, 1) := by decide +kernel
theorem d23_15 : decode jdk_41_method_12_code 15 = .ok (.iload_n 0, 1) := by decide +kernel
theorem d23_16 : decode jdk_41_method_12_code 16 = .ok (.iload_n 1, 1) := by decide +kernel
theorem d23_17 : decode jdk_41_method_12_code 17 = .ok (.iload_n 2, 1) := by decide +kernel
theorem d23_18 : decode jdk_41_method_12_code 18 = .ok (.invokestatic 99, 3) := by decide +kernel
theorem d23_22 : decode jdk_41_method_12_code 22 = .ok (.iload_n 0, 1) := by decide +kernel
theorem d23_23 : decode jdk_41_method_12_code 23 = .ok (.ireturn, 1) := by decide +kernel
theorem ef_23_IIIV (m : MethodId) (x0 : Int32) (x1 : Int32) (x2 : Int32) (x3 : Value) (hx3 : x3.category = 1) : entryFrame m #[(.int x0), (.int x1), (.int x2), x3] 4 = mkF m 0 #[.val (.int x0), .val (.int x1), .val (.int x2), .val x3] [] := by first | (simp [entryFrame, mkF, argsToLocals, Value.category]; done) | rfl | (cases x3 <;> first | (cases hx3; done) | skip <;> rfl)
def Q_rmPF (Z : State) (q j n : Nat) (vF : Value) (h0 : Heap) (n0 : Nat) (v : Option Value) (h : Heap) (L : List Loc) : Prop := v = some (.int (Int32.ofNat q)) ∧ Fr n0 L ∧ h = h0
set_option maxRecDepth 65536 in
set_option maxHeartbeats 40000000 in
theorem rmPF (l : Launch) (Z : State) (a0 : Array Value) (hw : ∀ d ∈ tables_1, d.before a0 Z = true) (ws : List Jvm.Cond) (q j n : Nat) (vF : Value) (h0 : Heap) (n0 : Nat) (Z0 : n0 ≤ h0.size) (hvF : vF.isRef = true) (hj : q ≤ j) (hjn : j < n) (hn' : n ≤ 3) :
    MetFree l (⟨"jdk/internal/util/Preconditions", "checkFromToIndex", "(IIILjava/util/function/BiFunction;)I"⟩ : MethodName) (head1 (Jvm.Cond.code (⟨"jdk/internal/util/Preconditions", "checkFromToIndex", "(IIILjava/util/function/BiFunction;)I"⟩ : MethodName) jdk_41_method_12_code 4 (some .int) :: ws) ({ frames := 0, cells := 0, slots := 0, locals := 0 } : Room)) (fun a U => a = #[(.int (Int32.ofNat q)), (.int (Int32.ofNat j)), (.int (Int32.ofNat n)), vF] ∧ Z.Warmed39 U.vm ∧ U.heap = h0) (fun _ _ _ _ _ => True) (fun _ U o U' => ∃ v L, o = .returned v ∧ Q_rmPF Z q j n vF h0 n0 v U'.heap L ∧ FrameEnd U o U' L ({ frames := 0, cells := 0, slots := 0, locals := 0 } : Room).cells ({ frames := 0, cells := 0, slots := 0, locals := 0 } : Room).slots) := by
  refine own_met (y := (⟨"jdk/internal/util/Preconditions", "checkFromToIndex", "(IIILjava/util/function/BiFunction;)I"⟩ : MethodName)) (Q := (Q_rmPF Z q j n vF h0 n0)) (plainFor_of_name pn_32) fun p e s m below meth c s₁ X0 hx hby hml hret hlk hown hnm hZ e0 => ?_
  refine own_entry (ef_23_IIIV m (Int32.ofNat q) (Int32.ofNat j) (Int32.ofNat n) vF (own_cat1 hvF)) ?_
  refine own_to s₁ (mkF m 23 #[.val (.int (Int32.ofNat q)), .val (.int (Int32.ofNat j)), .val (.int (Int32.ofNat n)), .val vF] [(.int (Int32.ofNat q))]) (fun tq kq => XS.iloadN X0.here hx rfl (hb hby d23_0) rfl (XS.ifNo X0.here hx rfl (hb hby d23_1) rfl ((if0 _ _).trans (flt (own_nonneg (by omega))).1) (XS.iloadN X0.here hx rfl (hb hby d23_4) rfl (XS.iloadN X0.here hx rfl (hb hby d23_5) rfl (XS.icmpNo X0.here hx rfl (hb hby d23_6) rfl (flt (mt (own_ltn (by omega) (by omega)).mp (by omega))).2.2.1 (XS.iloadN X0.here hx rfl (hb hby d23_9) rfl (XS.iloadN X0.here hx rfl (hb hby d23_10) rfl (XS.icmpYes X0.here hx rfl (pc0 := 11) (pc' := 22) rfl (hb hby d23_11) rfl (flt (mt (own_ltn (by omega) (by omega)).mp (by omega))).2.2.2 (by decide) (by decide) (XS.iloadN X0.here hx rfl (hb hby d23_22) rfl kq))))))))) ?_
  exact own_retI X0 hx hret hlk (hb hby d23_23) (by decide) (by decide) ⟨rfl, (Fr.nil n0), e0⟩
theorem d22_0 : decode jdk_42_method_158_code 0 = .ok (.iload_n 0, 1) := by decide +kernel
theorem d22_1 : decode jdk_42_method_158_code 1 = .ok (.iload_n 1, 1) := by decide +kernel
theorem d22_2 : decode jdk_42_method_158_code 2 = .ok (.iload_n 2, 1) := by decide +kernel
theorem d22_3 : decode jdk_42_method_158_code 3 = .ok (.getstatic 1053, 3) := by decide +kernel
theorem d22_6 : decode jdk_42_method_158_code 6 = .ok (.invokestatic 1062, 3) := by decide +kernel
theorem d22_9 : decode jdk_42_method_158_code 9 = .ok (.pop, 1) := by decide +kernel
theorem d22_10 : decode jdk_42_method_158_code 10 = .ok (.return_, 1) := by decide +kernel
theorem ef_22_III (m : MethodId) (x0 : Int32) (x1 : Int32) (x2 : Int32) : entryFrame m #[(.int x0), (.int x1), (.int x2)] 3 = mkF m 0 #[.val (.int x0), .val (.int x1), .val (.int x2)] [] := by first | (simp [entryFrame, mkF, argsToLocals, Value.category]; done) | rfl
def Q_rmCB (Z : State) (q j n : Nat) (vF : Value) (h0 : Heap) (n0 : Nat) (v : Option Value) (h : Heap) (L : List Loc) : Prop := v = none ∧ Fr n0 L ∧ h = h0
theorem pd_17 : parseMethodDescriptor "(IIILjava/util/function/BiFunction;)I" = some ⟨[.int, .int, .int, (.object "java/util/function/BiFunction")], some .int⟩ := by decide +kernel
set_option maxRecDepth 65536 in
set_option maxHeartbeats 40000000 in
theorem rmCB (l : Launch) (Z : State) (a0 : Array Value) (hw : ∀ d ∈ tables_1, d.before a0 Z = true) (ws : List Jvm.Cond) (q j n : Nat) (vF : Value) (h0 : Heap) (n0 : Nat) (Z0 : n0 ≤ h0.size) (O4 : Sta Z h0 "jdk/internal/util/Preconditions" "SIOOBE_FORMATTER" "Ljava/util/function/BiFunction;" vF) (hvF : vF.isRef = true) (hj : q ≤ j) (hjn : j < n) (hn' : n ≤ 3) :
    MetFree l (⟨"java/lang/String", "checkBoundsBeginEnd", "(III)V"⟩ : MethodName) (head1 (Jvm.Cond.code (⟨"java/lang/String", "checkBoundsBeginEnd", "(III)V"⟩ : MethodName) jdk_42_method_158_code 3 none :: ws) ({ frames := 1, cells := 0, slots := 0, locals := 15 } : Room)) (fun a U => a = #[(.int (Int32.ofNat q)), (.int (Int32.ofNat j)), (.int (Int32.ofNat n))] ∧ Z.Warmed39 U.vm ∧ U.heap = h0) (fun _ _ _ _ _ => True) (fun _ U o U' => ∃ v L, o = .returned v ∧ Q_rmCB Z q j n vF h0 n0 v U'.heap L ∧ FrameEnd U o U' L ({ frames := 1, cells := 0, slots := 0, locals := 15 } : Room).cells ({ frames := 1, cells := 0, slots := 0, locals := 15 } : Room).slots) := by
  refine own_met (y := (⟨"java/lang/String", "checkBoundsBeginEnd", "(III)V"⟩ : MethodName)) (Q := (Q_rmCB Z q j n vF h0 n0)) (plainFor_of_name pn_8) fun p e s m below meth c s₁ X0 hx hby hml hret hlk hown hnm hZ e0 => ?_
  refine own_entry (ef_22_III m (Int32.ofNat q) (Int32.ofNat j) (Int32.ofNat n)) ?_
  refine own_to s₁ (mkF m 3 #[.val (.int (Int32.ofNat q)), .val (.int (Int32.ofNat j)), .val (.int (Int32.ofNat n))] [(.int (Int32.ofNat n)), (.int (Int32.ofNat j)), (.int (Int32.ofNat q))]) (fun tq kq => XS.iloadN X0.here hx rfl (hb hby d22_0) rfl (XS.iloadN X0.here hx rfl (hb hby d22_1) rfl (XS.iloadN X0.here hx rfl (hb hby d22_2) rfl kq))) ?_
  obtain ⟨T1, X1, e1, st1⟩ := getS2 X0 hx hZ hown (host := "") (Or.inl (own_w hw 111 rfl)) Via.refl e0 O4 (g := (mkF m 3 #[.val (.int (Int32.ofNat q)), .val (.int (Int32.ofNat j)), .val (.int (Int32.ofNat n))] [(.int (Int32.ofNat n)), (.int (Int32.ofNat j)), (.int (Int32.ofNat q))])) rfl (hb hby d22_3)
  refine own_to T1 (mkF m 6 #[.val (.int (Int32.ofNat q)), .val (.int (Int32.ofNat j)), .val (.int (Int32.ofNat n))] [vF, (.int (Int32.ofNat n)), (.int (Int32.ofNat j)), (.int (Int32.ofNat q))]) (fun tq kq => st1 _ kq) ?_
  obtain ⟨_, _, ⟨T2, L2, k2, n2⟩, -, X2, ⟨Lc2, hQ2, l2, y2, z2⟩, st2⟩ := Jvm.LawKit.callS X1 hx (y := (⟨"jdk/internal/util/Preconditions", "checkFromToIndex", "(IIILjava/util/function/BiFunction;)I"⟩ : MethodName)) hown (mvT hZ (own_w hw 113 rfl)) (mvT hZ (own_w hw 114 rfl)) (mvT hZ (own_w hw 112 rfl)) (mvT hZ (own_w hw 115 rfl)) (by decide) (backOf (W := 0) (rmPF l Z a0 hw [] q j n vF h0 n0 Z0 hvF hj hjn hn') hZ (own_w hw 115 rfl) (own_w hw 112 rfl) (by decide) (by decide)) (g := (mkF m 6 #[.val (.int (Int32.ofNat q)), .val (.int (Int32.ofNat j)), .val (.int (Int32.ofNat n))] [vF, (.int (Int32.ofNat n)), (.int (Int32.ofNat j)), (.int (Int32.ofNat q))])) rfl (by rw [hml]; rfl) (argsL := [(.int (Int32.ofNat q)), (.int (Int32.ofNat j)), (.int (Int32.ofNat n)), vF]) (rest := []) (lenOf pd_17 rfl) rfl (by show 2 * 0 + _ ≤ _; exact Nat.le_of_eq rfl) (hb hby d22_6) (fun _ _ => ⟨rfl, e1, (by decide : 0 + 0 ≤ _), (by decide : 0 + 0 ≤ _)⟩)
  dsimp only [Pt.U, Pt.locs, Pt.cells, Pt.slots] at X2 l2 y2 z2 st2 hQ2
  have l2y := l2.symm
  clear l2
  subst l2y
  obtain rfl : k2 = 0 := y2
  obtain rfl : n2 = 0 := z2
  obtain ⟨rfl, N2q, e2⟩ := hQ2
  have N2 := Fr.app (Fr.nil n0) N2q
  refine own_to T2 (mkF m 10 #[.val (.int (Int32.ofNat q)), .val (.int (Int32.ofNat j)), .val (.int (Int32.ofNat n))] []) (fun tq kq => st2 _ (XS.pop X2.here hx rfl (hb hby d22_9) rfl rfl kq)) ?_
  exact own_retV X2 hx hret hlk (hb hby d22_10) (by decide) (by decide) ⟨rfl, N2, e2⟩
theorem d21_0 : decode jdk_42_method_92_code 0 = .ok (.aload_n 0, 1) := by decide +kernel
theorem d21_1 : decode jdk_42_method_92_code 1 = .ok (.invokevirtual 505, 3) := by decide +kernel
theorem d21_4 : decode jdk_42_method_92_code 4 = .ok (.istore_n 3, 1) := by decide +kernel
theorem d21_5 : decode jdk_42_method_92_code 5 = .ok (.iload_n 1, 1) := by decide +kernel
theorem d21_6 : decode jdk_42_method_92_code 6 = .ok (.iload_n 2, 1) := by decide +kernel
theorem d21_7 : decode jdk_42_method_92_code 7 = .ok (.iload_n 3, 1) := by decide +kernel
theorem d21_8 : decode jdk_42_method_92_code 8 = .ok (.invokestatic 521, 3) := by decide +kernel
theorem d21_11 : decode jdk_42_method_92_code 11 = .ok (.iload_n 1, 1) := by decide +kernel
theorem d21_12 : decode jdk_42_method_92_code 12 = .ok (.ifCond .ne 10, 3) := by decide +kernel
theorem d21_15 : decode jdk_42_method_92_code 15 = .ok (.iload_n 2, 1) := by decide +kernel
theorem d21_16 : decode jdk_42_method_92_code 16 = .ok (.iload_n 3, 1) := by decide +kernel
theorem d21_17 : decode jdk_42_method_92_code 17 = .ok (.if_icmp .ne 5, 3) := by decide +kernel
theorem d21_20 : decode jdk_42_method_92_code 20 = .ok (.aload_n 0, 1) := by decide +kernel
theorem d21_21 : decode jdk_42_method_92_code 21 = .ok (.areturn, 1) := by decide +kernel
theorem d21_22 : decode jdk_42_method_92_code 22 = .ok (.iload_n 2, 1) := by decide +kernel
theorem d21_23 : decode jdk_42_method_92_code 23 = .ok (.iload_n 1, 1) := by decide +kernel
theorem d21_24 : decode jdk_42_method_92_code 24 = .ok (.isub, 1) := by decide +kernel
theorem d21_25 : decode jdk_42_method_92_code 25 = .ok (.istore 4, 2) := by decide +kernel
theorem d21_27 : decode jdk_42_method_92_code 27 = .ok (.aload_n 0, 1) := by decide +kernel
theorem d21_28 : decode jdk_42_method_92_code 28 = .ok (.invokevirtual 492, 3) := by decide +kernel
theorem d21_31 : decode jdk_42_method_92_code 31 = .ok (.ifCond .eq 16, 3) := by decide +kernel
theorem d21_34 : decode jdk_42_method_92_code 34 = .ok (.aload_n 0, 1) := by decide +kernel
theorem d21_35 : decode jdk_42_method_92_code 35 = .ok (.getfield 9, 3) := by decide +kernel
theorem d21_38 : decode jdk_42_method_92_code 38 = .ok (.iload_n 1, 1) := by decide +kernel
theorem d21_39 : decode jdk_42_method_92_code 39 = .ok (.iload 4, 2) := by decide +kernel
theorem d21_41 : decode jdk_42_method_92_code 41 = .ok (.invokestatic 685, 3) := by decide +kernel
theorem d21_44 : decode jdk_42_method_92_code 44 = .ok (.goto 13, 3) := by decide +kernel
theorem d21_47 : decode jdk_42_method_92_code 47 = .ok (.aload_n 0, 1) := by decide +kernel
theorem d21_48 : decode jdk_42_method_92_code 48 = .ok (.getfield 9, 3) := by decide +kernel
theorem d21_51 : decode jdk_42_method_92_code 51 = .ok (.iload_n 1, 1) := by decide +kernel
theorem d21_52 : decode jdk_42_method_92_code 52 = .ok (.iload 4, 2) := by decide +kernel
theorem d21_54 : decode jdk_42_method_92_code 54 = .ok (.invokestatic 689, 3) := by decide +kernel
theorem d21_57 : decode jdk_42_method_92_code 57 = .ok (.areturn, 1) := by decide +kernel
theorem ef_21_RII (m : MethodId) (x0 : Addr) (x1 : Int32) (x2 : Int32) : entryFrame m #[(.ref x0), (.int x1), (.int x2)] 5 = mkF m 0 #[.val (.ref x0), .val (.int x1), .val (.int x2), .unset, .unset] [] := by first | (simp [entryFrame, mkF, argsToLocals, Value.category]; done) | rfl
def Q_rmSub (Z : State) (a2 t2 : Addr) (q j n : Nat) (f : Nat → Int32) (G1 : Int32) (vF : Value) (h0 : Heap) (n0 : Nat) (v : Option Value) (h : Heap) (L : List Loc) : Prop := ∃ b, v = some (.ref b) ∧ Fr n0 L ∧ Keep h0 h []
theorem pd_16 : parseMethodDescriptor "(III)V" = some ⟨[.int, .int, .int], none⟩ := by decide +kernel
theorem pd_18 : parseMethodDescriptor "([BII)Ljava/lang/String;" = some ⟨[(.array .byte), .int, .int], some (.object "java/lang/String")⟩ := by decide +kernel
set_option maxRecDepth 65536 in
set_option maxHeartbeats 40000000 in
theorem rmSub (l : Launch) (Z : State) (a0 : Array Value) (hw : ∀ d ∈ tables_1, d.before a0 Z = true) (ws : List Jvm.Cond) (a2 t2 : Addr) (q j n : Nat) (f : Nat → Int32) (G1 : Int32) (vF : Value) (h0 : Heap) (n0 : Nat) (Z0 : n0 ≤ h0.size) (O2 : Sta Z h0 "java/lang/String" "COMPACT_STRINGS" "Z" (.int G1)) (hG : ¬ G1 = (0 : Int32)) (O4 : Sta Z h0 "jdk/internal/util/Preconditions" "SIOOBE_FORMATTER" "Ljava/util/function/BiFunction;" vF) (hvF : vF.isRef = true) (Ea2 : Exa Z h0 a2 "java/lang/String") (Fa2 : Fld Z h0 a2 "java/lang/String" "value" "[B" (.ref t2)) (Ca2 : Fld Z h0 a2 "java/lang/String" "coder" "B" (.int (0 : Int32))) (Aa2 : BArr Z h0 t2 n f) (hfb : ∀ i, i < n → fits .byte (.int (f i)) = true) (hj : q ≤ j) (hjn : j < n) (hn' : n ≤ 3) :
    MetFree l (⟨"java/lang/String", "substring", "(II)Ljava/lang/String;"⟩ : MethodName) (head1 (Jvm.Cond.code (⟨"java/lang/String", "substring", "(II)Ljava/lang/String;"⟩ : MethodName) jdk_42_method_92_code 5 (some (.object "java/lang/String")) :: ws) ({ frames := 4, cells := 2, slots := 8, locals := 140 } : Room)) (fun a U => a = #[(.ref a2), (.int (Int32.ofNat q)), (.int (Int32.ofNat j))] ∧ Z.Warmed39 U.vm ∧ U.heap = h0) (fun _ _ _ _ _ => True) (fun _ U o U' => ∃ v L, o = .returned v ∧ Q_rmSub Z a2 t2 q j n f G1 vF h0 n0 v U'.heap L ∧ ReturnedEndW U o U' L ({ frames := 4, cells := 2, slots := 8, locals := 140 } : Room).cells ({ frames := 4, cells := 2, slots := 8, locals := 140 } : Room).slots) := by
  refine own_metW (y := (⟨"java/lang/String", "substring", "(II)Ljava/lang/String;"⟩ : MethodName)) (Q := (Q_rmSub Z a2 t2 q j n f G1 vF h0 n0)) (plainFor_of_name pn_8) fun p e s m below meth c s₁ X0 hx hby hml hret hlk hown hnm hZ e0 hS => ?_
  have hk := Nat.le_refl h0.size
  refine own_entryW (ef_21_RII m a2 (Int32.ofNat q) (Int32.ofNat j)) ?_
  have K0 := Keep.refl h0 []
  refine own_toW s₁ (mkF m 1 #[.val (.ref a2), .val (.int (Int32.ofNat q)), .val (.int (Int32.ofNat j)), .unset, .unset] [(.ref a2)]) (fun tq kq => XS.aloadN X0.here hx rfl (hb hby d21_0) rfl rfl kq) ?_
  obtain ⟨cq1, kq1, q1a, q1b, q1c⟩ := isOf hZ e0 Ea2
  obtain ⟨_, _, ⟨T1, L1, k1, n1⟩, -, X1, ⟨Lc1, hQ1, l1, y1, z1⟩, st1⟩ := X0.virtualBack hx (y := (⟨"java/lang/String", "length", "()I"⟩ : MethodName)) (z := (⟨"java/lang/String", "length", "()I"⟩ : MethodName)) hown (mvT hZ (own_w hw 85 rfl)) (mvT hZ (own_w hw 43 rfl)) (notFace_of_selects (args := #[]) (mvT hZ (own_w hw 45 rfl))) (mvT hZ (own_w hw 45 rfl)) (mvT hZ (own_w hw 44 rfl)) (by decide) (backOf (W := 0) (rmLen l Z a0 hw [] a2 t2 n f G1 h0 n0 Z0 O2 hG Ea2 Fa2 Ca2 Aa2) hZ (own_w hw 46 rfl) (own_w hw 7 rfl) (by decide) (by decide)) q1a q1c (g := (mkF m 1 #[.val (.ref a2), .val (.int (Int32.ofNat q)), .val (.int (Int32.ofNat j)), .unset, .unset] [(.ref a2)])) rfl (by rw [hml]; rfl) (Steps.refl _) (argsL := []) (rest := []) (lenOf pd_6 rfl) rfl (by show 2 * 0 + _ ≤ _; exact Nat.le_of_eq rfl) (hb hby d21_1) (fun _ _ => ⟨rfl, e0, (by decide : 0 + 0 ≤ _), (by decide : 0 + 0 ≤ _)⟩)
  dsimp only [Pt.U, Pt.locs, Pt.cells, Pt.slots] at X1 l1 y1 z1 st1 hQ1
  have l1y := l1.symm
  clear l1
  subst l1y
  obtain rfl : k1 = 0 := y1
  obtain rfl : n1 = 0 := z1
  obtain ⟨rfl, N1q, e1⟩ := hQ1
  have N1 := Fr.app (Fr.nil n0) N1q
  refine own_toW T1 (mkF m 8 #[.val (.ref a2), .val (.int (Int32.ofNat q)), .val (.int (Int32.ofNat j)), .val (.int (Int32.ofNat n)), .unset] [(.int (Int32.ofNat n)), (.int (Int32.ofNat j)), (.int (Int32.ofNat q))]) (fun tq kq => st1.trans (XS.istoreN X1.here hx rfl (hb hby d21_4) rfl (l' := #[.val (.ref a2), .val (.int (Int32.ofNat q)), .val (.int (Int32.ofNat j)), .val (.int (Int32.ofNat n)), .unset]) rfl (XS.iloadN X1.here hx rfl (hb hby d21_5) rfl (XS.iloadN X1.here hx rfl (hb hby d21_6) rfl (XS.iloadN X1.here hx rfl (hb hby d21_7) rfl kq))))) ?_
  obtain ⟨_, _, ⟨T2, L2, k2, n2⟩, -, X2, ⟨Lc2, hQ2, l2, y2, z2⟩, st2⟩ := Jvm.LawKit.callS X1 hx (y := (⟨"java/lang/String", "checkBoundsBeginEnd", "(III)V"⟩ : MethodName)) hown (mvT hZ (own_w hw 108 rfl)) (mvT hZ (own_w hw 109 rfl)) (mvT hZ (own_w hw 7 rfl)) (mvT hZ (own_w hw 110 rfl)) (by decide) (backOf (W := 0) (rmCB l Z a0 hw [] q j n vF h0 n0 Z0 O4 hvF hj hjn hn') hZ (own_w hw 110 rfl) (own_w hw 7 rfl) (by decide) (by decide)) (g := (mkF m 8 #[.val (.ref a2), .val (.int (Int32.ofNat q)), .val (.int (Int32.ofNat j)), .val (.int (Int32.ofNat n)), .unset] [(.int (Int32.ofNat n)), (.int (Int32.ofNat j)), (.int (Int32.ofNat q))])) rfl (by rw [hml]; rfl) (argsL := [(.int (Int32.ofNat q)), (.int (Int32.ofNat j)), (.int (Int32.ofNat n))]) (rest := []) (lenOf pd_16 rfl) rfl (by show 2 * 0 + _ ≤ _; exact Nat.le_of_eq rfl) (hb hby d21_8) (fun _ _ => ⟨rfl, e1, (by decide : 0 + 0 ≤ _), (by decide : 0 + 0 ≤ _)⟩)
  dsimp only [Pt.U, Pt.locs, Pt.cells, Pt.slots] at X2 l2 y2 z2 st2 hQ2
  have l2y := l2.symm
  clear l2
  subst l2y
  obtain rfl : k2 = 0 := y2
  obtain rfl : n2 = 0 := z2
  obtain ⟨rfl, N2q, e2⟩ := hQ2
  have N2 := Fr.app N1 N2q
  refine own_toW T2 (mkF m 12 #[.val (.ref a2), .val (.int (Int32.ofNat q)), .val (.int (Int32.ofNat j)), .val (.int (Int32.ofNat n)), .unset] [(.int (Int32.ofNat q))]) (fun tq kq => st2 _ (XS.iloadN X2.here hx rfl (hb hby d21_11) rfl kq)) ?_
  by_cases c12 : (Int32.ofNat q) = (0 : Int32)
  · skip
    refine own_toW T2 (mkF m 25 #[.val (.ref a2), .val (.int (Int32.ofNat q)), .val (.int (Int32.ofNat j)), .val (.int (Int32.ofNat n)), .unset] [(.int ((Int32.ofNat j) - (Int32.ofNat q)))]) (fun tq kq => XS.ifNo X2.here hx rfl (hb hby d21_12) rfl ((if0 _ _).trans (teq c12).2) (XS.iloadN X2.here hx rfl (hb hby d21_15) rfl (XS.iloadN X2.here hx rfl (hb hby d21_16) rfl (XS.icmpYes X2.here hx rfl (pc0 := 17) (pc' := 22) rfl (hb hby d21_17) rfl (feq (mt (own_eqn (by omega) (by omega)).mp (by omega))).2 (by decide) (by decide) (XS.iloadN X2.here hx rfl (hb hby d21_22) rfl (XS.iloadN X2.here hx rfl (hb hby d21_23) rfl (XS.isub X2.here hx rfl (hb hby d21_24) rfl kq))))))) ?_
    rw [show ((Int32.ofNat j) - (Int32.ofNat q)) = (Int32.ofNat (j - q)) from own_subn j q hj (by omega)]
    refine own_toW T2 (mkF m 28 #[.val (.ref a2), .val (.int (Int32.ofNat q)), .val (.int (Int32.ofNat j)), .val (.int (Int32.ofNat n)), .val (.int (Int32.ofNat (j - q)))] [(.ref a2)]) (fun tq kq => XS.istore X2.here hx rfl (hb hby d21_25) rfl (l' := #[.val (.ref a2), .val (.int (Int32.ofNat q)), .val (.int (Int32.ofNat j)), .val (.int (Int32.ofNat n)), .val (.int (Int32.ofNat (j - q)))]) rfl (XS.aloadN X2.here hx rfl (hb hby d21_27) rfl rfl kq)) ?_
    obtain ⟨cq3, kq3, q3a, q3b, q3c⟩ := isOf hZ e2 Ea2
    obtain ⟨_, _, ⟨T3, L3, k3, n3⟩, -, X3, ⟨Lc3, hQ3, l3, y3, z3⟩, st3⟩ := X2.virtualBack hx (y := (⟨"java/lang/String", "isLatin1", "()Z"⟩ : MethodName)) (z := (⟨"java/lang/String", "isLatin1", "()Z"⟩ : MethodName)) hown (mvT hZ (own_w hw 80 rfl)) (mvT hZ (own_w hw 81 rfl)) (notFace_of_selects (args := #[]) (mvT hZ (own_w hw 83 rfl))) (mvT hZ (own_w hw 83 rfl)) (mvT hZ (own_w hw 82 rfl)) (by decide) (backOf (W := 0) (rmLat l Z a0 hw [] a2 G1 h0 n0 Z0 O2 hG Ca2) hZ (own_w hw 84 rfl) (own_w hw 7 rfl) (by decide) (by decide)) q3a q3c (g := (mkF m 28 #[.val (.ref a2), .val (.int (Int32.ofNat q)), .val (.int (Int32.ofNat j)), .val (.int (Int32.ofNat n)), .val (.int (Int32.ofNat (j - q)))] [(.ref a2)])) rfl (by rw [hml]; rfl) (Steps.refl _) (argsL := []) (rest := []) (lenOf pd_5 rfl) rfl (by show 2 * 0 + _ ≤ _; exact Nat.le_of_eq rfl) (hb hby d21_28) (fun _ _ => ⟨rfl, e2, (by decide : 0 + 0 ≤ _), (by decide : 0 + 0 ≤ _)⟩)
    dsimp only [Pt.U, Pt.locs, Pt.cells, Pt.slots] at X3 l3 y3 z3 st3 hQ3
    have l3y := l3.symm
    clear l3
    subst l3y
    obtain rfl : k3 = 0 := y3
    obtain rfl : n3 = 0 := z3
    obtain ⟨rfl, N3q, e3⟩ := hQ3
    have N3 := Fr.app N2 N3q
    refine own_toW T3 (mkF m 35 #[.val (.ref a2), .val (.int (Int32.ofNat q)), .val (.int (Int32.ofNat j)), .val (.int (Int32.ofNat n)), .val (.int (Int32.ofNat (j - q)))] [(.ref a2)]) (fun tq kq => st3.trans (XS.ifNo X3.here hx rfl (hb hby d21_31) rfl ((if0 _ _).trans (feq (by decide : ¬ ((1 : Int32) = (0 : Int32)))).1) (XS.aloadN X3.here hx rfl (hb hby d21_34) rfl rfl kq))) ?_
    obtain ⟨T4, X4, e4, st4⟩ := getF X3 hx hZ hown (host := "") (Or.inl (own_w hw 24 rfl)) Via.refl e3 Fa2 (g := (mkF m 35 #[.val (.ref a2), .val (.int (Int32.ofNat q)), .val (.int (Int32.ofNat j)), .val (.int (Int32.ofNat n)), .val (.int (Int32.ofNat (j - q)))] [(.ref a2)])) rfl rfl (hb hby d21_35)
    refine own_toW T4 (mkF m 41 #[.val (.ref a2), .val (.int (Int32.ofNat q)), .val (.int (Int32.ofNat j)), .val (.int (Int32.ofNat n)), .val (.int (Int32.ofNat (j - q)))] [(.int (Int32.ofNat (j - q))), (.int (Int32.ofNat q)), (.ref t2)]) (fun tq kq => st4 _ (XS.iloadN X4.here hx rfl (hb hby d21_38) rfl (XS.iload X4.here hx rfl (hb hby d21_39) rfl kq))) ?_
    obtain ⟨_, _, ⟨T5, L5, k5, n5⟩, -, X5, hS5, hgr5, ⟨Lc5, hQ5, l5, y5, z5⟩, st5⟩ := callSS X4 hx (y := (⟨"java/lang/StringLatin1", "newString", "([BII)Ljava/lang/String;"⟩ : MethodName)) hown (mvT hZ (own_w hw 116 rfl)) (mvT hZ (own_w hw 117 rfl)) (mvT hZ (own_w hw 88 rfl)) (mvT hZ (own_w hw 118 rfl)) (by decide) (backOfS (W := 0) (rmNS l Z a0 hw [] t2 q j n f h0 n0 Z0 Aa2 hfb hj hjn hn') hZ (own_w hw 118 rfl) (own_w hw 88 rfl) (by decide) (by decide)) (g := (mkF m 41 #[.val (.ref a2), .val (.int (Int32.ofNat q)), .val (.int (Int32.ofNat j)), .val (.int (Int32.ofNat n)), .val (.int (Int32.ofNat (j - q)))] [(.int (Int32.ofNat (j - q))), (.int (Int32.ofNat q)), (.ref t2)])) rfl (by rw [hml]; rfl) (argsL := [(.ref t2), (.int (Int32.ofNat q)), (.int (Int32.ofNat (j - q)))]) (rest := []) (lenOf pd_18 rfl) rfl (by show 2 * 0 + _ ≤ _; exact Nat.le_of_eq rfl) (hb hby d21_41) (fun _ _ => ⟨rfl, e4, (by decide : 0 + 2 ≤ _), (by decide : 0 + 8 ≤ _)⟩)
    dsimp only [Pt.U, Pt.locs, Pt.cells, Pt.slots] at X5 l5 y5 z5 st5 hQ5
    have l5y := l5.symm
    clear l5
    subst l5y
    obtain rfl : k5 = 2 := y5
    obtain rfl : n5 = 8 := z5
    dsimp only [Pt.U, Pt.locs, Pt.cells, Pt.slots] at hS5 hgr5
    obtain ⟨X5, hS, hZ, hown⟩ := rebS hS hk X5 hS5 (by rw [← e4]; exact hgr5) hZ hown
    have hk := Nat.le_refl T5.heap.size
    obtain ⟨b5, rfl, N5q, K5q⟩ := hQ5
    have N5 := Fr.app N3 N5q
    have Zs5 : n0 ≤ T5.heap.size := Nat.le_trans Z0 K5q.1
    have KK5 := K0.trans K5q all0
    refine own_toW T5 (mkF m 57 #[.val (.ref a2), .val (.int (Int32.ofNat q)), .val (.int (Int32.ofNat j)), .val (.int (Int32.ofNat n)), .val (.int (Int32.ofNat (j - q)))] [(.ref b5)]) (fun tq kq => st5.trans (XS.goto X5.here hx rfl (pc0 := 44) (pc' := 57) rfl (hb hby d21_44) (by decide) (by decide) kq)) ?_
    exact own_retAW X5 hS hk hx hret hlk rfl rfl (hb hby d21_57) (by decide) (by decide) ⟨b5, rfl, N5, KK5⟩
  · skip
    refine own_toW T2 (mkF m 25 #[.val (.ref a2), .val (.int (Int32.ofNat q)), .val (.int (Int32.ofNat j)), .val (.int (Int32.ofNat n)), .unset] [(.int ((Int32.ofNat j) - (Int32.ofNat q)))]) (fun tq kq => XS.ifYes X2.here hx rfl (pc0 := 12) (pc' := 22) rfl (hb hby d21_12) rfl ((if0 _ _).trans (feq c12).2) (by decide) (by decide) (XS.iloadN X2.here hx rfl (hb hby d21_22) rfl (XS.iloadN X2.here hx rfl (hb hby d21_23) rfl (XS.isub X2.here hx rfl (hb hby d21_24) rfl kq)))) ?_
    rw [show ((Int32.ofNat j) - (Int32.ofNat q)) = (Int32.ofNat (j - q)) from own_subn j q hj (by omega)]
    refine own_toW T2 (mkF m 28 #[.val (.ref a2), .val (.int (Int32.ofNat q)), .val (.int (Int32.ofNat j)), .val (.int (Int32.ofNat n)), .val (.int (Int32.ofNat (j - q)))] [(.ref a2)]) (fun tq kq => XS.istore X2.here hx rfl (hb hby d21_25) rfl (l' := #[.val (.ref a2), .val (.int (Int32.ofNat q)), .val (.int (Int32.ofNat j)), .val (.int (Int32.ofNat n)), .val (.int (Int32.ofNat (j - q)))]) rfl (XS.aloadN X2.here hx rfl (hb hby d21_27) rfl rfl kq)) ?_
    obtain ⟨cq6, kq6, q6a, q6b, q6c⟩ := isOf hZ e2 Ea2
    obtain ⟨_, _, ⟨T6, L6, k6, n6⟩, -, X6, ⟨Lc6, hQ6, l6, y6, z6⟩, st6⟩ := X2.virtualBack hx (y := (⟨"java/lang/String", "isLatin1", "()Z"⟩ : MethodName)) (z := (⟨"java/lang/String", "isLatin1", "()Z"⟩ : MethodName)) hown (mvT hZ (own_w hw 80 rfl)) (mvT hZ (own_w hw 81 rfl)) (notFace_of_selects (args := #[]) (mvT hZ (own_w hw 83 rfl))) (mvT hZ (own_w hw 83 rfl)) (mvT hZ (own_w hw 82 rfl)) (by decide) (backOf (W := 0) (rmLat l Z a0 hw [] a2 G1 h0 n0 Z0 O2 hG Ca2) hZ (own_w hw 84 rfl) (own_w hw 7 rfl) (by decide) (by decide)) q6a q6c (g := (mkF m 28 #[.val (.ref a2), .val (.int (Int32.ofNat q)), .val (.int (Int32.ofNat j)), .val (.int (Int32.ofNat n)), .val (.int (Int32.ofNat (j - q)))] [(.ref a2)])) rfl (by rw [hml]; rfl) (Steps.refl _) (argsL := []) (rest := []) (lenOf pd_5 rfl) rfl (by show 2 * 0 + _ ≤ _; exact Nat.le_of_eq rfl) (hb hby d21_28) (fun _ _ => ⟨rfl, e2, (by decide : 0 + 0 ≤ _), (by decide : 0 + 0 ≤ _)⟩)
    dsimp only [Pt.U, Pt.locs, Pt.cells, Pt.slots] at X6 l6 y6 z6 st6 hQ6
    have l6y := l6.symm
    clear l6
    subst l6y
    obtain rfl : k6 = 0 := y6
    obtain rfl : n6 = 0 := z6
    obtain ⟨rfl, N6q, e6⟩ := hQ6
    have N6 := Fr.app N2 N6q
    refine own_toW T6 (mkF m 35 #[.val (.ref a2), .val (.int (Int32.ofNat q)), .val (.int (Int32.ofNat j)), .val (.int (Int32.ofNat n)), .val (.int (Int32.ofNat (j - q)))] [(.ref a2)]) (fun tq kq => st6.trans (XS.ifNo X6.here hx rfl (hb hby d21_31) rfl ((if0 _ _).trans (feq (by decide : ¬ ((1 : Int32) = (0 : Int32)))).1) (XS.aloadN X6.here hx rfl (hb hby d21_34) rfl rfl kq))) ?_
    obtain ⟨T7, X7, e7, st7⟩ := getF X6 hx hZ hown (host := "") (Or.inl (own_w hw 24 rfl)) Via.refl e6 Fa2 (g := (mkF m 35 #[.val (.ref a2), .val (.int (Int32.ofNat q)), .val (.int (Int32.ofNat j)), .val (.int (Int32.ofNat n)), .val (.int (Int32.ofNat (j - q)))] [(.ref a2)])) rfl rfl (hb hby d21_35)
    refine own_toW T7 (mkF m 41 #[.val (.ref a2), .val (.int (Int32.ofNat q)), .val (.int (Int32.ofNat j)), .val (.int (Int32.ofNat n)), .val (.int (Int32.ofNat (j - q)))] [(.int (Int32.ofNat (j - q))), (.int (Int32.ofNat q)), (.ref t2)]) (fun tq kq => st7 _ (XS.iloadN X7.here hx rfl (hb hby d21_38) rfl (XS.iload X7.here hx rfl (hb hby d21_39) rfl kq))) ?_
    obtain ⟨_, _, ⟨T8, L8, k8, n8⟩, -, X8, hS8, hgr8, ⟨Lc8, hQ8, l8, y8, z8⟩, st8⟩ := callSS X7 hx (y := (⟨"java/lang/StringLatin1", "newString", "([BII)Ljava/lang/String;"⟩ : MethodName)) hown (mvT hZ (own_w hw 116 rfl)) (mvT hZ (own_w hw 117 rfl)) (mvT hZ (own_w hw 88 rfl)) (mvT hZ (own_w hw 118 rfl)) (by decide) (backOfS (W := 0) (rmNS l Z a0 hw [] t2 q j n f h0 n0 Z0 Aa2 hfb hj hjn hn') hZ (own_w hw 118 rfl) (own_w hw 88 rfl) (by decide) (by decide)) (g := (mkF m 41 #[.val (.ref a2), .val (.int (Int32.ofNat q)), .val (.int (Int32.ofNat j)), .val (.int (Int32.ofNat n)), .val (.int (Int32.ofNat (j - q)))] [(.int (Int32.ofNat (j - q))), (.int (Int32.ofNat q)), (.ref t2)])) rfl (by rw [hml]; rfl) (argsL := [(.ref t2), (.int (Int32.ofNat q)), (.int (Int32.ofNat (j - q)))]) (rest := []) (lenOf pd_18 rfl) rfl (by show 2 * 0 + _ ≤ _; exact Nat.le_of_eq rfl) (hb hby d21_41) (fun _ _ => ⟨rfl, e7, (by decide : 0 + 2 ≤ _), (by decide : 0 + 8 ≤ _)⟩)
    dsimp only [Pt.U, Pt.locs, Pt.cells, Pt.slots] at X8 l8 y8 z8 st8 hQ8
    have l8y := l8.symm
    clear l8
    subst l8y
    obtain rfl : k8 = 2 := y8
    obtain rfl : n8 = 8 := z8
    dsimp only [Pt.U, Pt.locs, Pt.cells, Pt.slots] at hS8 hgr8
    obtain ⟨X8, hS, hZ, hown⟩ := rebS hS hk X8 hS8 (by rw [← e7]; exact hgr8) hZ hown
    have hk := Nat.le_refl T8.heap.size
    obtain ⟨b8, rfl, N8q, K8q⟩ := hQ8
    have N8 := Fr.app N6 N8q
    have Zs8 : n0 ≤ T8.heap.size := Nat.le_trans Z0 K8q.1
    have KK8 := K0.trans K8q all0
    refine own_toW T8 (mkF m 57 #[.val (.ref a2), .val (.int (Int32.ofNat q)), .val (.int (Int32.ofNat j)), .val (.int (Int32.ofNat n)), .val (.int (Int32.ofNat (j - q)))] [(.ref b8)]) (fun tq kq => st8.trans (XS.goto X8.here hx rfl (pc0 := 44) (pc' := 57) rfl (hb hby d21_44) (by decide) (by decide) kq)) ?_
    exact own_retAW X8 hS hk hx hret hlk rfl rfl (hb hby d21_57) (by decide) (by decide) ⟨b8, rfl, N8, KK8⟩
theorem d13_0 : decode prog_11_method_11_code 0 = .ok (.aload_n 0, 1) := by decide +kernel
theorem d13_1 : decode prog_11_method_11_code 1 = .ok (.getfield 7, 3) := by decide +kernel
theorem d13_4 : decode prog_11_method_11_code 4 = .ok (.iload_n 1, 1) := by decide +kernel
theorem d13_5 : decode prog_11_method_11_code 5 = .ok (.aload_n 0, 1) := by decide +kernel
theorem d13_6 : decode prog_11_method_11_code 6 = .ok (.getfield 13, 3) := by decide +kernel
theorem d13_9 : decode prog_11_method_11_code 9 = .ok (.invokevirtual 77, 3) := by decide +kernel
theorem d13_12 : decode prog_11_method_11_code 12 = .ok (.istore_n 2, 1) := by decide +kernel
theorem d13_13 : decode prog_11_method_11_code 13 = .ok (.iload_n 2, 1) := by decide +kernel
theorem d13_14 : decode prog_11_method_11_code 14 = .ok (.ifCond .ge 18, 3) := by decide +kernel
theorem d13_17 : decode prog_11_method_11_code 17 = .ok (.aload_n 0, 1) := by decide +kernel
theorem d13_18 : decode prog_11_method_11_code 18 = .ok (.iload_n 1, 1) := by decide +kernel
theorem d13_19 : decode prog_11_method_11_code 19 = .ok (.aload_n 0, 1) := by decide +kernel
theorem d13_20 : decode prog_11_method_11_code 20 = .ok (.getfield 13, 3) := by decide +kernel
theorem d13_28 : decode prog_11_method_11_code 28 = .ok (.invokevirtual 49, 3) := by decide +kernel
theorem d13_32 : decode prog_11_method_11_code 32 = .ok (.aload_n 0, 1) := by decide +kernel
theorem d13_33 : decode prog_11_method_11_code 33 = .ok (.getfield 7, 3) := by decide +kernel
theorem d13_36 : decode prog_11_method_11_code 36 = .ok (.aload_n 0, 1) := by decide +kernel
theorem d13_37 : decode prog_11_method_11_code 37 = .ok (.getfield 13, 3) := by decide +kernel
theorem d13_40 : decode prog_11_method_11_code 40 = .ok (.iload_n 2, 1) := by decide +kernel
theorem d13_41 : decode prog_11_method_11_code 41 = .ok (.invokevirtual 59, 3) := by decide +kernel
theorem d13_44 : decode prog_11_method_11_code 44 = .ok (.astore_n 3, 1) := by decide +kernel
theorem d13_45 : decode prog_11_method_11_code 45 = .ok (.aload_n 0, 1) := by decide +kernel
theorem d13_46 : decode prog_11_method_11_code 46 = .ok (.iload_n 2, 1) := by decide +kernel
theorem d13_47 : decode prog_11_method_11_code 47 = .ok (.iconst 1, 1) := by decide +kernel
theorem d13_48 : decode prog_11_method_11_code 48 = .ok (.iadd, 1) := by decide +kernel
theorem d13_49 : decode prog_11_method_11_code 49 = .ok (.putfield 13, 3) := by decide +kernel
theorem d13_52 : decode prog_11_method_11_code 52 = .ok (.aload_n 3, 1) := by decide +kernel
theorem d13_53 : decode prog_11_method_11_code 53 = .ok (.areturn, 1) := by decide +kernel
theorem ef_13_RI (m : MethodId) (x0 : Addr) (x1 : Int32) : entryFrame m #[(.ref x0), (.int x1)] 4 = mkF m 0 #[.val (.ref x0), .val (.int x1), .unset, .unset] [] := by first | (simp [entryFrame, mkF, argsToLocals, Value.category]; done) | rfl
def Q_rmTB (Z : State) (a1 a2 t2 : Addr) (q j n : Nat) (f : Nat → Int32) (ch G1 : Int32) (vF : Value) (h0 : Heap) (n0 : Nat) (v : Option Value) (h : Heap) (L : List Loc) : Prop := ∃ b, v = some (.ref b) ∧ Fr n0 L ∧ Keep h0 h [a1] ∧ Exa Z h a1 "com/example/wayline/wayline/HeaderReader" ∧ Fld Z h a1 "com/example/wayline/wayline/HeaderReader" "value" "Ljava/lang/String;" (.ref a2) ∧ Fld Z h a1 "com/example/wayline/wayline/HeaderReader" "position" "I" (.int (Int32.ofNat (j + 1)))
theorem pd_15 : parseMethodDescriptor "(II)Ljava/lang/String;" = some ⟨[.int, .int], some (.object "java/lang/String")⟩ := by decide +kernel
set_option maxRecDepth 65536 in
set_option maxHeartbeats 40000000 in
theorem rmTB (l : Launch) (Z : State) (a0 : Array Value) (hw : ∀ d ∈ tables_1, d.before a0 Z = true) (ws : List Jvm.Cond) (a1 a2 t2 : Addr) (q j n : Nat) (f : Nat → Int32) (ch G1 : Int32) (vF : Value) (h0 : Heap) (n0 : Nat) (Z0 : n0 ≤ h0.size) (O2 : Sta Z h0 "java/lang/String" "COMPACT_STRINGS" "Z" (.int G1)) (hG : ¬ G1 = (0 : Int32)) (O4 : Sta Z h0 "jdk/internal/util/Preconditions" "SIOOBE_FORMATTER" "Ljava/util/function/BiFunction;" vF) (hvF : vF.isRef = true) (Ea1 : Exa Z h0 a1 "com/example/wayline/wayline/HeaderReader") (Fv1 : Fld Z h0 a1 "com/example/wayline/wayline/HeaderReader" "value" "Ljava/lang/String;" (.ref a2)) (Fp1 : Fld Z h0 a1 "com/example/wayline/wayline/HeaderReader" "position" "I" (.int (Int32.ofNat q))) (Ea2 : Exa Z h0 a2 "java/lang/String") (Fa2 : Fld Z h0 a2 "java/lang/String" "value" "[B" (.ref t2)) (Ca2 : Fld Z h0 a2 "java/lang/String" "coder" "B" (.int (0 : Int32))) (Aa2 : BArr Z h0 t2 n f) (hfb : ∀ i, i < n → fits .byte (.int (f i)) = true) (hp0 : ¬ ch < (0 : Int32)) (hp1 : ¬ (255 : Int32) < ch) (hj : q ≤ j) (hjn : j < n) (hn' : n ≤ 3) (hfj : f j = (ch.toInt8.toInt32)) (hff : ∀ i, q ≤ i → i < j → ¬ f i = (ch.toInt8.toInt32)) (g_a1 : n0 ≤ a1) :
    MetFree l (⟨"com/example/wayline/wayline/HeaderReader", "textBefore", "(C)Ljava/lang/String;"⟩ : MethodName) (head1 (Jvm.Cond.code (⟨"com/example/wayline/wayline/HeaderReader", "textBefore", "(C)Ljava/lang/String;"⟩ : MethodName) prog_11_method_11_code 4 (some (.object "java/lang/String")) :: ws) ({ frames := 5, cells := 2, slots := 8, locals := 180 } : Room)) (fun a U => a = #[(.ref a1), (.int ch)] ∧ Z.Warmed39 U.vm ∧ U.heap = h0) (fun _ _ _ _ _ => True) (fun _ U o U' => ∃ v L, o = .returned v ∧ Q_rmTB Z a1 a2 t2 q j n f ch G1 vF h0 n0 v U'.heap L ∧ ReturnedEndW U o U' L ({ frames := 5, cells := 2, slots := 8, locals := 180 } : Room).cells ({ frames := 5, cells := 2, slots := 8, locals := 180 } : Room).slots) := by
  refine own_metW (y := (⟨"com/example/wayline/wayline/HeaderReader", "textBefore", "(C)Ljava/lang/String;"⟩ : MethodName)) (Q := (Q_rmTB Z a1 a2 t2 q j n f ch G1 vF h0 n0)) (plainFor_of_name pn_5) fun p e s m below meth c s₁ X0 hx hby hml hret hlk hown hnm hZ e0 hS => ?_
  have hk := Nat.le_refl h0.size
  refine own_entryW (ef_13_RI m a1 ch) ?_
  have K0 := Keep.refl h0 [a1]
  refine own_toW s₁ (mkF m 1 #[.val (.ref a1), .val (.int ch), .unset, .unset] [(.ref a1)]) (fun tq kq => XS.aloadN X0.here hx rfl (hb hby d13_0) rfl rfl kq) ?_
  obtain ⟨T1, X1, e1, st1⟩ := getF X0 hx hZ hown (host := "") (Or.inl (own_w hw 33 rfl)) Via.refl e0 Fv1 (g := (mkF m 1 #[.val (.ref a1), .val (.int ch), .unset, .unset] [(.ref a1)])) rfl rfl (hb hby d13_1)
  refine own_toW T1 (mkF m 6 #[.val (.ref a1), .val (.int ch), .unset, .unset] [(.ref a1), (.int ch), (.ref a2)]) (fun tq kq => st1 _ (XS.iloadN X1.here hx rfl (hb hby d13_4) rfl (XS.aloadN X1.here hx rfl (hb hby d13_5) rfl rfl kq))) ?_
  obtain ⟨T2, X2, e2, st2⟩ := getF X1 hx hZ hown (host := "") (Or.inl (own_w hw 40 rfl)) Via.refl e1 Fp1 (g := (mkF m 6 #[.val (.ref a1), .val (.int ch), .unset, .unset] [(.ref a1), (.int ch), (.ref a2)])) rfl rfl (hb hby d13_6)
  refine own_toW T2 (mkF m 9 #[.val (.ref a1), .val (.int ch), .unset, .unset] [(.int (Int32.ofNat q)), (.int ch), (.ref a2)]) (fun tq kq => st2 _ kq) ?_
  obtain ⟨cq3, kq3, q3a, q3b, q3c⟩ := isOf hZ e2 Ea2
  obtain ⟨_, _, ⟨T3, L3, k3, n3⟩, -, X3, ⟨Lc3, hQ3, l3, y3, z3⟩, st3⟩ := X2.virtualBack hx (y := (⟨"java/lang/String", "indexOf", "(II)I"⟩ : MethodName)) (z := (⟨"java/lang/String", "indexOf", "(II)I"⟩ : MethodName)) hown (mvT hZ (own_w hw 75 rfl)) (mvT hZ (own_w hw 76 rfl)) (notFace_of_selects (args := #[]) (mvT hZ (own_w hw 78 rfl))) (mvT hZ (own_w hw 78 rfl)) (mvT hZ (own_w hw 77 rfl)) (by decide) (backOf (W := 0) (rmIx l Z a0 hw [] a2 t2 G1 q j n f ch h0 n0 Z0 O2 hG Ea2 Fa2 Ca2 Aa2 hp0 hp1 hj hjn (by omega) hfj hff) hZ (own_w hw 79 rfl) (own_w hw 7 rfl) (by decide) (by decide)) q3a q3c (g := (mkF m 9 #[.val (.ref a1), .val (.int ch), .unset, .unset] [(.int (Int32.ofNat q)), (.int ch), (.ref a2)])) rfl (by rw [hml]; rfl) (Steps.refl _) (argsL := [(.int ch), (.int (Int32.ofNat q))]) (rest := []) (lenOf pd_12 rfl) rfl (by show 2 * 0 + _ ≤ _; exact Nat.le_of_eq rfl) (hb hby d13_9) (fun _ _ => ⟨rfl, e2, (by decide : 0 + 0 ≤ _), (by decide : 0 + 0 ≤ _)⟩)
  dsimp only [Pt.U, Pt.locs, Pt.cells, Pt.slots] at X3 l3 y3 z3 st3 hQ3
  have l3y := l3.symm
  clear l3
  subst l3y
  obtain rfl : k3 = 0 := y3
  obtain rfl : n3 = 0 := z3
  obtain ⟨rfl, N3q, e3⟩ := hQ3
  have N3 := Fr.app (Fr.nil n0) N3q
  refine own_toW T3 (mkF m 33 #[.val (.ref a1), .val (.int ch), .val (.int (Int32.ofNat j)), .unset] [(.ref a1)]) (fun tq kq => st3.trans (XS.istoreN X3.here hx rfl (hb hby d13_12) rfl (l' := #[.val (.ref a1), .val (.int ch), .val (.int (Int32.ofNat j)), .unset]) rfl (XS.iloadN X3.here hx rfl (hb hby d13_13) rfl (XS.ifYes X3.here hx rfl (pc0 := 14) (pc' := 32) rfl (hb hby d13_14) rfl ((if0 _ _).trans (flt (own_nonneg (by omega))).2.1) (by decide) (by decide) (XS.aloadN X3.here hx rfl (hb hby d13_32) rfl rfl kq))))) ?_
  obtain ⟨T4, X4, e4, st4⟩ := getF X3 hx hZ hown (host := "") (Or.inl (own_w hw 33 rfl)) Via.refl e3 Fv1 (g := (mkF m 33 #[.val (.ref a1), .val (.int ch), .val (.int (Int32.ofNat j)), .unset] [(.ref a1)])) rfl rfl (hb hby d13_33)
  refine own_toW T4 (mkF m 37 #[.val (.ref a1), .val (.int ch), .val (.int (Int32.ofNat j)), .unset] [(.ref a1), (.ref a2)]) (fun tq kq => st4 _ (XS.aloadN X4.here hx rfl (hb hby d13_36) rfl rfl kq)) ?_
  obtain ⟨T5, X5, e5, st5⟩ := getF X4 hx hZ hown (host := "") (Or.inl (own_w hw 40 rfl)) Via.refl e4 Fp1 (g := (mkF m 37 #[.val (.ref a1), .val (.int ch), .val (.int (Int32.ofNat j)), .unset] [(.ref a1), (.ref a2)])) rfl rfl (hb hby d13_37)
  refine own_toW T5 (mkF m 41 #[.val (.ref a1), .val (.int ch), .val (.int (Int32.ofNat j)), .unset] [(.int (Int32.ofNat j)), (.int (Int32.ofNat q)), (.ref a2)]) (fun tq kq => st5 _ (XS.iloadN X5.here hx rfl (hb hby d13_40) rfl kq)) ?_
  obtain ⟨cq6, kq6, q6a, q6b, q6c⟩ := isOf hZ e5 Ea2
  obtain ⟨_, _, ⟨T6, L6, k6, n6⟩, -, X6, hS6, hgr6, ⟨Lc6, hQ6, l6, y6, z6⟩, st6⟩ := X5.virtualBackS hx (y := (⟨"java/lang/String", "substring", "(II)Ljava/lang/String;"⟩ : MethodName)) (z := (⟨"java/lang/String", "substring", "(II)Ljava/lang/String;"⟩ : MethodName)) hown (mvT hZ (own_w hw 103 rfl)) (mvT hZ (own_w hw 104 rfl)) (notFace_of_selects (args := #[]) (mvT hZ (own_w hw 106 rfl))) (mvT hZ (own_w hw 106 rfl)) (mvT hZ (own_w hw 105 rfl)) (by decide) (backOfS (W := 0) (rmSub l Z a0 hw [] a2 t2 q j n f G1 vF h0 n0 Z0 O2 hG O4 hvF Ea2 Fa2 Ca2 Aa2 hfb hj hjn hn') hZ (own_w hw 107 rfl) (own_w hw 7 rfl) (by decide) (by decide)) q6a q6c (g := (mkF m 41 #[.val (.ref a1), .val (.int ch), .val (.int (Int32.ofNat j)), .unset] [(.int (Int32.ofNat j)), (.int (Int32.ofNat q)), (.ref a2)])) rfl (by rw [hml]; rfl) (Steps.refl _) (argsL := [(.int (Int32.ofNat q)), (.int (Int32.ofNat j))]) (rest := []) (lenOf pd_15 rfl) rfl (by show 2 * 0 + _ ≤ _; exact Nat.le_of_eq rfl) (hb hby d13_41) (fun _ _ => ⟨rfl, e5, (by decide : 0 + 2 ≤ _), (by decide : 0 + 8 ≤ _)⟩)
  dsimp only [Pt.U, Pt.locs, Pt.cells, Pt.slots] at X6 l6 y6 z6 st6 hQ6
  have l6y := l6.symm
  clear l6
  subst l6y
  obtain rfl : k6 = 2 := y6
  obtain rfl : n6 = 8 := z6
  dsimp only [Pt.U, Pt.locs, Pt.cells, Pt.slots] at hS6 hgr6
  obtain ⟨X6, hS, hZ, hown⟩ := rebS hS hk X6 hS6 (by rw [← e5]; exact hgr6) hZ hown
  have hk := Nat.le_refl T6.heap.size
  obtain ⟨b6, rfl, N6q, K6q⟩ := hQ6
  have N6 := Fr.app N3 N6q
  have f7 := Ea1.keep K6q
  have f8 := Fv1.keep K6q nin0
  have f9 := Fp1.keep K6q nin0
  have Zs6 : n0 ≤ T6.heap.size := Nat.le_trans Z0 K6q.1
  have KK6 := K0.trans K6q all0
  refine own_toW T6 (mkF m 49 #[.val (.ref a1), .val (.int ch), .val (.int (Int32.ofNat j)), .val (.ref b6)] [(.int ((Int32.ofNat j) + (1 : Int32))), (.ref a1)]) (fun tq kq => st6.trans (XS.astoreN X6.here hx rfl (hb hby d13_44) rfl rfl (l' := #[.val (.ref a1), .val (.int ch), .val (.int (Int32.ofNat j)), .val (.ref b6)]) rfl (XS.aloadN X6.here hx rfl (hb hby d13_45) rfl rfl (XS.iloadN X6.here hx rfl (hb hby d13_46) rfl (XS.iconst X6.here hx rfl (hb hby d13_47) (XS.iadd X6.here hx rfl (hb hby d13_48) rfl kq)))))) ?_
  rw [show ((Int32.ofNat j) + (1 : Int32)) = (Int32.ofNat (j + 1)) from own_addn j 1 (by omega) (by decide)]
  obtain ⟨T10, h10, X10, e10, W10, st10⟩ := putF X6 hx hZ hown (host := "") (Or.inl (own_w hw 40 rfl)) Via.refl rfl f9 f7 (Or.inl (own_w hw 41 rfl)) (own_w hw 27 rfl) (ty := .int) (by decide) rfl rfl (g := (mkF m 49 #[.val (.ref a1), .val (.int ch), .val (.int (Int32.ofNat j)), .val (.ref b6)] [(.int (Int32.ofNat (j + 1))), (.ref a1)])) rfl rfl (hb hby d13_49)
  have f11 := f7.wr W10
  have f12 := f8.other W10 (Or.inr (sn_value_position hw))
  have f13 := f9.same W10
  have N10 := Fr.snoc X10 N6 g_a1
  have Zs10 : n0 ≤ h10.size := by rw [W10.size]; exact Zs6
  have K10 := KK6.wr W10 (Or.inl (List.mem_of_getElem? (i := 0) rfl))
  have hk := Nat.le_trans hk (Nat.le_of_eq W10.size.symm)
  refine own_toW T10 (mkF m 53 #[.val (.ref a1), .val (.int ch), .val (.int (Int32.ofNat j)), .val (.ref b6)] [(.ref b6)]) (fun tq kq => st10 _ (XS.aloadN X10.here hx rfl (hb hby d13_52) rfl rfl kq)) ?_
  exact own_retAW X10 hS (by rw [e10]; exact hk) hx hret hlk rfl rfl (hb hby d13_53) (by decide) (by decide) (by rw [e10]; exact ⟨b6, rfl, N10, K10, f11, f12, f13⟩)
theorem own_chr (x : Int32) : ¬ ((x &&& (255 : Int32)).toUInt32.toUInt16.toUInt32.toInt32) < (0 : Int32) ∧ ¬ (255 : Int32) < ((x &&& (255 : Int32)).toUInt32.toUInt16.toUInt32.toInt32) := by
  rw [i2c_mask]
  have b := c_and x (255 : Int32) (by decide)
  have z : (255 : Int32).toInt = 255 := by decide
  have z0 : (0 : Int32).toInt = 0 := by decide
  rw [Int32.lt_iff_toInt_lt, Int32.lt_iff_toInt_lt]
  omega
theorem d1_0 : decode method_2_code 0 = .ok (.iload_n 0, 1) := by decide +kernel
theorem d1_1 : decode method_2_code 1 = .ok (.bipush 8, 2) := by decide +kernel
theorem d1_3 : decode method_2_code 3 = .ok (.iushr, 1) := by decide +kernel
theorem d1_4 : decode method_2_code 4 = .ok (.iconst 3, 1) := by decide +kernel
theorem d1_5 : decode method_2_code 5 = .ok (.iand, 1) := by decide +kernel
theorem d1_6 : decode method_2_code 6 = .ok (.istore_n 1, 1) := by decide +kernel
theorem d1_7 : decode method_2_code 7 = .ok (.iload_n 1, 1) := by decide +kernel
theorem d1_8 : decode method_2_code 8 = .ok (.ifCond .ne 6, 3) := by decide +kernel
theorem d1_11 : decode method_2_code 11 = .ok (.bipush 32, 2) := by decide +kernel
theorem d1_13 : decode method_2_code 13 = .ok (.ireturn, 1) := by decide +kernel
theorem d1_14 : decode method_2_code 14 = .ok (.iload_n 1, 1) := by decide +kernel
theorem d1_15 : decode method_2_code 15 = .ok (.iconst 1, 1) := by decide +kernel
theorem d1_16 : decode method_2_code 16 = .ok (.if_icmp .ne 6, 3) := by decide +kernel
theorem d1_19 : decode method_2_code 19 = .ok (.bipush 9, 2) := by decide +kernel
theorem d1_21 : decode method_2_code 21 = .ok (.ireturn, 1) := by decide +kernel
theorem d1_22 : decode method_2_code 22 = .ok (.iload_n 0, 1) := by decide +kernel
theorem d1_23 : decode method_2_code 23 = .ok (.sipush 255, 3) := by decide +kernel
theorem d1_26 : decode method_2_code 26 = .ok (.iand, 1) := by decide +kernel
theorem d1_27 : decode method_2_code 27 = .ok (.i2c, 1) := by decide +kernel
theorem d1_28 : decode method_2_code 28 = .ok (.ireturn, 1) := by decide +kernel
theorem pn_1 : plainName "com/example/wayline/wayline/HeaderReaderAtEndPinLaw" = true := by first | (simp [plainName, overriddenIn]; done) | decide +kernel
theorem ef_1_I (m : MethodId) (x0 : Int32) : entryFrame m #[(.int x0)] 2 = mkF m 0 #[.val (.int x0), .unset] [] := by first | (simp [entryFrame, mkF, argsToLocals, Value.category]; done) | rfl
def Q_rmDraw (Z : State) (x0 : Int32) (h0 : Heap) (n0 : Nat) (v : Option Value) (h : Heap) (L : List Loc) : Prop := ∃ y, v = some (.int y) ∧ (¬ y < (0 : Int32) ∧ ¬ (255 : Int32) < y) ∧ Fr n0 L ∧ h = h0
set_option maxRecDepth 65536 in
set_option maxHeartbeats 40000000 in
theorem rmDraw (l : Launch) (Z : State) (a0 : Array Value) (hw : ∀ d ∈ tables_1, d.before a0 Z = true) (ws : List Jvm.Cond) (x0 : Int32) (h0 : Heap) (n0 : Nat) (Z0 : n0 ≤ h0.size)  :
    MetFree l (⟨"com/example/wayline/wayline/HeaderReaderAtEndPinLaw", "draw", "(I)C"⟩ : MethodName) (head1 (Jvm.Cond.code (⟨"com/example/wayline/wayline/HeaderReaderAtEndPinLaw", "draw", "(I)C"⟩ : MethodName) method_2_code 2 (some .char) :: ws) ({ frames := 0, cells := 0, slots := 0, locals := 0 } : Room)) (fun a U => a = #[(.int x0)] ∧ Z.Warmed39 U.vm ∧ U.heap = h0) (fun _ _ _ _ _ => True) (fun _ U o U' => ∃ v L, o = .returned v ∧ Q_rmDraw Z x0 h0 n0 v U'.heap L ∧ FrameEnd U o U' L ({ frames := 0, cells := 0, slots := 0, locals := 0 } : Room).cells ({ frames := 0, cells := 0, slots := 0, locals := 0 } : Room).slots) := by
  refine own_met (y := (⟨"com/example/wayline/wayline/HeaderReaderAtEndPinLaw", "draw", "(I)C"⟩ : MethodName)) (Q := (Q_rmDraw Z x0 h0 n0)) (plainFor_of_name pn_1) fun p e s m below meth c s₁ X0 hx hby hml hret hlk hown hnm hZ e0 => ?_
  refine own_entry (ef_1_I m x0) ?_
  refine own_to s₁ (mkF m 8 #[.val (.int x0), .val (.int (((x0.toUInt32 >>> ((8 : Int32) &&& 31).toUInt32).toInt32) &&& (3 : Int32)))] [(.int (((x0.toUInt32 >>> ((8 : Int32) &&& 31).toUInt32).toInt32) &&& (3 : Int32)))]) (fun tq kq => XS.iloadN X0.here hx rfl (hb hby d1_0) rfl (XS.bipush X0.here hx rfl (hb hby d1_1) (XS.iushr X0.here hx rfl (hb hby d1_3) rfl (XS.iconst X0.here hx rfl (hb hby d1_4) (XS.iand X0.here hx rfl (hb hby d1_5) rfl (XS.istoreN X0.here hx rfl (hb hby d1_6) rfl (l' := #[.val (.int x0), .val (.int (((x0.toUInt32 >>> ((8 : Int32) &&& 31).toUInt32).toInt32) &&& (3 : Int32)))]) rfl (XS.iloadN X0.here hx rfl (hb hby d1_7) rfl kq))))))) ?_
  by_cases c8 : (((x0.toUInt32 >>> ((8 : Int32) &&& 31).toUInt32).toInt32) &&& (3 : Int32)) = (0 : Int32)
  · skip
    refine own_to s₁ (mkF m 13 #[.val (.int x0), .val (.int (((x0.toUInt32 >>> ((8 : Int32) &&& 31).toUInt32).toInt32) &&& (3 : Int32)))] [(.int (32 : Int32))]) (fun tq kq => XS.ifNo X0.here hx rfl (hb hby d1_8) rfl ((if0 _ _).trans (teq c8).2) (XS.bipush X0.here hx rfl (hb hby d1_11) kq)) ?_
    exact own_retC X0 hx hret hlk (hb hby d1_13) (by decide) (by decide) (by decide) ⟨(32 : Int32), rfl, ⟨by decide, by decide⟩, (Fr.nil n0), e0⟩
  · skip
    refine own_to s₁ (mkF m 16 #[.val (.int x0), .val (.int (((x0.toUInt32 >>> ((8 : Int32) &&& 31).toUInt32).toInt32) &&& (3 : Int32)))] [(.int (1 : Int32)), (.int (((x0.toUInt32 >>> ((8 : Int32) &&& 31).toUInt32).toInt32) &&& (3 : Int32)))]) (fun tq kq => XS.ifYes X0.here hx rfl (pc0 := 8) (pc' := 14) rfl (hb hby d1_8) rfl ((if0 _ _).trans (feq c8).2) (by decide) (by decide) (XS.iloadN X0.here hx rfl (hb hby d1_14) rfl (XS.iconst X0.here hx rfl (hb hby d1_15) kq))) ?_
    by_cases c16 : (((x0.toUInt32 >>> ((8 : Int32) &&& 31).toUInt32).toInt32) &&& (3 : Int32)) = (1 : Int32)
    · skip
      refine own_to s₁ (mkF m 21 #[.val (.int x0), .val (.int (((x0.toUInt32 >>> ((8 : Int32) &&& 31).toUInt32).toInt32) &&& (3 : Int32)))] [(.int (9 : Int32))]) (fun tq kq => XS.icmpNo X0.here hx rfl (hb hby d1_16) rfl (teq c16).2 (XS.bipush X0.here hx rfl (hb hby d1_19) kq)) ?_
      exact own_retC X0 hx hret hlk (hb hby d1_21) (by decide) (by decide) (by decide) ⟨(9 : Int32), rfl, ⟨by decide, by decide⟩, (Fr.nil n0), e0⟩
    · skip
      refine own_to s₁ (mkF m 28 #[.val (.int x0), .val (.int (((x0.toUInt32 >>> ((8 : Int32) &&& 31).toUInt32).toInt32) &&& (3 : Int32)))] [(.int ((x0 &&& (255 : Int32)).toUInt32.toUInt16.toUInt32.toInt32))]) (fun tq kq => XS.icmpYes X0.here hx rfl (pc0 := 16) (pc' := 22) rfl (hb hby d1_16) rfl (feq c16).2 (by decide) (by decide) (XS.iloadN X0.here hx rfl (hb hby d1_22) rfl (XS.sipush X0.here hx rfl (hb hby d1_23) (XS.iand X0.here hx rfl (hb hby d1_26) rfl (XS.i2c X0.here hx rfl (hb hby d1_27) rfl kq))))) ?_
      exact own_retC X0 hx hret hlk (hb hby d1_28) (by decide) (by decide) (own_i2cc rfl) ⟨((x0 &&& (255 : Int32)).toUInt32.toUInt16.toUInt32.toInt32), rfl, (own_chr _), (Fr.nil n0), e0⟩
theorem d33_0 : decode method_3_code 0 = .ok (.iload_n 0, 1) := by decide +kernel
theorem d33_1 : decode method_3_code 1 = .ok (.bipush 32, 2) := by decide +kernel
theorem d33_3 : decode method_3_code 3 = .ok (.if_icmp .eq 9, 3) := by decide +kernel
theorem d33_6 : decode method_3_code 6 = .ok (.iload_n 0, 1) := by decide +kernel
theorem d33_7 : decode method_3_code 7 = .ok (.bipush 9, 2) := by decide +kernel
theorem d33_9 : decode method_3_code 9 = .ok (.if_icmp .ne 7, 3) := by decide +kernel
theorem d33_12 : decode method_3_code 12 = .ok (.iconst 1, 1) := by decide +kernel
theorem d33_13 : decode method_3_code 13 = .ok (.goto 4, 3) := by decide +kernel
theorem d33_16 : decode method_3_code 16 = .ok (.iconst 0, 1) := by decide +kernel
theorem d33_17 : decode method_3_code 17 = .ok (.ireturn, 1) := by decide +kernel
theorem ef_33_I (m : MethodId) (x0 : Int32) : entryFrame m #[(.int x0)] 1 = mkF m 0 #[.val (.int x0)] [] := by first | (simp [entryFrame, mkF, argsToLocals, Value.category]; done) | rfl
def Q_rmWs1 (Z : State) (y : Int32) (h0 : Heap) (n0 : Nat) (v : Option Value) (h : Heap) (L : List Loc) : Prop := v = some (.int (1 : Int32)) ∧ Fr n0 L ∧ h = h0
set_option maxRecDepth 65536 in
set_option maxHeartbeats 40000000 in
theorem rmWs1 (l : Launch) (Z : State) (a0 : Array Value) (hw : ∀ d ∈ tables_1, d.before a0 Z = true) (ws : List Jvm.Cond) (y : Int32) (h0 : Heap) (n0 : Nat) (Z0 : n0 ≤ h0.size) (hy : own_ws y) :
    MetFree l (⟨"com/example/wayline/wayline/HeaderReaderAtEndPinLaw", "ws", "(C)Z"⟩ : MethodName) (head1 (Jvm.Cond.code (⟨"com/example/wayline/wayline/HeaderReaderAtEndPinLaw", "ws", "(C)Z"⟩ : MethodName) method_3_code 1 (some .boolean) :: ws) ({ frames := 0, cells := 0, slots := 0, locals := 0 } : Room)) (fun a U => a = #[(.int y)] ∧ Z.Warmed39 U.vm ∧ U.heap = h0) (fun _ _ _ _ _ => True) (fun _ U o U' => ∃ v L, o = .returned v ∧ Q_rmWs1 Z y h0 n0 v U'.heap L ∧ FrameEnd U o U' L ({ frames := 0, cells := 0, slots := 0, locals := 0 } : Room).cells ({ frames := 0, cells := 0, slots := 0, locals := 0 } : Room).slots) := by
  refine own_met (y := (⟨"com/example/wayline/wayline/HeaderReaderAtEndPinLaw", "ws", "(C)Z"⟩ : MethodName)) (Q := (Q_rmWs1 Z y h0 n0)) (plainFor_of_name pn_1) fun p e s m below meth c s₁ X0 hx hby hml hret hlk hown hnm hZ e0 => ?_
  refine own_entry (ef_33_I m y) ?_
  rcases hy with rfl | rfl
  · skip
    refine own_to s₁ (mkF m 17 #[.val (.int (32 : Int32))] [(.int (1 : Int32))]) (fun tq kq => XS.iloadN X0.here hx rfl (hb hby d33_0) rfl (XS.bipush X0.here hx rfl (hb hby d33_1) (XS.icmpYes X0.here hx rfl (pc0 := 3) (pc' := 12) rfl (hb hby d33_3) rfl (teq (by decide : (32 : Int32) = (32 : Int32))).1 (by decide) (by decide) (XS.iconst X0.here hx rfl (hb hby d33_12) (XS.goto X0.here hx rfl (pc0 := 13) (pc' := 17) rfl (hb hby d33_13) (by decide) (by decide) kq))))) ?_
    exact own_retZ X0 hx hret hlk (hb hby d33_17) (by decide) (by decide) (Or.inr rfl) ⟨rfl, (Fr.nil n0), e0⟩
  · skip
    refine own_to s₁ (mkF m 17 #[.val (.int (9 : Int32))] [(.int (1 : Int32))]) (fun tq kq => XS.iloadN X0.here hx rfl (hb hby d33_0) rfl (XS.bipush X0.here hx rfl (hb hby d33_1) (XS.icmpNo X0.here hx rfl (hb hby d33_3) rfl (feq (by decide : ¬ ((9 : Int32) = (32 : Int32)))).1 (XS.iloadN X0.here hx rfl (hb hby d33_6) rfl (XS.bipush X0.here hx rfl (hb hby d33_7) (XS.icmpNo X0.here hx rfl (hb hby d33_9) rfl (teq (by decide : (9 : Int32) = (9 : Int32))).2 (XS.iconst X0.here hx rfl (hb hby d33_12) (XS.goto X0.here hx rfl (pc0 := 13) (pc' := 17) rfl (hb hby d33_13) (by decide) (by decide) kq)))))))) ?_
    exact own_retZ X0 hx hret hlk (hb hby d33_17) (by decide) (by decide) (Or.inr rfl) ⟨rfl, (Fr.nil n0), e0⟩
def Q_rmWs0 (Z : State) (y : Int32) (h0 : Heap) (n0 : Nat) (v : Option Value) (h : Heap) (L : List Loc) : Prop := v = some (.int (0 : Int32)) ∧ Fr n0 L ∧ h = h0
set_option maxRecDepth 65536 in
set_option maxHeartbeats 40000000 in
theorem rmWs0 (l : Launch) (Z : State) (a0 : Array Value) (hw : ∀ d ∈ tables_1, d.before a0 Z = true) (ws : List Jvm.Cond) (y : Int32) (h0 : Heap) (n0 : Nat) (Z0 : n0 ≤ h0.size) (hy : ¬ own_ws y) :
    MetFree l (⟨"com/example/wayline/wayline/HeaderReaderAtEndPinLaw", "ws", "(C)Z"⟩ : MethodName) (head1 (Jvm.Cond.code (⟨"com/example/wayline/wayline/HeaderReaderAtEndPinLaw", "ws", "(C)Z"⟩ : MethodName) method_3_code 1 (some .boolean) :: ws) ({ frames := 0, cells := 0, slots := 0, locals := 0 } : Room)) (fun a U => a = #[(.int y)] ∧ Z.Warmed39 U.vm ∧ U.heap = h0) (fun _ _ _ _ _ => True) (fun _ U o U' => ∃ v L, o = .returned v ∧ Q_rmWs0 Z y h0 n0 v U'.heap L ∧ FrameEnd U o U' L ({ frames := 0, cells := 0, slots := 0, locals := 0 } : Room).cells ({ frames := 0, cells := 0, slots := 0, locals := 0 } : Room).slots) := by
  refine own_met (y := (⟨"com/example/wayline/wayline/HeaderReaderAtEndPinLaw", "ws", "(C)Z"⟩ : MethodName)) (Q := (Q_rmWs0 Z y h0 n0)) (plainFor_of_name pn_1) fun p e s m below meth c s₁ X0 hx hby hml hret hlk hown hnm hZ e0 => ?_
  refine own_entry (ef_33_I m y) ?_
  refine own_to s₁ (mkF m 17 #[.val (.int y)] [(.int (0 : Int32))]) (fun tq kq => XS.iloadN X0.here hx rfl (hb hby d33_0) rfl (XS.bipush X0.here hx rfl (hb hby d33_1) (XS.icmpNo X0.here hx rfl (hb hby d33_3) rfl (feq (fun z => hy (Or.inl z))).1 (XS.iloadN X0.here hx rfl (hb hby d33_6) rfl (XS.bipush X0.here hx rfl (hb hby d33_7) (XS.icmpYes X0.here hx rfl (pc0 := 9) (pc' := 16) rfl (hb hby d33_9) rfl (feq (fun z => hy (Or.inr z))).2 (by decide) (by decide) (XS.iconst X0.here hx rfl (hb hby d33_16) kq))))))) ?_
  exact own_retZ X0 hx hret hlk (hb hby d33_17) (by decide) (by decide) (Or.inl rfl) ⟨rfl, (Fr.nil n0), e0⟩
theorem d3_0 : decode jdk_42_method_149_code 0 = .ok (.aload_n 0, 1) := by decide +kernel
theorem d3_1 : decode jdk_42_method_149_code 1 = .ok (.invokespecial 1, 3) := by decide +kernel
theorem d3_4 : decode jdk_42_method_149_code 4 = .ok (.iload_n 3, 1) := by decide +kernel
theorem d3_5 : decode jdk_42_method_149_code 5 = .ok (.ifCond .ne 22, 3) := by decide +kernel
theorem d3_8 : decode jdk_42_method_149_code 8 = .ok (.aload_n 0, 1) := by decide +kernel
theorem d3_9 : decode jdk_42_method_149_code 9 = .ok (.ldc 7, 2) := by decide +kernel
theorem d3_11 : decode jdk_42_method_149_code 11 = .ok (.getfield 9, 3) := by decide +kernel
theorem d3_14 : decode jdk_42_method_149_code 14 = .ok (.putfield 9, 3) := by decide +kernel
theorem d3_17 : decode jdk_42_method_149_code 17 = .ok (.aload_n 0, 1) := by decide +kernel
theorem d3_18 : decode jdk_42_method_149_code 18 = .ok (.ldc 7, 2) := by decide +kernel
theorem d3_20 : decode jdk_42_method_149_code 20 = .ok (.getfield 15, 3) := by decide +kernel
theorem d3_23 : decode jdk_42_method_149_code 23 = .ok (.putfield 15, 3) := by decide +kernel
theorem d3_26 : decode jdk_42_method_149_code 26 = .ok (.return_, 1) := by decide +kernel
theorem d3_27 : decode jdk_42_method_149_code 27 = .ok (.getstatic 38, 3) := by decide +kernel
theorem d3_30 : decode jdk_42_method_149_code 30 = .ok (.ifCond .eq 28, 3) := by decide +kernel
theorem d3_33 : decode jdk_42_method_149_code 33 = .ok (.aload_n 1, 1) := by decide +kernel
theorem d3_34 : decode jdk_42_method_149_code 34 = .ok (.iload_n 2, 1) := by decide +kernel
theorem d3_35 : decode jdk_42_method_149_code 35 = .ok (.iload_n 3, 1) := by decide +kernel
theorem d3_36 : decode jdk_42_method_149_code 36 = .ok (.invokestatic 177, 3) := by decide +kernel
theorem d3_39 : decode jdk_42_method_149_code 39 = .ok (.astore 5, 2) := by decide +kernel
theorem d3_41 : decode jdk_42_method_149_code 41 = .ok (.aload_n 0, 1) := by decide +kernel
theorem d3_42 : decode jdk_42_method_149_code 42 = .ok (.aload 5, 2) := by decide +kernel
theorem d3_44 : decode jdk_42_method_149_code 44 = .ok (.iload_n 3, 1) := by decide +kernel
theorem d3_45 : decode jdk_42_method_149_code 45 = .ok (.invokestatic 47, 3) := by decide +kernel
theorem d3_48 : decode jdk_42_method_149_code 48 = .ok (.putfield 15, 3) := by decide +kernel
theorem d3_51 : decode jdk_42_method_149_code 51 = .ok (.aload_n 0, 1) := by decide +kernel
theorem d3_52 : decode jdk_42_method_149_code 52 = .ok (.aload 5, 2) := by decide +kernel
theorem d3_54 : decode jdk_42_method_149_code 54 = .ok (.putfield 9, 3) := by decide +kernel
theorem d3_57 : decode jdk_42_method_149_code 57 = .ok (.return_, 1) := by decide +kernel
theorem d3_58 : decode jdk_42_method_149_code 58 = .ok (.aload_n 0, 1) := by decide +kernel
theorem d3_59 : decode jdk_42_method_149_code 59 = .ok (.iconst 1, 1) := by decide +kernel
theorem d3_60 : decode jdk_42_method_149_code 60 = .ok (.putfield 15, 3) := by decide +kernel
theorem d3_63 : decode jdk_42_method_149_code 63 = .ok (.aload_n 0, 1) := by decide +kernel
theorem d3_64 : decode jdk_42_method_149_code 64 = .ok (.aload_n 1, 1) := by decide +kernel
theorem d3_65 : decode jdk_42_method_149_code 65 = .ok (.iload_n 2, 1) := by decide +kernel
theorem d3_66 : decode jdk_42_method_149_code 66 = .ok (.iload_n 3, 1) := by decide +kernel
theorem d3_67 : decode jdk_42_method_149_code 67 = .ok (.invokestatic 180, 3) := by decide +kernel
theorem d3_70 : decode jdk_42_method_149_code 70 = .ok (.putfield 9, 3) := by decide +kernel
theorem d3_73 : decode jdk_42_method_149_code 73 = .ok (.return_, 1) := by decide +kernel
theorem ef_3_RRIIRn (m : MethodId) (x0 : Addr) (x1 : Addr) (x2 : Int32) (x3 : Int32) : entryFrame m #[(.ref x0), (.ref x1), (.int x2), (.int x3), .null] 6 = mkF m 0 #[.val (.ref x0), .val (.ref x1), .val (.int x2), .val (.int x3), .val .null, .unset] [] := by first | (simp [entryFrame, mkF, argsToLocals, Value.category]; done) | rfl
def Q_rmS0v (Z : State) (a1 a2 : Addr) (h0 : Heap) (n0 : Nat) (v : Option Value) (h : Heap) (L : List Loc) : Prop := v = none ∧ Fr n0 L ∧ Keep h0 h [a1] ∧ Exa Z h a1 "java/lang/String" ∧ Fld Z h a1 "java/lang/String" "coder" "B" (.int (0 : Int32)) ∧ ∃ t f, Fld Z h a1 "java/lang/String" "value" "[B" (.ref t) ∧ BArr Z h t 0 f ∧ own_ne a1 t
set_option maxRecDepth 65536 in
set_option maxHeartbeats 40000000 in
theorem rmS0v (l : Launch) (Z : State) (a0 : Array Value) (hw : ∀ d ∈ tables_1, d.before a0 Z = true) (ws : List Jvm.Cond) (a1 a2 : Addr) (h0 : Heap) (n0 : Nat) (Z0 : n0 ≤ h0.size) (hEL : EW Z a0 consts_1) (Ea1 : Exa Z h0 a1 "java/lang/String") (F1 : Fld Z h0 a1 "java/lang/String" "value" "[B" .null) (F2 : Fld Z h0 a1 "java/lang/String" "coder" "B" (.int (0 : Int32))) (g_a1 : n0 ≤ a1) :
    MetFree l (⟨"java/lang/String", "<init>", "([CIILjava/lang/Void;)V"⟩ : MethodName) (head1 (Jvm.Cond.code (⟨"java/lang/String", "<init>", "([CIILjava/lang/Void;)V"⟩ : MethodName) jdk_42_method_149_code 6 none :: ws) ({ frames := 1, cells := 4, slots := 8, locals := 12 } : Room)) (fun a U => a = #[(.ref a1), (.ref a2), (.int (0 : Int32)), (.int (0 : Int32)), .null] ∧ Z.Warmed39 U.vm ∧ U.heap = h0 ∧ CHv Z consts_1 U.vm h0 ∧ Safe Z consts_1 U.vm h0 a1) (fun _ _ _ _ _ => True) (fun _ U o U' => ∃ v L, o = .returned v ∧ Q_rmS0v Z a1 a2 h0 n0 v U'.heap L ∧ CHr Z consts_1 U.vm U.heap U'.vm U'.heap ∧ ReturnedEndW U o U' L ({ frames := 1, cells := 4, slots := 8, locals := 12 } : Room).cells ({ frames := 1, cells := 4, slots := 8, locals := 12 } : Room).slots) := by
  refine own_metHS (EL := consts_1) (xs := a1) (y := (⟨"java/lang/String", "<init>", "([CIILjava/lang/Void;)V"⟩ : MethodName)) (Q := (Q_rmS0v Z a1 a2 h0 n0)) (plainFor_of_name pn_8) fun p e s m below meth c s₁ X0 hx hby hml hret hlk hown hnm hZ e0 hS C0 Sf0 => ?_
  have hk := Nat.le_refl h0.size
  refine own_entryH (ef_3_RRIIRn m a1 a2 (0 : Int32) (0 : Int32)) ?_
  have own_wS : ∀ a ∈ Bundle.stringAtoms, a.before a0 Z = true := fun a ha => hw a (own_sub a ha)
  have K0 := Keep.refl h0 [a1]
  refine own_toH s₁ (mkF m 1 #[.val (.ref a1), .val (.ref a2), .val (.int (0 : Int32)), .val (.int (0 : Int32)), .val .null, .unset] [(.ref a1)]) (fun tq kq => XS.aloadN X0.here hx rfl (hb hby d3_0) rfl rfl kq) ?_
  obtain ⟨T1, X1, e1, st1⟩ := initO X0 hx hZ hown (own_w hw 15 rfl) (own_w hw 16 rfl) (own_w hw 17 rfl) e0 (g := (mkF m 1 #[.val (.ref a1), .val (.ref a2), .val (.int (0 : Int32)), .val (.int (0 : Int32)), .val .null, .unset] [(.ref a1)])) rfl (by rw [hml]; rfl) rfl (hb hby d3_1) (by decide) (W := 0) (by show 2 * 0 + _ ≤ _; exact Nat.le_of_eq rfl) (by decide)
  refine own_toH T1 (mkF m 9 #[.val (.ref a1), .val (.ref a2), .val (.int (0 : Int32)), .val (.int (0 : Int32)), .val .null, .unset] [(.ref a1)]) (fun tq kq => st1 _ (XS.iloadN X1.here hx rfl (hb hby d3_4) rfl (XS.ifNo X1.here hx rfl (hb hby d3_5) rfl ((if0 _ _).trans (teq (by decide : (0 : Int32) = (0 : Int32))).2) (XS.aloadN X1.here hx rfl (hb hby d3_8) rfl rfl kq)))) ?_
  have lt2_a1 := Ea1.lt
  obtain ⟨b2, T2, h2, k2, t2, kc2, X2, e2, E2, hS, hk, hZ, hown, Eb2, Cb2, Vb2, Ab2, la2, lb2, hC2, hL2, hsf2, st2⟩ := ldcCH X1 hx hZ hown (own_w hw 18 rfl) own_wS e1 hS hk hEL (by decide) C0.1 (vs := ([] : List Int32).map Value.int) (z := Int32.ofNat 0) ⟨by decide, by decide⟩ (by decide) (by decide) (g := (mkF m 9 #[.val (.ref a1), .val (.ref a2), .val (.int (0 : Int32)), .val (.int (0 : Int32)), .val .null, .unset] [(.ref a1)])) rfl (hb hby d3_9) (n := 0) (by decide) (by decide) (by decide) (by decide)
  have f3 := hC2.safe lt2_a1 Sf0
  have f4 := Ea1.ext E2
  have f5 := F1.ext E2
  have f6 := F2.ext E2
  have Zs2 : n0 ≤ h2.size := Nat.le_trans Z0 E2.1
  have K2 := K0.ext E2
  have C2 := C0.trans hC2
  have Vt2 : BArr Z h2 t2 0 (fun i => ([] : List Int32).getD i 0) := own_barr Ab2 (by decide) (by decide)
  have ne_a1_b2 := (hsf2 _ f3).1
  have ne_a1_t2 := (hsf2 _ f3).2
  refine own_toH T2 (mkF m 11 #[.val (.ref a1), .val (.ref a2), .val (.int (0 : Int32)), .val (.int (0 : Int32)), .val .null, .unset] [(.ref b2), (.ref a1)]) (fun tq kq => st2 _ kq) ?_
  obtain ⟨T7, X7, e7, st7⟩ := getF X2 hx hZ hown (host := "") (Or.inl (own_w hw 24 rfl)) Via.refl e2 Vb2 (g := (mkF m 11 #[.val (.ref a1), .val (.ref a2), .val (.int (0 : Int32)), .val (.int (0 : Int32)), .val .null, .unset] [(.ref b2), (.ref a1)])) rfl rfl (hb hby d3_11)
  refine own_toH T7 (mkF m 14 #[.val (.ref a1), .val (.ref a2), .val (.int (0 : Int32)), .val (.int (0 : Int32)), .val .null, .unset] [(.ref t2), (.ref a1)]) (fun tq kq => st7 _ kq) ?_
  obtain ⟨T8, h8, X8, e8, W8, st8⟩ := putF X7 hx hZ hown (host := "") (Or.inl (own_w hw 24 rfl)) Via.refl e7 f5 f4 (Or.inr ⟨(own_w hw 20 rfl), rfl, hnm⟩) (own_w hw 6 rfl) (ty := (.array .byte)) (by decide) rfl rfl (g := (mkF m 14 #[.val (.ref a1), .val (.ref a2), .val (.int (0 : Int32)), .val (.int (0 : Int32)), .val .null, .unset] [(.ref t2), (.ref a1)])) rfl rfl (hb hby d3_14)
  have f9 := Safe.wr W8 f3 C2.1 f3
  have f10 := f4.wr W8
  have f11 := f6.other W8 (Or.inr (sn_coder_value hw))
  have f12 := Eb2.wr W8
  have f13 := Vb2.other W8 (Or.inl (Ne.symm ne_a1_b2))
  have f14 := Cb2.other W8 (Or.inl (Ne.symm ne_a1_b2))
  have f15 := Vt2.other W8 (Ne.symm ne_a1_t2)
  have f16 := f5.same W8
  have N8 := Fr.snoc X8 (Fr.nil n0) g_a1
  have Zs8 : n0 ≤ h8.size := by rw [W8.size]; exact Zs2
  have K8 := K2.wr W8 (Or.inl (List.mem_of_getElem? (i := 0) rfl))
  have hk := Nat.le_trans hk (Nat.le_of_eq W8.size.symm)
  have C8 := C2.trans (CHr.wr W8 f3 C2.1)
  refine own_toH T8 (mkF m 18 #[.val (.ref a1), .val (.ref a2), .val (.int (0 : Int32)), .val (.int (0 : Int32)), .val .null, .unset] [(.ref a1)]) (fun tq kq => st8 _ (XS.aloadN X8.here hx rfl (hb hby d3_17) rfl rfl kq)) ?_
  have lt17_a1 := f10.lt
  obtain ⟨b17, T17, h17, k17, t17, kc17, X17, e17, E17, hS, hk, hZ, hown, Eb17, Cb17, Vb17, Ab17, la17, lb17, hC17, hL17, hsf17, st17⟩ := ldcCH X8 hx hZ hown (own_w hw 18 rfl) own_wS e8 hS hk hEL (by decide) C8.1 (vs := ([] : List Int32).map Value.int) (z := Int32.ofNat 0) ⟨by decide, by decide⟩ (by decide) (by decide) (g := (mkF m 18 #[.val (.ref a1), .val (.ref a2), .val (.int (0 : Int32)), .val (.int (0 : Int32)), .val .null, .unset] [(.ref a1)])) rfl (hb hby d3_18) (n := 0) (by decide) (by decide) (by decide) (by decide)
  have f18 := hC17.safe lt17_a1 f9
  have f19 := f10.ext E17
  have f20 := f16.ext E17
  have f21 := f11.ext E17
  have f22 := f12.ext E17
  have f23 := f13.ext E17
  have f24 := f14.ext E17
  have f25 := f15.ext E17
  have Zs17 : n0 ≤ h17.size := Nat.le_trans Zs8 E17.1
  have K17 := K8.ext E17
  have C17 := C8.trans hC17
  have Vt17 : BArr Z h17 t17 0 (fun i => ([] : List Int32).getD i 0) := own_barr Ab17 (by decide) (by decide)
  have ne_a1_b17 := (hsf17 _ f18).1
  have ne_a1_t17 := (hsf17 _ f18).2
  refine own_toH T17 (mkF m 20 #[.val (.ref a1), .val (.ref a2), .val (.int (0 : Int32)), .val (.int (0 : Int32)), .val .null, .unset] [(.ref b17), (.ref a1)]) (fun tq kq => st17 _ kq) ?_
  obtain ⟨T26, X26, e26, st26⟩ := getF X17 hx hZ hown (host := "") (Or.inl (own_w hw 25 rfl)) Via.refl e17 Cb17 (g := (mkF m 20 #[.val (.ref a1), .val (.ref a2), .val (.int (0 : Int32)), .val (.int (0 : Int32)), .val .null, .unset] [(.ref b17), (.ref a1)])) rfl rfl (hb hby d3_20)
  refine own_toH T26 (mkF m 23 #[.val (.ref a1), .val (.ref a2), .val (.int (0 : Int32)), .val (.int (0 : Int32)), .val .null, .unset] [(.int (0 : Int32)), (.ref a1)]) (fun tq kq => st26 _ kq) ?_
  obtain ⟨T27, h27, X27, e27, W27, st27⟩ := putFN X26 hx hZ hown (own_w hw 25 rfl) Via.refl e26 f21 f19 (Or.inr ⟨(own_w hw 21 rfl), rfl, hnm⟩) (own_w hw 6 rfl) (ty := .byte) (v' := (.int (0 : Int32))) (by decide) rfl rfl (g := (mkF m 23 #[.val (.ref a1), .val (.ref a2), .val (.int (0 : Int32)), .val (.int (0 : Int32)), .val .null, .unset] [(.int (0 : Int32)), (.ref a1)])) rfl rfl (hb hby d3_23)
  have f28 := Safe.wr W27 f18 C17.1 f18
  have f29 := f19.wr W27
  have f30 := f20.other W27 (Or.inr (sn_value_coder hw))
  have f31 := f22.wr W27
  have f32 := f23.other W27 (Or.inl (Ne.symm ne_a1_b2))
  have f33 := f24.other W27 (Or.inl (Ne.symm ne_a1_b2))
  have f34 := f25.other W27 (Ne.symm ne_a1_t2)
  have f35 := Eb17.wr W27
  have f36 := Vb17.other W27 (Or.inl (Ne.symm ne_a1_b17))
  have f37 := Cb17.other W27 (Or.inl (Ne.symm ne_a1_b17))
  have f38 := Vt17.other W27 (Ne.symm ne_a1_t17)
  have f39 := f21.same W27
  have N27 := Fr.snoc X27 N8 g_a1
  have Zs27 : n0 ≤ h27.size := by rw [W27.size]; exact Zs17
  have K27 := K17.wr W27 (Or.inl (List.mem_of_getElem? (i := 0) rfl))
  have hk := Nat.le_trans hk (Nat.le_of_eq W27.size.symm)
  have C27 := C17.trans (CHr.wr W27 f18 C17.1)
  refine own_toH T27 (mkF m 26 #[.val (.ref a1), .val (.ref a2), .val (.int (0 : Int32)), .val (.int (0 : Int32)), .val .null, .unset] []) (fun tq kq => st27 _ kq) ?_
  exact own_retVH X27 hS (by rw [e27]; exact hk) hZ hEL (by rw [e27]; exact C27) hx hret hlk (hb hby d3_26) (by decide) (by decide) (by rw [e27]; exact ⟨rfl, N27, K27, f29, f39, t2, _, f30, f34, ne_a1_t2⟩)
theorem d2_0 : decode jdk_42_method_3_code 0 = .ok (.aload_n 0, 1) := by decide +kernel
theorem d2_1 : decode jdk_42_method_3_code 1 = .ok (.aload_n 1, 1) := by decide +kernel
theorem d2_2 : decode jdk_42_method_3_code 2 = .ok (.iconst 0, 1) := by decide +kernel
theorem d2_3 : decode jdk_42_method_3_code 3 = .ok (.aload_n 1, 1) := by decide +kernel
theorem d2_4 : decode jdk_42_method_3_code 4 = .ok (.arraylength, 1) := by decide +kernel
theorem d2_5 : decode jdk_42_method_3_code 5 = .ok (.aconst_null, 1) := by decide +kernel
theorem d2_6 : decode jdk_42_method_3_code 6 = .ok (.invokespecial 27, 3) := by decide +kernel
theorem d2_9 : decode jdk_42_method_3_code 9 = .ok (.return_, 1) := by decide +kernel
theorem ef_2_RR (m : MethodId) (x0 : Addr) (x1 : Addr) : entryFrame m #[(.ref x0), (.ref x1)] 2 = mkF m 0 #[.val (.ref x0), .val (.ref x1)] [] := by first | (simp [entryFrame, mkF, argsToLocals, Value.category]; done) | rfl
def Q_rmS0 (Z : State) (a1 a2 : Addr) (c2 : Cell) (h0 : Heap) (n0 : Nat) (v : Option Value) (h : Heap) (L : List Loc) : Prop := v = none ∧ Fr n0 L ∧ Keep h0 h [a1] ∧ Exa Z h a1 "java/lang/String" ∧ Fld Z h a1 "java/lang/String" "coder" "B" (.int (0 : Int32)) ∧ ∃ t f, Fld Z h a1 "java/lang/String" "value" "[B" (.ref t) ∧ BArr Z h t 0 f ∧ own_ne a1 t
theorem pd_2 : parseMethodDescriptor "([CIILjava/lang/Void;)V" = some ⟨[(.array .char), .int, .int, (.object "java/lang/Void")], none⟩ := by decide +kernel
set_option maxRecDepth 65536 in
set_option maxHeartbeats 40000000 in
theorem rmS0 (l : Launch) (Z : State) (a0 : Array Value) (hw : ∀ d ∈ tables_1, d.before a0 Z = true) (ws : List Jvm.Cond) (a1 a2 : Addr) (c2 : Cell) (h0 : Heap) (n0 : Nat) (Z0 : n0 ≤ h0.size) (hEL : EW Z a0 consts_1) (Ea1 : Exa Z h0 a1 "java/lang/String") (F1 : Fld Z h0 a1 "java/lang/String" "value" "[B" .null) (F2 : Fld Z h0 a1 "java/lang/String" "coder" "B" (.int (0 : Int32))) (g_a1 : n0 ≤ a1) (A2 : Arr Z h0 a2 c2 .char) (hz2 : c2.slots.size = 0) :
    MetFree l (⟨"java/lang/String", "<init>", "([C)V"⟩ : MethodName) (head1 (Jvm.Cond.code (⟨"java/lang/String", "<init>", "([C)V"⟩ : MethodName) jdk_42_method_3_code 2 none :: ws) ({ frames := 2, cells := 4, slots := 8, locals := 40 } : Room)) (fun a U => a = #[(.ref a1), (.ref a2)] ∧ Z.Warmed39 U.vm ∧ U.heap = h0 ∧ CHv Z consts_1 U.vm h0 ∧ Safe Z consts_1 U.vm h0 a1) (fun _ _ _ _ _ => True) (fun _ U o U' => ∃ v L, o = .returned v ∧ Q_rmS0 Z a1 a2 c2 h0 n0 v U'.heap L ∧ CHr Z consts_1 U.vm U.heap U'.vm U'.heap ∧ ReturnedEndW U o U' L ({ frames := 2, cells := 4, slots := 8, locals := 40 } : Room).cells ({ frames := 2, cells := 4, slots := 8, locals := 40 } : Room).slots) := by
  refine own_metHS (EL := consts_1) (xs := a1) (y := (⟨"java/lang/String", "<init>", "([C)V"⟩ : MethodName)) (Q := (Q_rmS0 Z a1 a2 c2 h0 n0)) (plainFor_of_name pn_8) fun p e s m below meth c s₁ X0 hx hby hml hret hlk hown hnm hZ e0 hS C0 Sf0 => ?_
  have hk := Nat.le_refl h0.size
  refine own_entryH (ef_2_RR m a1 a2) ?_
  have K0 := Keep.refl h0 [a1]
  refine own_toH s₁ (mkF m 5 #[.val (.ref a1), .val (.ref a2)] [(.int (c2.slots.size.toInt32)), (.int (0 : Int32)), (.ref a2), (.ref a1)]) (fun tq kq => XS.aloadN X0.here hx rfl (hb hby d2_0) rfl rfl (XS.aloadN X0.here hx rfl (hb hby d2_1) rfl rfl (XS.iconst X0.here hx rfl (hb hby d2_2) (XS.aloadN X0.here hx rfl (hb hby d2_3) rfl rfl (X0.arraylength hx (by rw [e0]; exact A2.1) (State.isArrayOf_alike hZ.alike A2.2.1) (g := (mkF m 4 #[.val (.ref a1), .val (.ref a2)] [(.ref a2), (.int (0 : Int32)), (.ref a2), (.ref a1)])) rfl rfl (hb hby d2_4) _ kq))))) ?_
  rw [show c2.slots.size.toInt32 = (0 : Int32) from by rw [hz2] <;> rfl]
  refine own_toH s₁ (mkF m 6 #[.val (.ref a1), .val (.ref a2)] [.null, (.int (0 : Int32)), (.int (0 : Int32)), (.ref a2), (.ref a1)]) (fun tq kq => XS.aconstNull X0.here hx rfl (hb hby d2_5) kq) ?_
  obtain ⟨_, _, ⟨T1, L1, k1, n1⟩, -, X1, hS1, hgr1, ⟨Lc1, hQ1, l1, y1, z1, hC1⟩, st1⟩ := X0.specialBackS hx (y := (⟨"java/lang/String", "<init>", "([CIILjava/lang/Void;)V"⟩ : MethodName)) rfl hown (mvT hZ (own_w hw 11 rfl)) (mvT hZ (own_w hw 12 rfl)) (mvT hZ (own_w hw 14 rfl)) (by decide) (own_backSH (W := 0) (rmS0v l Z a0 hw [] a1 a2 h0 n0 Z0 hEL Ea1 F1 F2 g_a1) hZ (own_w hw 14 rfl) (own_w hw 7 rfl) (by decide) (by decide) hEL C0.1 Ea1.lt Sf0) (g := (mkF m 6 #[.val (.ref a1), .val (.ref a2)] [.null, (.int (0 : Int32)), (.int (0 : Int32)), (.ref a2), (.ref a1)])) rfl (by rw [hml]; rfl) (Steps.refl _) (a := a1) (argsL := [(.ref a2), (.int (0 : Int32)), (.int (0 : Int32)), .null]) (rest := []) (lenOf pd_2 rfl) rfl (by show 2 * 0 + _ ≤ _; exact Nat.le_of_eq rfl) (hb hby d2_6) (fun _ _ => ⟨rfl, e0, (by decide : 0 + 4 ≤ _), (by decide : 0 + 8 ≤ _)⟩)
  dsimp only [Pt.U, Pt.locs, Pt.cells, Pt.slots] at X1 l1 y1 z1 st1 hQ1
  have l1y := l1.symm
  clear l1
  subst l1y
  obtain rfl : k1 = 4 := y1
  obtain rfl : n1 = 8 := z1
  dsimp only [Pt.U, Pt.locs, Pt.cells, Pt.slots] at hS1 hgr1 hC1
  have C1 := C0.trans hC1
  obtain ⟨X1, hS, hZ, hown⟩ := rebS hS hk X1 hS1 (by rw [← e0]; exact hgr1) hZ hown
  have hk := Nat.le_refl T1.heap.size
  obtain ⟨rfl, N1q, K1q, E1q, C1q, t1, f1q, V1q, A1q, ne1⟩ := hQ1
  have N1 := Fr.app (Fr.nil n0) N1q
  have Zs1 : n0 ≤ T1.heap.size := Nat.le_trans Z0 K1q.1
  have KK1 := K0.trans K1q (allS (Or.inl (List.mem_of_getElem? (i := 0) rfl)) all0)
  refine own_toH T1 (mkF m 9 #[.val (.ref a1), .val (.ref a2)] []) (fun tq kq => st1.trans kq) ?_
  exact own_retVH X1 hS hk hZ hEL C1 hx hret hlk (hb hby d2_9) (by decide) (by decide) ⟨rfl, N1, KK1, E1q, C1q, t1, f1q, V1q, A1q, ne1⟩
theorem own_small (x k : Int32) (n : Nat) (hk : k.toInt = n) (hm : 0 ≤ k.toInt) : ∃ u, u ≤ n ∧ (x &&& k) = Int32.ofNat u := by
  have b := c_and x k hm
  generalize x &&& k = y at *
  have hn : ¬ y < 0 := by
    rw [Int32.lt_iff_toInt_lt]
    have z0 : (0 : Int32).toInt = 0 := by decide
    omega
  have q := nat_of hn
  exact ⟨y.toNatClampNeg, by omega, (back32 hn).1.symm⟩
theorem own_chb {y : Int32} (h : ¬ y < (0 : Int32) ∧ ¬ (255 : Int32) < y) : own_ch (y.toInt8.toInt32) = y := by
  have z : (255 : Int32).toInt = 255 := by decide
  have z0 : (0 : Int32).toInt = 0 := by decide
  rw [Int32.lt_iff_toInt_lt, Int32.lt_iff_toInt_lt] at h
  obtain ⟨m, hm⟩ : ∃ m : Nat, y = Int32.ofNat m ∧ m < 256 := ⟨y.toNatClampNeg, (back32 (by rw [Int32.lt_iff_toInt_lt]; omega)).1.symm, by have q := nat_of (j := y) (by rw [Int32.lt_iff_toInt_lt]; omega); omega⟩
  have key : ∀ m : Fin 256, own_ch ((Int32.ofNat m).toInt8.toInt32) = Int32.ofNat m := by decide +kernel
  rw [hm.1]; exact key ⟨m, hm.2⟩
theorem own_nar {v : Int32} (h : ¬ v < (0 : Int32) ∧ ¬ (255 : Int32) < v) : nar .char v = v := by
  have z : (255 : Int32).toInt = 255 := by decide
  have z0 : (0 : Int32).toInt = 0 := by decide
  rw [Int32.lt_iff_toInt_lt, Int32.lt_iff_toInt_lt] at h
  have q := c_i2c v
  show v.toUInt32.toUInt16.toUInt32.toInt32 = v
  rw [← Int32.toInt_inj]
  omega
theorem own_b8 {y z : Int32} (hy : ¬ y < (0 : Int32) ∧ ¬ (255 : Int32) < y) (hz : ¬ z < (0 : Int32) ∧ ¬ (255 : Int32) < z) (h : y.toInt8.toInt32 = z.toInt8.toInt32) : y = z := by
  rw [← own_chb hy, ← own_chb hz, h]
theorem own_fitb (x : Int32) : fits .byte (.int (x.toInt8.toInt32)) = true := by
  exact fits_nar_byte x
def own_bl (L : List Int32) : Nat → Int32 := fun i => (L.map (fun c => c.toInt8.toInt32)).getD i 0
theorem own_mod1 (x : Int32) : ((x &&& (2147483647 : Int32)) % (1 : Int32)) = 0 := by
  have b := c_and x (2147483647 : Int32) (by decide)
  generalize x &&& (2147483647 : Int32) = y at *
  have e : (y % (1 : Int32)).toInt = y.toInt % 1 := by
    rw [Int32.toInt_mod, show (1 : Int32).toInt = 1 from by decide]
    exact Int.tmod_eq_emod_of_nonneg (by omega)
  have z0 : (0 : Int32).toInt = 0 := by decide
  rw [← Int32.toInt_inj]
  omega
theorem own_mod2 (x : Int32) : ((x &&& (2147483647 : Int32)) % (2 : Int32)) = 0 ∨ ((x &&& (2147483647 : Int32)) % (2 : Int32)) = 1 := by
  have b := c_and x (2147483647 : Int32) (by decide)
  generalize x &&& (2147483647 : Int32) = y at *
  have e : (y % (2 : Int32)).toInt = y.toInt % 2 := by
    rw [Int32.toInt_mod, show (2 : Int32).toInt = 2 from by decide]
    exact Int.tmod_eq_emod_of_nonneg (by omega)
  have z0 : (0 : Int32).toInt = 0 := by decide
  have z1 : (1 : Int32).toInt = 1 := by decide
  rw [← Int32.toInt_inj, ← Int32.toInt_inj]
  omega
theorem own_mod3 (x : Int32) : ((x &&& (2147483647 : Int32)) % (3 : Int32)) = 0 ∨ ((x &&& (2147483647 : Int32)) % (3 : Int32)) = 1 ∨ ((x &&& (2147483647 : Int32)) % (3 : Int32)) = 2 := by
  have b := c_and x (2147483647 : Int32) (by decide)
  generalize x &&& (2147483647 : Int32) = y at *
  have e : (y % (3 : Int32)).toInt = y.toInt % 3 := by
    rw [Int32.toInt_mod, show (3 : Int32).toInt = 3 from by decide]
    exact Int.tmod_eq_emod_of_nonneg (by omega)
  have z0 : (0 : Int32).toInt = 0 := by decide
  have z1 : (1 : Int32).toInt = 1 := by decide
  have z2 : (2 : Int32).toInt = 2 := by decide
  rw [← Int32.toInt_inj, ← Int32.toInt_inj, ← Int32.toInt_inj]
  omega
theorem ef_0_IIIII (m : MethodId) (x0 : Int32) (x1 : Int32) (x2 : Int32) (x3 : Int32) (x4 : Int32) : entryFrame m #[(.int x0), (.int x1), (.int x2), (.int x3), (.int x4)] maxLocals = mkF m 0 #[.val (.int x0), .val (.int x1), .val (.int x2), .val (.int x3), .val (.int x4), .unset, .unset, .unset, .unset, .unset, .unset, .unset, .unset, .unset, .unset, .unset, .unset] [] := by first | (simp [entryFrame, mkF, argsToLocals, Value.category, maxLocals]; done) | rfl
def Q_rm0 (Z : State) (i0 i1 i2 i3 i4 G1 : Int32) (vF : Value) (h0 : Heap) (n0 : Nat) (v : Option Value) (h : Heap) (L : List Loc) : Prop := v = some (.int 1) ∧ Fr n0 L
theorem pd_1 : parseMethodDescriptor "([C)V" = some ⟨[(.array .char)], none⟩ := by decide +kernel
theorem pd_4 : parseMethodDescriptor "(Ljava/lang/String;)V" = some ⟨[(.object "java/lang/String")], none⟩ := by decide +kernel
theorem pd_3 : parseMethodDescriptor "()V" = some ⟨[], none⟩ := by decide +kernel
theorem pd_25 : parseMethodDescriptor "(C)Z" = some ⟨[.char], some .boolean⟩ := by decide +kernel
theorem pd_11 : parseMethodDescriptor "(C)Ljava/lang/String;" = some ⟨[.char], some (.object "java/lang/String")⟩ := by decide +kernel
set_option maxRecDepth 65536 in
set_option maxHeartbeats 40000000 in
theorem rm0 (l : Launch) (Z : State) (a0 : Array Value) (hw : ∀ d ∈ tables_1, d.before a0 Z = true) (ws : List Jvm.Cond) (i0 i1 i2 i3 i4 G1 : Int32) (vF : Value) (h0 : Heap) (n0 : Nat) (Z0 : n0 ≤ h0.size) (O2 : Sta Z h0 "java/lang/String" "COMPACT_STRINGS" "Z" (.int G1)) (hG : ¬ G1 = (0 : Int32)) (O4 : Sta Z h0 "jdk/internal/util/Preconditions" "SIOOBE_FORMATTER" "Ljava/util/function/BiFunction;" vF) (hvF : vF.isRef = true) (hEL : EW Z a0 consts_1) :
    MetFree l x (head1 (Jvm.Cond.code x code maxLocals ret :: ws) room_1) (fun a U => a = #[(.int i0), (.int i1), (.int i2), (.int i3), (.int i4)] ∧ Z.Warmed39 U.vm ∧ U.heap = h0 ∧ CHv Z consts_1 U.vm h0) (fun _ _ _ _ _ => True) (fun _ U o U' => ∃ v L, o = .returned v ∧ Q_rm0 Z i0 i1 i2 i3 i4 G1 vF h0 n0 v U'.heap L ∧ ReturnedEndW U o U' L room_1.cells room_1.slots) := by
  refine own_metHW (EL := consts_1) (y := x) (Q := (Q_rm0 Z i0 i1 i2 i3 i4 G1 vF h0 n0)) (plainFor_of_name pn_1) fun p e s m below meth c s₁ X0 hx hby hml hret hlk hown hnm hZ e0 hS hCH => ?_
  have hk := Nat.le_refl h0.size
  refine own_entryW (ef_0_IIIII m i0 i1 i2 i3 i4) ?_
  refine own_toW s₁ (mkF m 3 #[.val (.int i0), .val (.int i1), .val (.int i2), .val (.int i3), .val (.int i4), .unset, .unset, .unset, .unset, .unset, .unset, .unset, .unset, .unset, .unset, .unset, .unset] [(.int (i0 &&& (3 : Int32)))]) (fun tq kq => XS.iloadN X0.here hx rfl (hb hby at_0) rfl (XS.iconst X0.here hx rfl (hb hby at_1) (XS.iand X0.here hx rfl (hb hby at_2) rfl kq))) ?_
  obtain ⟨n, hn3, hsn⟩ := own_small i0 (3 : Int32) 3 rfl (by decide)
  rw [hsn]
  refine own_toW s₁ (mkF m 6 #[.val (.int i0), .val (.int i1), .val (.int i2), .val (.int i3), .val (.int i4), .val (.int (Int32.ofNat n)), .unset, .unset, .unset, .unset, .unset, .unset, .unset, .unset, .unset, .unset, .unset] [(.int i1)]) (fun tq kq => XS.istore X0.here hx rfl (hb hby at_3) rfl (l' := #[.val (.int i0), .val (.int i1), .val (.int i2), .val (.int i3), .val (.int i4), .val (.int (Int32.ofNat n)), .unset, .unset, .unset, .unset, .unset, .unset, .unset, .unset, .unset, .unset, .unset]) rfl (XS.iloadN X0.here hx rfl (hb hby at_5) rfl kq)) ?_
  obtain ⟨_, _, ⟨T1, L1, k1, n1⟩, -, X1, ⟨Lc1, hQ1, l1, y1, z1⟩, st1⟩ := Jvm.LawKit.callS X0 hx (y := (⟨"com/example/wayline/wayline/HeaderReaderAtEndPinLaw", "draw", "(I)C"⟩ : MethodName)) hown (mvT hZ (own_w hw 0 rfl)) (mvT hZ (own_w hw 1 rfl)) (mvT hZ (own_w hw 2 rfl)) (mvT hZ (own_w hw 3 rfl)) (by decide) (backOf (W := 0) (rmDraw l Z a0 hw [] i1 h0 n0 Z0) hZ (own_w hw 3 rfl) (own_w hw 2 rfl) (by decide) (by decide)) (g := (mkF m 6 #[.val (.int i0), .val (.int i1), .val (.int i2), .val (.int i3), .val (.int i4), .val (.int (Int32.ofNat n)), .unset, .unset, .unset, .unset, .unset, .unset, .unset, .unset, .unset, .unset, .unset] [(.int i1)])) rfl (by rw [hml]; rfl) (argsL := [(.int i1)]) (rest := []) (lenOf pd_0 rfl) rfl (by show 2 * 0 + _ ≤ _; exact Nat.le_of_eq rfl) (hb hby at_6) (fun _ _ => ⟨rfl, e0, (by decide : 0 + 0 ≤ _), (by decide : 0 + 0 ≤ _)⟩)
  dsimp only [Pt.U, Pt.locs, Pt.cells, Pt.slots] at X1 l1 y1 z1 st1 hQ1
  have l1y := l1.symm
  clear l1
  subst l1y
  obtain rfl : k1 = 0 := y1
  obtain rfl : n1 = 0 := z1
  obtain ⟨va, rfl, hcva, N1q, e1⟩ := hQ1
  have N1 := Fr.app (Fr.nil n0) N1q
  refine own_toW T1 (mkF m 12 #[.val (.int i0), .val (.int i1), .val (.int i2), .val (.int i3), .val (.int i4), .val (.int (Int32.ofNat n)), .val (.int va), .unset, .unset, .unset, .unset, .unset, .unset, .unset, .unset, .unset, .unset] [(.int i2)]) (fun tq kq => st1 _ (XS.istore X1.here hx rfl (hb hby at_9) rfl (l' := #[.val (.int i0), .val (.int i1), .val (.int i2), .val (.int i3), .val (.int i4), .val (.int (Int32.ofNat n)), .val (.int va), .unset, .unset, .unset, .unset, .unset, .unset, .unset, .unset, .unset, .unset]) rfl (XS.iloadN X1.here hx rfl (hb hby at_11) rfl kq))) ?_
  obtain ⟨_, _, ⟨T2, L2, k2, n2⟩, -, X2, ⟨Lc2, hQ2, l2, y2, z2⟩, st2⟩ := Jvm.LawKit.callS X1 hx (y := (⟨"com/example/wayline/wayline/HeaderReaderAtEndPinLaw", "draw", "(I)C"⟩ : MethodName)) hown (mvT hZ (own_w hw 0 rfl)) (mvT hZ (own_w hw 1 rfl)) (mvT hZ (own_w hw 2 rfl)) (mvT hZ (own_w hw 3 rfl)) (by decide) (backOf (W := 0) (rmDraw l Z a0 hw [] i2 h0 n0 Z0) hZ (own_w hw 3 rfl) (own_w hw 2 rfl) (by decide) (by decide)) (g := (mkF m 12 #[.val (.int i0), .val (.int i1), .val (.int i2), .val (.int i3), .val (.int i4), .val (.int (Int32.ofNat n)), .val (.int va), .unset, .unset, .unset, .unset, .unset, .unset, .unset, .unset, .unset, .unset] [(.int i2)])) rfl (by rw [hml]; rfl) (argsL := [(.int i2)]) (rest := []) (lenOf pd_0 rfl) rfl (by show 2 * 0 + _ ≤ _; exact Nat.le_of_eq rfl) (hb hby at_12) (fun _ _ => ⟨rfl, e1, (by decide : 0 + 0 ≤ _), (by decide : 0 + 0 ≤ _)⟩)
  dsimp only [Pt.U, Pt.locs, Pt.cells, Pt.slots] at X2 l2 y2 z2 st2 hQ2
  have l2y := l2.symm
  clear l2
  subst l2y
  obtain rfl : k2 = 0 := y2
  obtain rfl : n2 = 0 := z2
  obtain ⟨vb, rfl, hcvb, N2q, e2⟩ := hQ2
  have N2 := Fr.app N1 N2q
  refine own_toW T2 (mkF m 18 #[.val (.int i0), .val (.int i1), .val (.int i2), .val (.int i3), .val (.int i4), .val (.int (Int32.ofNat n)), .val (.int va), .val (.int vb), .unset, .unset, .unset, .unset, .unset, .unset, .unset, .unset, .unset] [(.int i3)]) (fun tq kq => st2 _ (XS.istore X2.here hx rfl (hb hby at_15) rfl (l' := #[.val (.int i0), .val (.int i1), .val (.int i2), .val (.int i3), .val (.int i4), .val (.int (Int32.ofNat n)), .val (.int va), .val (.int vb), .unset, .unset, .unset, .unset, .unset, .unset, .unset, .unset, .unset]) rfl (XS.iloadN X2.here hx rfl (hb hby at_17) rfl kq))) ?_
  obtain ⟨_, _, ⟨T3, L3, k3, n3⟩, -, X3, ⟨Lc3, hQ3, l3, y3, z3⟩, st3⟩ := Jvm.LawKit.callS X2 hx (y := (⟨"com/example/wayline/wayline/HeaderReaderAtEndPinLaw", "draw", "(I)C"⟩ : MethodName)) hown (mvT hZ (own_w hw 0 rfl)) (mvT hZ (own_w hw 1 rfl)) (mvT hZ (own_w hw 2 rfl)) (mvT hZ (own_w hw 3 rfl)) (by decide) (backOf (W := 0) (rmDraw l Z a0 hw [] i3 h0 n0 Z0) hZ (own_w hw 3 rfl) (own_w hw 2 rfl) (by decide) (by decide)) (g := (mkF m 18 #[.val (.int i0), .val (.int i1), .val (.int i2), .val (.int i3), .val (.int i4), .val (.int (Int32.ofNat n)), .val (.int va), .val (.int vb), .unset, .unset, .unset, .unset, .unset, .unset, .unset, .unset, .unset] [(.int i3)])) rfl (by rw [hml]; rfl) (argsL := [(.int i3)]) (rest := []) (lenOf pd_0 rfl) rfl (by show 2 * 0 + _ ≤ _; exact Nat.le_of_eq rfl) (hb hby at_18) (fun _ _ => ⟨rfl, e2, (by decide : 0 + 0 ≤ _), (by decide : 0 + 0 ≤ _)⟩)
  dsimp only [Pt.U, Pt.locs, Pt.cells, Pt.slots] at X3 l3 y3 z3 st3 hQ3
  have l3y := l3.symm
  clear l3
  subst l3y
  obtain rfl : k3 = 0 := y3
  obtain rfl : n3 = 0 := z3
  obtain ⟨vc, rfl, hcvc, N3q, e3⟩ := hQ3
  have N3 := Fr.app N2 N3q
  refine own_toW T3 (mkF m 23 #[.val (.int i0), .val (.int i1), .val (.int i2), .val (.int i3), .val (.int i4), .val (.int (Int32.ofNat n)), .val (.int va), .val (.int vb), .val (.int vc), .unset, .unset, .unset, .unset, .unset, .unset, .unset, .unset] []) (fun tq kq => st3 _ (XS.istore X3.here hx rfl (hb hby at_21) rfl (l' := #[.val (.int i0), .val (.int i1), .val (.int i2), .val (.int i3), .val (.int i4), .val (.int (Int32.ofNat n)), .val (.int va), .val (.int vb), .val (.int vc), .unset, .unset, .unset, .unset, .unset, .unset, .unset, .unset]) rfl kq)) ?_
  have hn4 : n = 0 ∨ n = 1 ∨ n = 2 ∨ n = 3 := (by omega)
  rcases hn4 with rfl | rfl | rfl | rfl
  · skip
    rw [show Int32.ofNat 0 = (0 : Int32) from rfl]
    refine own_toW T3 (mkF m 29 #[.val (.int i0), .val (.int i1), .val (.int i2), .val (.int i3), .val (.int i4), .val (.int (0 : Int32)), .val (.int va), .val (.int vb), .val (.int vc), .unset, .unset, .unset, .unset, .unset, .unset, .unset, .unset] [(.int (0 : Int32))]) (fun tq kq => XS.iload X3.here hx rfl (hb hby at_23) rfl (XS.ifNo X3.here hx rfl (hb hby at_25) rfl ((if0 _ _).trans (teq (by decide : (0 : Int32) = (0 : Int32))).2) (XS.iconst X3.here hx rfl (hb hby at_28) kq))) ?_
    obtain ⟨T4, h4, k4, X4, e4, E4, A4, st4⟩ := newP X3 hx hZ (own_w hw 4 rfl) e3 (g := (mkF m 29 #[.val (.int i0), .val (.int i1), .val (.int i2), .val (.int i3), .val (.int i4), .val (.int (0 : Int32)), .val (.int va), .val (.int vb), .val (.int vc), .unset, .unset, .unset, .unset, .unset, .unset, .unset, .unset] [(.int (0 : Int32))])) rfl (hb hby at_29) rfl (by decide) (cap := 0) (by decide) (by decide) (by decide) (by decide)
    obtain ⟨b4, g4⟩ : ∃ z, z = h0.size := ⟨_, rfl⟩
    rw [← g4] at A4 st4
    have f5 := O2.ext E4
    have f6 := O4.ext E4
    have sz4 : n0 ≤ b4 := Nat.le_trans Z0 (Nat.le_of_eq g4.symm)
    have Zs4 : n0 ≤ h4.size := Nat.le_trans Z0 E4.1
    have hk := Nat.le_trans hk E4.1
    have V4 : Arv Z h4 b4 k4 .char (0 : Int32) [] (.int (0 : Int32)) := Arv.new A4 (by decide)
    refine own_toW T4 (mkF m 99 #[.val (.int i0), .val (.int i1), .val (.int i2), .val (.int i3), .val (.int i4), .val (.int (0 : Int32)), .val (.int va), .val (.int vb), .val (.int vc), .val (.ref b4), .unset, .unset, .unset, .unset, .unset, .unset, .unset] []) (fun tq kq => st4 _ (XS.astore X4.here hx rfl (hb hby at_31) rfl rfl (l' := #[.val (.int i0), .val (.int i1), .val (.int i2), .val (.int i3), .val (.int i4), .val (.int (0 : Int32)), .val (.int va), .val (.int vb), .val (.int vc), .val (.ref b4), .unset, .unset, .unset, .unset, .unset, .unset, .unset]) rfl (XS.goto X4.here hx rfl (pc0 := 33) (pc' := 99) rfl (hb hby at_33) (by decide) (by decide) kq))) ?_
    obtain ⟨T7, h7, X7, e7, E7, A7, D7, -, st7⟩ := newO X4 hx hZ hown (own_w hw 5 rfl) (own_w hw 6 rfl) (own_w hw 7 rfl) e4 (g := (mkF m 99 #[.val (.int i0), .val (.int i1), .val (.int i2), .val (.int i3), .val (.int i4), .val (.int (0 : Int32)), .val (.int va), .val (.int vb), .val (.int vc), .val (.ref b4), .unset, .unset, .unset, .unset, .unset, .unset, .unset] [])) rfl (hb hby at_99) (by decide) (by decide)
    obtain ⟨b7, g7⟩ : ∃ z, z = h4.size := ⟨_, rfl⟩
    rw [← g7] at A7 D7 st7
    have ne_b4_b7 : own_ne b4 b7 := Nat.ne_of_lt (Nat.lt_of_lt_of_le V4.lt (Nat.le_of_eq g7.symm))
    have f8 := f5.ext E7
    have f9 := f6.ext E7
    have f10 := V4.ext E7
    have sz7 : n0 ≤ b7 := Nat.le_trans Zs4 (Nat.le_of_eq g7.symm)
    have Zs7 : n0 ≤ h7.size := Nat.le_trans Zs4 E7.1
    have hk := Nat.le_trans hk E7.1
    have F7_value : Fld Z h7 b7 "java/lang/String" "value" "[B" .null := D7 (Or.inr (own_w hw 20 rfl)) (ty := (.array .byte)) (by decide)
    have F7_coder : Fld Z h7 b7 "java/lang/String" "coder" "B" (.int (0 : Int32)) := D7 (Or.inr (own_w hw 21 rfl)) (ty := .byte) (by decide)
    refine own_toW T7 (mkF m 105 #[.val (.int i0), .val (.int i1), .val (.int i2), .val (.int i3), .val (.int i4), .val (.int (0 : Int32)), .val (.int va), .val (.int vb), .val (.int vc), .val (.ref b4), .unset, .unset, .unset, .unset, .unset, .unset, .unset] [(.ref b4), (.ref b7), (.ref b7)]) (fun tq kq => st7 _ (XS.dup X7.here hx rfl (hb hby at_102) rfl rfl (XS.aload X7.here hx rfl (hb hby at_103) rfl rfl kq))) ?_
    have hCh := (hCH.ext E4).ext E7
    obtain ⟨cz, Az, qz, Sz, -⟩ := id f10
    obtain ⟨_, _, ⟨T11, L11, k11, n11⟩, -, X11, hS11, hgr11, ⟨Lc11, hQ11, l11, y11, z11, hC11⟩, st11⟩ := X7.specialBackS hx (y := (⟨"java/lang/String", "<init>", "([C)V"⟩ : MethodName)) rfl hown (mvT hZ (own_w hw 8 rfl)) (mvT hZ (own_w hw 9 rfl)) (mvT hZ (own_w hw 10 rfl)) (by decide) (own_backSH (W := 1) (rmS0 l Z a0 hw [] b7 b4 cz h7 n0 Zs7 hEL A7 F7_value F7_coder sz7 Az (Sz.trans (by decide))) hZ (own_w hw 10 rfl) (own_w hw 7 rfl) (by decide) (by decide) hEL hCh A7.lt (Safe.ext E7 (hCH.ext E4) (Safe.new (Nat.le_of_eq g7.symm)))) (g := (mkF m 105 #[.val (.int i0), .val (.int i1), .val (.int i2), .val (.int i3), .val (.int i4), .val (.int (0 : Int32)), .val (.int va), .val (.int vb), .val (.int vc), .val (.ref b4), .unset, .unset, .unset, .unset, .unset, .unset, .unset] [(.ref b4), (.ref b7), (.ref b7)])) rfl (by rw [hml]; rfl) (Steps.refl _) (a := b7) (argsL := [(.ref b4)]) (rest := [(.ref b7)]) (lenOf pd_1 rfl) rfl (by show 2 * 0 + _ ≤ _; exact Nat.le_of_eq rfl) (hb hby at_105) (fun _ _ => ⟨rfl, e7, (by decide : 2 + 4 ≤ _), (by decide : 4 + 8 ≤ _)⟩)
    dsimp only [Pt.U, Pt.locs, Pt.cells, Pt.slots] at X11 l11 y11 z11 st11 hQ11
    have l11y := l11.symm
    clear l11
    subst l11y
    obtain rfl : k11 = 6 := y11
    obtain rfl : n11 = 12 := z11
    dsimp only [Pt.U, Pt.locs, Pt.cells, Pt.slots] at hS11 hgr11 hC11
    obtain ⟨X11, hS, hZ, hown⟩ := rebS hS hk X11 hS11 (by rw [← e7]; exact hgr11) hZ hown
    have hk := Nat.le_refl T11.heap.size
    obtain ⟨rfl, N11q, K11q, E11q, C11q, t11, f11q, V11q, A11q, ne11⟩ := hQ11
    have N11 := Fr.app N3 N11q
    have f12 := own_staX f8 K11q A7
    have f13 := own_staX f9 K11q A7
    have f14 := A7.keep K11q
    have Zs11 : n0 ≤ T11.heap.size := Nat.le_trans Zs7 K11q.1
    refine own_toW T11 (mkF m 110 #[.val (.int i0), .val (.int i1), .val (.int i2), .val (.int i3), .val (.int i4), .val (.int (0 : Int32)), .val (.int va), .val (.int vb), .val (.int vc), .val (.ref b4), .val (.ref b7), .unset, .unset, .unset, .unset, .unset, .unset] []) (fun tq kq => st11.trans (XS.astore X11.here hx rfl (hb hby at_108) rfl rfl (l' := #[.val (.int i0), .val (.int i1), .val (.int i2), .val (.int i3), .val (.int i4), .val (.int (0 : Int32)), .val (.int va), .val (.int vb), .val (.int vc), .val (.ref b4), .val (.ref b7), .unset, .unset, .unset, .unset, .unset, .unset]) rfl kq)) ?_
    obtain ⟨T15, h15, X15, e15, E15, A15, D15, -, st15⟩ := newO X11 hx hZ hown (own_w hw 26 rfl) (own_w hw 27 rfl) (own_w hw 28 rfl) rfl (g := (mkF m 110 #[.val (.int i0), .val (.int i1), .val (.int i2), .val (.int i3), .val (.int i4), .val (.int (0 : Int32)), .val (.int va), .val (.int vb), .val (.int vc), .val (.ref b4), .val (.ref b7), .unset, .unset, .unset, .unset, .unset, .unset] [])) rfl (hb hby at_110) (by decide) (by decide)
    obtain ⟨b15, g15⟩ : ∃ z, z = T11.heap.size := ⟨_, rfl⟩
    rw [← g15] at A15 D15 st15
    have ne_b7_b15 : own_ne b7 b15 := Nat.ne_of_lt (Nat.lt_of_lt_of_le E11q.lt (Nat.le_of_eq g15.symm))
    have ne_t11_b15 : own_ne t11 b15 := Nat.ne_of_lt (Nat.lt_of_lt_of_le A11q.lt (Nat.le_of_eq g15.symm))
    have f16 := f12.ext E15
    have f17 := f13.ext E15
    have f18 := E11q.ext E15
    have f19 := V11q.ext E15
    have f20 := C11q.ext E15
    have f21 := A11q.ext E15
    have sz15 : n0 ≤ b15 := Nat.le_trans Zs11 (Nat.le_of_eq g15.symm)
    have Zs15 : n0 ≤ h15.size := Nat.le_trans Zs11 E15.1
    have hk := Nat.le_trans hk E15.1
    have F15_value : Fld Z h15 b15 "com/example/wayline/wayline/HeaderReader" "value" "Ljava/lang/String;" .null := D15 (Or.inr (own_w hw 34 rfl)) (ty := (.object "java/lang/String")) (by decide)
    have F15_position : Fld Z h15 b15 "com/example/wayline/wayline/HeaderReader" "position" "I" (.int (0 : Int32)) := D15 (Or.inl (own_w hw 41 rfl)) (ty := .int) (by decide)
    refine own_toW T15 (mkF m 116 #[.val (.int i0), .val (.int i1), .val (.int i2), .val (.int i3), .val (.int i4), .val (.int (0 : Int32)), .val (.int va), .val (.int vb), .val (.int vc), .val (.ref b4), .val (.ref b7), .unset, .unset, .unset, .unset, .unset, .unset] [(.ref b7), (.ref b15), (.ref b15)]) (fun tq kq => st15 _ (XS.dup X15.here hx rfl (hb hby at_113) rfl rfl (XS.aload X15.here hx rfl (hb hby at_114) rfl rfl kq))) ?_
    obtain ⟨_, _, ⟨T22, L22, k22, n22⟩, -, X22, ⟨Lc22, hQ22, l22, y22, z22⟩, st22⟩ := X15.specialBack hx (y := (⟨"com/example/wayline/wayline/HeaderReader", "<init>", "(Ljava/lang/String;)V"⟩ : MethodName)) rfl hown (mvT hZ (own_w hw 29 rfl)) (mvT hZ (own_w hw 30 rfl)) (mvT hZ (own_w hw 31 rfl)) (by decide) (backOf (W := 1) (rmHI l Z a0 hw [] b15 b7 h15 n0 Zs15 A15 F15_value F15_position sz15) hZ (own_w hw 31 rfl) (own_w hw 28 rfl) (by decide) (by decide)) (g := (mkF m 116 #[.val (.int i0), .val (.int i1), .val (.int i2), .val (.int i3), .val (.int i4), .val (.int (0 : Int32)), .val (.int va), .val (.int vb), .val (.int vc), .val (.ref b4), .val (.ref b7), .unset, .unset, .unset, .unset, .unset, .unset] [(.ref b7), (.ref b15), (.ref b15)])) rfl (by rw [hml]; rfl) (Steps.refl _) (a := b15) (argsL := [(.ref b7)]) (rest := [(.ref b15)]) (lenOf pd_4 rfl) rfl (by show 2 * 0 + _ ≤ _; exact Nat.le_of_eq rfl) (hb hby at_116) (fun _ _ => ⟨rfl, e15, (by decide : 7 + 0 ≤ _), (by decide : 14 + 0 ≤ _)⟩)
    dsimp only [Pt.U, Pt.locs, Pt.cells, Pt.slots] at X22 l22 y22 z22 st22 hQ22
    have l22y := l22.symm
    clear l22
    subst l22y
    obtain rfl : k22 = 7 := y22
    obtain rfl : n22 = 14 := z22
    obtain ⟨rfl, N22q, K22q, E22q, V22q, P22q⟩ := hQ22
    have N22 := Fr.app N11 N22q
    have f23 := own_staX f16 K22q A15
    have f24 := own_staX f17 K22q A15
    have f25 := f18.keep K22q
    have f26 := f19.keep K22q (ninS ne_b7_b15 nin0)
    have f27 := f20.keep K22q (ninS ne_b7_b15 nin0)
    have f28 := f21.keep K22q (ninS ne_t11_b15 nin0)
    have f29 := A15.keep K22q
    have Zs22 : n0 ≤ T22.heap.size := Nat.le_trans Zs15 K22q.1
    have hk := Nat.le_trans hk K22q.1
    refine own_toW T22 (mkF m 123 #[.val (.int i0), .val (.int i1), .val (.int i2), .val (.int i3), .val (.int i4), .val (.int (0 : Int32)), .val (.int va), .val (.int vb), .val (.int vc), .val (.ref b4), .val (.ref b7), .val (.ref b15), .unset, .unset, .unset, .unset, .unset] [(.ref b15)]) (fun tq kq => st22.trans (XS.astore X22.here hx rfl (hb hby at_119) rfl rfl (l' := #[.val (.int i0), .val (.int i1), .val (.int i2), .val (.int i3), .val (.int i4), .val (.int (0 : Int32)), .val (.int va), .val (.int vb), .val (.int vc), .val (.ref b4), .val (.ref b7), .val (.ref b15), .unset, .unset, .unset, .unset, .unset]) rfl (XS.aload X22.here hx rfl (hb hby at_121) rfl rfl kq))) ?_
    obtain ⟨cq30, kq30, q30a, q30b, q30c⟩ := isOf hZ rfl E22q
    obtain ⟨_, _, ⟨T30, L30, k30, n30⟩, -, X30, ⟨Lc30, hQ30, l30, y30, z30⟩, st30⟩ := X22.virtualBack hx (y := (⟨"com/example/wayline/wayline/HeaderReader", "atEnd", "()Z"⟩ : MethodName)) (z := (⟨"com/example/wayline/wayline/HeaderReader", "atEnd", "()Z"⟩ : MethodName)) hown (mvT hZ (own_w hw 35 rfl)) (mvT hZ (own_w hw 36 rfl)) (notFace_of_selects (args := #[]) (mvT hZ (own_w hw 38 rfl))) (mvT hZ (own_w hw 38 rfl)) (mvT hZ (own_w hw 37 rfl)) (by decide) (backOf (W := 0) (rmEnd l Z a0 hw [] b15 b7 t11 0 0 f11q G1 T22.heap n0 Zs22 f23 hG V22q P22q f25 f26 f27 f28 (by omega) (by omega)) hZ (own_w hw 39 rfl) (own_w hw 28 rfl) (by decide) (by decide)) q30a q30c (g := (mkF m 123 #[.val (.int i0), .val (.int i1), .val (.int i2), .val (.int i3), .val (.int i4), .val (.int (0 : Int32)), .val (.int va), .val (.int vb), .val (.int vc), .val (.ref b4), .val (.ref b7), .val (.ref b15), .unset, .unset, .unset, .unset, .unset] [(.ref b15)])) rfl (by rw [hml]; rfl) (Steps.refl _) (argsL := []) (rest := []) (lenOf pd_5 rfl) rfl (by show 2 * 0 + _ ≤ _; exact Nat.le_of_eq rfl) (hb hby at_123) (fun _ _ => ⟨rfl, rfl, (by decide : 7 + 0 ≤ _), (by decide : 14 + 0 ≤ _)⟩)
    dsimp only [Pt.U, Pt.locs, Pt.cells, Pt.slots] at X30 l30 y30 z30 st30 hQ30
    have l30y := l30.symm
    clear l30
    subst l30y
    obtain rfl : k30 = 7 := y30
    obtain rfl : n30 = 14 := z30
    obtain ⟨rfl, N30q, e30⟩ := hQ30
    have N30 := Fr.app N22 N30q
    refine own_toW T30 (mkF m 126 #[.val (.int i0), .val (.int i1), .val (.int i2), .val (.int i3), .val (.int i4), .val (.int (0 : Int32)), .val (.int va), .val (.int vb), .val (.int vc), .val (.ref b4), .val (.ref b7), .val (.ref b15), .unset, .unset, .unset, .unset, .unset] [(.int (own_end 0 0))]) (fun tq kq => st30.trans kq) ?_
    rw [show (own_end 0 0) = (1 : Int32) from by decide]
    refine own_toW T30 (mkF m 147 #[.val (.int i0), .val (.int i1), .val (.int i2), .val (.int i3), .val (.int i4), .val (.int (0 : Int32)), .val (.int va), .val (.int vb), .val (.int vc), .val (.ref b4), .val (.ref b7), .val (.ref b15), .val (.int (1 : Int32)), .unset, .unset, .unset, .unset] [(.ref b15)]) (fun tq kq => XS.istore X30.here hx rfl (hb hby at_126) rfl (l' := #[.val (.int i0), .val (.int i1), .val (.int i2), .val (.int i3), .val (.int i4), .val (.int (0 : Int32)), .val (.int va), .val (.int vb), .val (.int vc), .val (.ref b4), .val (.ref b7), .val (.ref b15), .val (.int (1 : Int32)), .unset, .unset, .unset, .unset]) rfl (XS.iload X30.here hx rfl (hb hby at_128) rfl (XS.iload X30.here hx rfl (hb hby at_130) rfl (XS.ifNo X30.here hx rfl (hb hby at_132) rfl ((if0 _ _).trans (teq (by decide : (0 : Int32) = (0 : Int32))).2) (XS.iconst X30.here hx rfl (hb hby at_135) (XS.goto X30.here hx rfl (pc0 := 136) (pc' := 140) rfl (hb hby at_136) (by decide) (by decide) (XS.icmpYes X30.here hx rfl (pc0 := 140) (pc' := 145) rfl (hb hby at_140) rfl (teq (by decide : (1 : Int32) = (1 : Int32))).1 (by decide) (by decide) (XS.aload X30.here hx rfl (hb hby at_145) rfl rfl kq)))))))) ?_
    obtain ⟨cq31, kq31, q31a, q31b, q31c⟩ := isOf hZ e30 E22q
    obtain ⟨_, _, ⟨T31, L31, k31, n31⟩, -, X31, ⟨Lc31, hQ31, l31, y31, z31⟩, st31⟩ := X30.virtualBack hx (y := (⟨"com/example/wayline/wayline/HeaderReader", "atEnd", "()Z"⟩ : MethodName)) (z := (⟨"com/example/wayline/wayline/HeaderReader", "atEnd", "()Z"⟩ : MethodName)) hown (mvT hZ (own_w hw 35 rfl)) (mvT hZ (own_w hw 36 rfl)) (notFace_of_selects (args := #[]) (mvT hZ (own_w hw 38 rfl))) (mvT hZ (own_w hw 38 rfl)) (mvT hZ (own_w hw 37 rfl)) (by decide) (backOf (W := 0) (rmEnd l Z a0 hw [] b15 b7 t11 0 0 f11q G1 T22.heap n0 Zs22 f23 hG V22q P22q f25 f26 f27 f28 (by omega) (by omega)) hZ (own_w hw 39 rfl) (own_w hw 28 rfl) (by decide) (by decide)) q31a q31c (g := (mkF m 147 #[.val (.int i0), .val (.int i1), .val (.int i2), .val (.int i3), .val (.int i4), .val (.int (0 : Int32)), .val (.int va), .val (.int vb), .val (.int vc), .val (.ref b4), .val (.ref b7), .val (.ref b15), .val (.int (1 : Int32)), .unset, .unset, .unset, .unset] [(.ref b15)])) rfl (by rw [hml]; rfl) (Steps.refl _) (argsL := []) (rest := []) (lenOf pd_5 rfl) rfl (by show 2 * 0 + _ ≤ _; exact Nat.le_of_eq rfl) (hb hby at_147) (fun _ _ => ⟨rfl, e30, (by decide : 7 + 0 ≤ _), (by decide : 14 + 0 ≤ _)⟩)
    dsimp only [Pt.U, Pt.locs, Pt.cells, Pt.slots] at X31 l31 y31 z31 st31 hQ31
    have l31y := l31.symm
    clear l31
    subst l31y
    obtain rfl : k31 = 7 := y31
    obtain rfl : n31 = 14 := z31
    obtain ⟨rfl, N31q, e31⟩ := hQ31
    have N31 := Fr.app N30 N31q
    refine own_toW T31 (mkF m 150 #[.val (.int i0), .val (.int i1), .val (.int i2), .val (.int i3), .val (.int i4), .val (.int (0 : Int32)), .val (.int va), .val (.int vb), .val (.int vc), .val (.ref b4), .val (.ref b7), .val (.ref b15), .val (.int (1 : Int32)), .unset, .unset, .unset, .unset] [(.int (own_end 0 0))]) (fun tq kq => st31.trans kq) ?_
    rw [show (own_end 0 0) = (1 : Int32) from by decide]
    refine own_toW T31 (mkF m 161 #[.val (.int i0), .val (.int i1), .val (.int i2), .val (.int i3), .val (.int i4), .val (.int (0 : Int32)), .val (.int va), .val (.int vb), .val (.int vc), .val (.ref b4), .val (.ref b7), .val (.ref b15), .val (.int (1 : Int32)), .unset, .unset, .unset, .unset] [(.int (i4 &&& (1 : Int32)))]) (fun tq kq => XS.iload X31.here hx rfl (hb hby at_150) rfl (XS.icmpYes X31.here hx rfl (pc0 := 152) (pc' := 157) rfl (hb hby at_152) rfl (teq (by decide : (1 : Int32) = (1 : Int32))).1 (by decide) (by decide) (XS.iload X31.here hx rfl (hb hby at_157) rfl (XS.iconst X31.here hx rfl (hb hby at_159) (XS.iand X31.here hx rfl (hb hby at_160) rfl kq))))) ?_
    by_cases c161 : (i4 &&& (1 : Int32)) = (0 : Int32)
    · skip
      refine own_toW T31 (mkF m 171 #[.val (.int i0), .val (.int i1), .val (.int i2), .val (.int i3), .val (.int i4), .val (.int (0 : Int32)), .val (.int va), .val (.int vb), .val (.int vc), .val (.ref b4), .val (.ref b7), .val (.ref b15), .val (.int (1 : Int32)), .unset, .unset, .unset, .unset] [(.ref b15)]) (fun tq kq => XS.ifYes X31.here hx rfl (pc0 := 161) (pc' := 169) rfl (hb hby at_161) rfl ((if0 _ _).trans (teq c161).1) (by decide) (by decide) (XS.aload X31.here hx rfl (hb hby at_169) rfl rfl kq)) ?_
      obtain ⟨cq32, kq32, q32a, q32b, q32c⟩ := isOf hZ e31 E22q
      obtain ⟨_, _, ⟨T32, L32, k32, n32⟩, -, X32, ⟨Lc32, hQ32, l32, y32, z32⟩, st32⟩ := X31.virtualBack hx (y := (⟨"com/example/wayline/wayline/HeaderReader", "skipWhiteSpace", "()V"⟩ : MethodName)) (z := (⟨"com/example/wayline/wayline/HeaderReader", "skipWhiteSpace", "()V"⟩ : MethodName)) hown (mvT hZ (own_w hw 53 rfl)) (mvT hZ (own_w hw 54 rfl)) (notFace_of_selects (args := #[]) (mvT hZ (own_w hw 56 rfl))) (mvT hZ (own_w hw 56 rfl)) (mvT hZ (own_w hw 55 rfl)) (by decide) (backOf (W := 0) (rmSkip l Z a0 hw [] b15 b7 t11 0 0 f11q G1 vF T22.heap n0 Zs22 f23 hG f24 hvF E22q V22q P22q f25 f26 f27 f28 (by omega) (by omega) (Ne.symm ne_b7_b15) (Ne.symm ne_t11_b15) sz15) hZ (own_w hw 57 rfl) (own_w hw 28 rfl) (by decide) (by decide)) q32a q32c (g := (mkF m 171 #[.val (.int i0), .val (.int i1), .val (.int i2), .val (.int i3), .val (.int i4), .val (.int (0 : Int32)), .val (.int va), .val (.int vb), .val (.int vc), .val (.ref b4), .val (.ref b7), .val (.ref b15), .val (.int (1 : Int32)), .unset, .unset, .unset, .unset] [(.ref b15)])) rfl (by rw [hml]; rfl) (Steps.refl _) (argsL := []) (rest := []) (lenOf pd_3 rfl) rfl (by show 2 * 0 + _ ≤ _; exact Nat.le_of_eq rfl) (hb hby at_171) (fun _ _ => ⟨rfl, e31, (by decide : 7 + 0 ≤ _), (by decide : 14 + 0 ≤ _)⟩)
      dsimp only [Pt.U, Pt.locs, Pt.cells, Pt.slots] at X32 l32 y32 z32 st32 hQ32
      have l32y := l32.symm
      clear l32
      subst l32y
      obtain rfl : k32 = 7 := y32
      obtain rfl : n32 = 14 := z32
      obtain ⟨rfl, N32q, K32q, E32q, V32q, q1, hq0, hqn, P32q, hall, hstop⟩ := hQ32
      have N32 := Fr.app N31 N32q
      have f33 := own_staX f23 K32q E22q
      have f34 := own_staX f24 K32q E22q
      have f35 := f25.keep K32q
      have f36 := f26.keep K32q (ninS ne_b7_b15 nin0)
      have f37 := f27.keep K32q (ninS ne_b7_b15 nin0)
      have f38 := f28.keep K32q (ninS ne_t11_b15 nin0)
      have f39 := E22q.keep K32q
      have Zs32 : n0 ≤ T32.heap.size := Nat.le_trans Zs22 K32q.1
      have hk := Nat.le_trans hk K32q.1
      refine own_toW T32 (mkF m 209 #[.val (.int i0), .val (.int i1), .val (.int i2), .val (.int i3), .val (.int i4), .val (.int (0 : Int32)), .val (.int va), .val (.int vb), .val (.int vc), .val (.ref b4), .val (.ref b7), .val (.ref b15), .val (.int (1 : Int32)), .unset, .val (.int (1 : Int32)), .unset, .unset] []) (fun tq kq => st32.trans (XS.iload X32.here hx rfl (hb hby at_174) rfl (XS.iconst X32.here hx rfl (hb hby at_176) (XS.icmpYes X32.here hx rfl (pc0 := 177) (pc' := 188) rfl (hb hby at_177) rfl (tlt (by decide : (0 : Int32) < (1 : Int32))).1 (by decide) (by decide) (XS.iconst X32.here hx rfl (hb hby at_188) (XS.goto X32.here hx rfl (pc0 := 189) (pc' := 193) rfl (hb hby at_189) (by decide) (by decide) (XS.istore X32.here hx rfl (hb hby at_193) rfl (l' := #[.val (.int i0), .val (.int i1), .val (.int i2), .val (.int i3), .val (.int i4), .val (.int (0 : Int32)), .val (.int va), .val (.int vb), .val (.int vc), .val (.ref b4), .val (.ref b7), .val (.ref b15), .val (.int (1 : Int32)), .unset, .val (.int (1 : Int32)), .unset, .unset]) rfl (XS.iload X32.here hx rfl (hb hby at_195) rfl (XS.iconst X32.here hx rfl (hb hby at_197) (XS.icmpYes X32.here hx rfl (pc0 := 198) (pc' := 209) rfl (hb hby at_198) rfl (tlt (by decide : (0 : Int32) < (2 : Int32))).1 (by decide) (by decide) kq)))))))))) ?_
      refine own_toW T32 (mkF m 239 #[.val (.int i0), .val (.int i1), .val (.int i2), .val (.int i3), .val (.int i4), .val (.int (0 : Int32)), .val (.int va), .val (.int vb), .val (.int vc), .val (.ref b4), .val (.ref b7), .val (.ref b15), .val (.int (1 : Int32)), .unset, .val (.int (1 : Int32)), .val (.int (1 : Int32)), .val (.int (1 : Int32))] [(.int (1 : Int32))]) (fun tq kq => XS.iconst X32.here hx rfl (hb hby at_209) (XS.goto X32.here hx rfl (pc0 := 210) (pc' := 214) rfl (hb hby at_210) (by decide) (by decide) (XS.istore X32.here hx rfl (hb hby at_214) rfl (l' := #[.val (.int i0), .val (.int i1), .val (.int i2), .val (.int i3), .val (.int i4), .val (.int (0 : Int32)), .val (.int va), .val (.int vb), .val (.int vc), .val (.ref b4), .val (.ref b7), .val (.ref b15), .val (.int (1 : Int32)), .unset, .val (.int (1 : Int32)), .val (.int (1 : Int32)), .unset]) rfl (XS.iload X32.here hx rfl (hb hby at_216) rfl (XS.iconst X32.here hx rfl (hb hby at_218) (XS.icmpYes X32.here hx rfl (pc0 := 219) (pc' := 230) rfl (hb hby at_219) rfl (tlt (by decide : (0 : Int32) < (3 : Int32))).1 (by decide) (by decide) (XS.iconst X32.here hx rfl (hb hby at_230) (XS.goto X32.here hx rfl (pc0 := 231) (pc' := 235) rfl (hb hby at_231) (by decide) (by decide) (XS.istore X32.here hx rfl (hb hby at_235) rfl (l' := #[.val (.int i0), .val (.int i1), .val (.int i2), .val (.int i3), .val (.int i4), .val (.int (0 : Int32)), .val (.int va), .val (.int vb), .val (.int vc), .val (.ref b4), .val (.ref b7), .val (.ref b15), .val (.int (1 : Int32)), .unset, .val (.int (1 : Int32)), .val (.int (1 : Int32)), .val (.int (1 : Int32))]) rfl (XS.iload X32.here hx rfl (hb hby at_237) rfl kq)))))))))) ?_
      refine own_toW T32 (mkF m 350 #[.val (.int i0), .val (.int i1), .val (.int i2), .val (.int i3), .val (.int i4), .val (.int (0 : Int32)), .val (.int va), .val (.int vb), .val (.int vc), .val (.ref b4), .val (.ref b7), .val (.ref b15), .val (.int (1 : Int32)), .val (.int (1 : Int32)), .val (.int (1 : Int32)), .val (.int (1 : Int32)), .val (.int (1 : Int32))] [(.ref b15)]) (fun tq kq => XS.ifNo X32.here hx rfl (hb hby at_239) rfl ((if0 _ _).trans (feq (by decide : ¬ ((1 : Int32) = (0 : Int32)))).1) (XS.iload X32.here hx rfl (hb hby at_242) rfl (XS.ifNo X32.here hx rfl (hb hby at_244) rfl ((if0 _ _).trans (feq (by decide : ¬ ((1 : Int32) = (0 : Int32)))).1) (XS.iload X32.here hx rfl (hb hby at_247) rfl (XS.ifNo X32.here hx rfl (hb hby at_249) rfl ((if0 _ _).trans (feq (by decide : ¬ ((1 : Int32) = (0 : Int32)))).1) (XS.iconst X32.here hx rfl (hb hby at_252) (XS.goto X32.here hx rfl (pc0 := 253) (pc' := 257) rfl (hb hby at_253) (by decide) (by decide) (XS.istore X32.here hx rfl (hb hby at_257) rfl (l' := #[.val (.int i0), .val (.int i1), .val (.int i2), .val (.int i3), .val (.int i4), .val (.int (0 : Int32)), .val (.int va), .val (.int vb), .val (.int vc), .val (.ref b4), .val (.ref b7), .val (.ref b15), .val (.int (1 : Int32)), .val (.int (1 : Int32)), .val (.int (1 : Int32)), .val (.int (1 : Int32)), .val (.int (1 : Int32))]) rfl (XS.goto X32.here hx rfl (pc0 := 259) (pc' := 348) rfl (hb hby at_259) (by decide) (by decide) (XS.aload X32.here hx rfl (hb hby at_348) rfl rfl kq)))))))))) ?_
      obtain ⟨cq40, kq40, q40a, q40b, q40c⟩ := isOf hZ rfl E32q
      obtain ⟨_, _, ⟨T40, L40, k40, n40⟩, -, X40, ⟨Lc40, hQ40, l40, y40, z40⟩, st40⟩ := X32.virtualBack hx (y := (⟨"com/example/wayline/wayline/HeaderReader", "atEnd", "()Z"⟩ : MethodName)) (z := (⟨"com/example/wayline/wayline/HeaderReader", "atEnd", "()Z"⟩ : MethodName)) hown (mvT hZ (own_w hw 35 rfl)) (mvT hZ (own_w hw 36 rfl)) (notFace_of_selects (args := #[]) (mvT hZ (own_w hw 38 rfl))) (mvT hZ (own_w hw 38 rfl)) (mvT hZ (own_w hw 37 rfl)) (by decide) (backOf (W := 0) (rmEnd l Z a0 hw [] b15 b7 t11 q1 0 f11q G1 T32.heap n0 Zs32 f33 hG V32q P32q f35 f36 f37 f38 (by omega) (by omega)) hZ (own_w hw 39 rfl) (own_w hw 28 rfl) (by decide) (by decide)) q40a q40c (g := (mkF m 350 #[.val (.int i0), .val (.int i1), .val (.int i2), .val (.int i3), .val (.int i4), .val (.int (0 : Int32)), .val (.int va), .val (.int vb), .val (.int vc), .val (.ref b4), .val (.ref b7), .val (.ref b15), .val (.int (1 : Int32)), .val (.int (1 : Int32)), .val (.int (1 : Int32)), .val (.int (1 : Int32)), .val (.int (1 : Int32))] [(.ref b15)])) rfl (by rw [hml]; rfl) (Steps.refl _) (argsL := []) (rest := []) (lenOf pd_5 rfl) rfl (by show 2 * 0 + _ ≤ _; exact Nat.le_of_eq rfl) (hb hby at_350) (fun _ _ => ⟨rfl, rfl, (by decide : 7 + 0 ≤ _), (by decide : 14 + 0 ≤ _)⟩)
      dsimp only [Pt.U, Pt.locs, Pt.cells, Pt.slots] at X40 l40 y40 z40 st40 hQ40
      have l40y := l40.symm
      clear l40
      subst l40y
      obtain rfl : k40 = 7 := y40
      obtain rfl : n40 = 14 := z40
      obtain ⟨rfl, N40q, e40⟩ := hQ40
      have N40 := Fr.app N32 N40q
      refine own_toW T40 (mkF m 353 #[.val (.int i0), .val (.int i1), .val (.int i2), .val (.int i3), .val (.int i4), .val (.int (0 : Int32)), .val (.int va), .val (.int vb), .val (.int vc), .val (.ref b4), .val (.ref b7), .val (.ref b15), .val (.int (1 : Int32)), .val (.int (1 : Int32)), .val (.int (1 : Int32)), .val (.int (1 : Int32)), .val (.int (1 : Int32))] [(.int (own_end q1 0))]) (fun tq kq => st40.trans kq) ?_
      rw [show (own_end q1 0) = (1 : Int32) from if_neg (by omega)]
      refine own_toW T40 (mkF m 363 #[.val (.int i0), .val (.int i1), .val (.int i2), .val (.int i3), .val (.int i4), .val (.int (0 : Int32)), .val (.int va), .val (.int vb), .val (.int vc), .val (.ref b4), .val (.ref b7), .val (.ref b15), .val (.int (1 : Int32)), .val (.int (1 : Int32)), .val (.int (1 : Int32)), .val (.int (1 : Int32)), .val (.int (1 : Int32))] [(.int (1 : Int32))]) (fun tq kq => XS.iload X40.here hx rfl (hb hby at_353) rfl (XS.icmpNo X40.here hx rfl (hb hby at_355) rfl (teq (by decide : (1 : Int32) = (1 : Int32))).2 (XS.iconst X40.here hx rfl (hb hby at_358) (XS.goto X40.here hx rfl (pc0 := 359) (pc' := 363) rfl (hb hby at_359) (by decide) (by decide) kq)))) ?_
      exact own_retZW X40 hS (by rw [e40]; exact hk) hx hret hlk (hb hby at_363) (by decide) (by decide) (Or.inr rfl) ⟨rfl, N40⟩
    · skip
      refine own_toW T31 (mkF m 171 #[.val (.int i0), .val (.int i1), .val (.int i2), .val (.int i3), .val (.int i4), .val (.int (0 : Int32)), .val (.int va), .val (.int vb), .val (.int vc), .val (.ref b4), .val (.ref b7), .val (.ref b15), .val (.int (1 : Int32)), .unset, .unset, .unset, .unset] [(.ref b15)]) (fun tq kq => XS.ifNo X31.here hx rfl (hb hby at_161) rfl ((if0 _ _).trans (feq c161).1) (XS.iload X31.here hx rfl (hb hby at_164) rfl (XS.ifNo X31.here hx rfl (hb hby at_166) rfl ((if0 _ _).trans (teq (by decide : (0 : Int32) = (0 : Int32))).2) (XS.aload X31.here hx rfl (hb hby at_169) rfl rfl kq)))) ?_
      obtain ⟨cq41, kq41, q41a, q41b, q41c⟩ := isOf hZ e31 E22q
      obtain ⟨_, _, ⟨T41, L41, k41, n41⟩, -, X41, ⟨Lc41, hQ41, l41, y41, z41⟩, st41⟩ := X31.virtualBack hx (y := (⟨"com/example/wayline/wayline/HeaderReader", "skipWhiteSpace", "()V"⟩ : MethodName)) (z := (⟨"com/example/wayline/wayline/HeaderReader", "skipWhiteSpace", "()V"⟩ : MethodName)) hown (mvT hZ (own_w hw 53 rfl)) (mvT hZ (own_w hw 54 rfl)) (notFace_of_selects (args := #[]) (mvT hZ (own_w hw 56 rfl))) (mvT hZ (own_w hw 56 rfl)) (mvT hZ (own_w hw 55 rfl)) (by decide) (backOf (W := 0) (rmSkip l Z a0 hw [] b15 b7 t11 0 0 f11q G1 vF T22.heap n0 Zs22 f23 hG f24 hvF E22q V22q P22q f25 f26 f27 f28 (by omega) (by omega) (Ne.symm ne_b7_b15) (Ne.symm ne_t11_b15) sz15) hZ (own_w hw 57 rfl) (own_w hw 28 rfl) (by decide) (by decide)) q41a q41c (g := (mkF m 171 #[.val (.int i0), .val (.int i1), .val (.int i2), .val (.int i3), .val (.int i4), .val (.int (0 : Int32)), .val (.int va), .val (.int vb), .val (.int vc), .val (.ref b4), .val (.ref b7), .val (.ref b15), .val (.int (1 : Int32)), .unset, .unset, .unset, .unset] [(.ref b15)])) rfl (by rw [hml]; rfl) (Steps.refl _) (argsL := []) (rest := []) (lenOf pd_3 rfl) rfl (by show 2 * 0 + _ ≤ _; exact Nat.le_of_eq rfl) (hb hby at_171) (fun _ _ => ⟨rfl, e31, (by decide : 7 + 0 ≤ _), (by decide : 14 + 0 ≤ _)⟩)
      dsimp only [Pt.U, Pt.locs, Pt.cells, Pt.slots] at X41 l41 y41 z41 st41 hQ41
      have l41y := l41.symm
      clear l41
      subst l41y
      obtain rfl : k41 = 7 := y41
      obtain rfl : n41 = 14 := z41
      obtain ⟨rfl, N41q, K41q, E41q, V41q, q1, hq0, hqn, P41q, hall, hstop⟩ := hQ41
      have N41 := Fr.app N31 N41q
      have f42 := own_staX f23 K41q E22q
      have f43 := own_staX f24 K41q E22q
      have f44 := f25.keep K41q
      have f45 := f26.keep K41q (ninS ne_b7_b15 nin0)
      have f46 := f27.keep K41q (ninS ne_b7_b15 nin0)
      have f47 := f28.keep K41q (ninS ne_t11_b15 nin0)
      have f48 := E22q.keep K41q
      have Zs41 : n0 ≤ T41.heap.size := Nat.le_trans Zs22 K41q.1
      have hk := Nat.le_trans hk K41q.1
      refine own_toW T41 (mkF m 209 #[.val (.int i0), .val (.int i1), .val (.int i2), .val (.int i3), .val (.int i4), .val (.int (0 : Int32)), .val (.int va), .val (.int vb), .val (.int vc), .val (.ref b4), .val (.ref b7), .val (.ref b15), .val (.int (1 : Int32)), .unset, .val (.int (1 : Int32)), .unset, .unset] []) (fun tq kq => st41.trans (XS.iload X41.here hx rfl (hb hby at_174) rfl (XS.iconst X41.here hx rfl (hb hby at_176) (XS.icmpYes X41.here hx rfl (pc0 := 177) (pc' := 188) rfl (hb hby at_177) rfl (tlt (by decide : (0 : Int32) < (1 : Int32))).1 (by decide) (by decide) (XS.iconst X41.here hx rfl (hb hby at_188) (XS.goto X41.here hx rfl (pc0 := 189) (pc' := 193) rfl (hb hby at_189) (by decide) (by decide) (XS.istore X41.here hx rfl (hb hby at_193) rfl (l' := #[.val (.int i0), .val (.int i1), .val (.int i2), .val (.int i3), .val (.int i4), .val (.int (0 : Int32)), .val (.int va), .val (.int vb), .val (.int vc), .val (.ref b4), .val (.ref b7), .val (.ref b15), .val (.int (1 : Int32)), .unset, .val (.int (1 : Int32)), .unset, .unset]) rfl (XS.iload X41.here hx rfl (hb hby at_195) rfl (XS.iconst X41.here hx rfl (hb hby at_197) (XS.icmpYes X41.here hx rfl (pc0 := 198) (pc' := 209) rfl (hb hby at_198) rfl (tlt (by decide : (0 : Int32) < (2 : Int32))).1 (by decide) (by decide) kq)))))))))) ?_
      refine own_toW T41 (mkF m 239 #[.val (.int i0), .val (.int i1), .val (.int i2), .val (.int i3), .val (.int i4), .val (.int (0 : Int32)), .val (.int va), .val (.int vb), .val (.int vc), .val (.ref b4), .val (.ref b7), .val (.ref b15), .val (.int (1 : Int32)), .unset, .val (.int (1 : Int32)), .val (.int (1 : Int32)), .val (.int (1 : Int32))] [(.int (1 : Int32))]) (fun tq kq => XS.iconst X41.here hx rfl (hb hby at_209) (XS.goto X41.here hx rfl (pc0 := 210) (pc' := 214) rfl (hb hby at_210) (by decide) (by decide) (XS.istore X41.here hx rfl (hb hby at_214) rfl (l' := #[.val (.int i0), .val (.int i1), .val (.int i2), .val (.int i3), .val (.int i4), .val (.int (0 : Int32)), .val (.int va), .val (.int vb), .val (.int vc), .val (.ref b4), .val (.ref b7), .val (.ref b15), .val (.int (1 : Int32)), .unset, .val (.int (1 : Int32)), .val (.int (1 : Int32)), .unset]) rfl (XS.iload X41.here hx rfl (hb hby at_216) rfl (XS.iconst X41.here hx rfl (hb hby at_218) (XS.icmpYes X41.here hx rfl (pc0 := 219) (pc' := 230) rfl (hb hby at_219) rfl (tlt (by decide : (0 : Int32) < (3 : Int32))).1 (by decide) (by decide) (XS.iconst X41.here hx rfl (hb hby at_230) (XS.goto X41.here hx rfl (pc0 := 231) (pc' := 235) rfl (hb hby at_231) (by decide) (by decide) (XS.istore X41.here hx rfl (hb hby at_235) rfl (l' := #[.val (.int i0), .val (.int i1), .val (.int i2), .val (.int i3), .val (.int i4), .val (.int (0 : Int32)), .val (.int va), .val (.int vb), .val (.int vc), .val (.ref b4), .val (.ref b7), .val (.ref b15), .val (.int (1 : Int32)), .unset, .val (.int (1 : Int32)), .val (.int (1 : Int32)), .val (.int (1 : Int32))]) rfl (XS.iload X41.here hx rfl (hb hby at_237) rfl kq)))))))))) ?_
      refine own_toW T41 (mkF m 350 #[.val (.int i0), .val (.int i1), .val (.int i2), .val (.int i3), .val (.int i4), .val (.int (0 : Int32)), .val (.int va), .val (.int vb), .val (.int vc), .val (.ref b4), .val (.ref b7), .val (.ref b15), .val (.int (1 : Int32)), .val (.int (1 : Int32)), .val (.int (1 : Int32)), .val (.int (1 : Int32)), .val (.int (1 : Int32))] [(.ref b15)]) (fun tq kq => XS.ifNo X41.here hx rfl (hb hby at_239) rfl ((if0 _ _).trans (feq (by decide : ¬ ((1 : Int32) = (0 : Int32)))).1) (XS.iload X41.here hx rfl (hb hby at_242) rfl (XS.ifNo X41.here hx rfl (hb hby at_244) rfl ((if0 _ _).trans (feq (by decide : ¬ ((1 : Int32) = (0 : Int32)))).1) (XS.iload X41.here hx rfl (hb hby at_247) rfl (XS.ifNo X41.here hx rfl (hb hby at_249) rfl ((if0 _ _).trans (feq (by decide : ¬ ((1 : Int32) = (0 : Int32)))).1) (XS.iconst X41.here hx rfl (hb hby at_252) (XS.goto X41.here hx rfl (pc0 := 253) (pc' := 257) rfl (hb hby at_253) (by decide) (by decide) (XS.istore X41.here hx rfl (hb hby at_257) rfl (l' := #[.val (.int i0), .val (.int i1), .val (.int i2), .val (.int i3), .val (.int i4), .val (.int (0 : Int32)), .val (.int va), .val (.int vb), .val (.int vc), .val (.ref b4), .val (.ref b7), .val (.ref b15), .val (.int (1 : Int32)), .val (.int (1 : Int32)), .val (.int (1 : Int32)), .val (.int (1 : Int32)), .val (.int (1 : Int32))]) rfl (XS.goto X41.here hx rfl (pc0 := 259) (pc' := 348) rfl (hb hby at_259) (by decide) (by decide) (XS.aload X41.here hx rfl (hb hby at_348) rfl rfl kq)))))))))) ?_
      obtain ⟨cq49, kq49, q49a, q49b, q49c⟩ := isOf hZ rfl E41q
      obtain ⟨_, _, ⟨T49, L49, k49, n49⟩, -, X49, ⟨Lc49, hQ49, l49, y49, z49⟩, st49⟩ := X41.virtualBack hx (y := (⟨"com/example/wayline/wayline/HeaderReader", "atEnd", "()Z"⟩ : MethodName)) (z := (⟨"com/example/wayline/wayline/HeaderReader", "atEnd", "()Z"⟩ : MethodName)) hown (mvT hZ (own_w hw 35 rfl)) (mvT hZ (own_w hw 36 rfl)) (notFace_of_selects (args := #[]) (mvT hZ (own_w hw 38 rfl))) (mvT hZ (own_w hw 38 rfl)) (mvT hZ (own_w hw 37 rfl)) (by decide) (backOf (W := 0) (rmEnd l Z a0 hw [] b15 b7 t11 q1 0 f11q G1 T41.heap n0 Zs41 f42 hG V41q P41q f44 f45 f46 f47 (by omega) (by omega)) hZ (own_w hw 39 rfl) (own_w hw 28 rfl) (by decide) (by decide)) q49a q49c (g := (mkF m 350 #[.val (.int i0), .val (.int i1), .val (.int i2), .val (.int i3), .val (.int i4), .val (.int (0 : Int32)), .val (.int va), .val (.int vb), .val (.int vc), .val (.ref b4), .val (.ref b7), .val (.ref b15), .val (.int (1 : Int32)), .val (.int (1 : Int32)), .val (.int (1 : Int32)), .val (.int (1 : Int32)), .val (.int (1 : Int32))] [(.ref b15)])) rfl (by rw [hml]; rfl) (Steps.refl _) (argsL := []) (rest := []) (lenOf pd_5 rfl) rfl (by show 2 * 0 + _ ≤ _; exact Nat.le_of_eq rfl) (hb hby at_350) (fun _ _ => ⟨rfl, rfl, (by decide : 7 + 0 ≤ _), (by decide : 14 + 0 ≤ _)⟩)
      dsimp only [Pt.U, Pt.locs, Pt.cells, Pt.slots] at X49 l49 y49 z49 st49 hQ49
      have l49y := l49.symm
      clear l49
      subst l49y
      obtain rfl : k49 = 7 := y49
      obtain rfl : n49 = 14 := z49
      obtain ⟨rfl, N49q, e49⟩ := hQ49
      have N49 := Fr.app N41 N49q
      refine own_toW T49 (mkF m 353 #[.val (.int i0), .val (.int i1), .val (.int i2), .val (.int i3), .val (.int i4), .val (.int (0 : Int32)), .val (.int va), .val (.int vb), .val (.int vc), .val (.ref b4), .val (.ref b7), .val (.ref b15), .val (.int (1 : Int32)), .val (.int (1 : Int32)), .val (.int (1 : Int32)), .val (.int (1 : Int32)), .val (.int (1 : Int32))] [(.int (own_end q1 0))]) (fun tq kq => st49.trans kq) ?_
      rw [show (own_end q1 0) = (1 : Int32) from if_neg (by omega)]
      refine own_toW T49 (mkF m 363 #[.val (.int i0), .val (.int i1), .val (.int i2), .val (.int i3), .val (.int i4), .val (.int (0 : Int32)), .val (.int va), .val (.int vb), .val (.int vc), .val (.ref b4), .val (.ref b7), .val (.ref b15), .val (.int (1 : Int32)), .val (.int (1 : Int32)), .val (.int (1 : Int32)), .val (.int (1 : Int32)), .val (.int (1 : Int32))] [(.int (1 : Int32))]) (fun tq kq => XS.iload X49.here hx rfl (hb hby at_353) rfl (XS.icmpNo X49.here hx rfl (hb hby at_355) rfl (teq (by decide : (1 : Int32) = (1 : Int32))).2 (XS.iconst X49.here hx rfl (hb hby at_358) (XS.goto X49.here hx rfl (pc0 := 359) (pc' := 363) rfl (hb hby at_359) (by decide) (by decide) kq)))) ?_
      exact own_retZW X49 hS (by rw [e49]; exact hk) hx hret hlk (hb hby at_363) (by decide) (by decide) (Or.inr rfl) ⟨rfl, N49⟩
  · skip
    rw [show Int32.ofNat 1 = (1 : Int32) from rfl]
    refine own_toW T3 (mkF m 43 #[.val (.int i0), .val (.int i1), .val (.int i2), .val (.int i3), .val (.int i4), .val (.int (1 : Int32)), .val (.int va), .val (.int vb), .val (.int vc), .unset, .unset, .unset, .unset, .unset, .unset, .unset, .unset] [(.int (1 : Int32))]) (fun tq kq => XS.iload X3.here hx rfl (hb hby at_23) rfl (XS.ifYes X3.here hx rfl (pc0 := 25) (pc' := 36) rfl (hb hby at_25) rfl ((if0 _ _).trans (feq (by decide : ¬ ((1 : Int32) = (0 : Int32)))).2) (by decide) (by decide) (XS.iload X3.here hx rfl (hb hby at_36) rfl (XS.iconst X3.here hx rfl (hb hby at_38) (XS.icmpNo X3.here hx rfl (hb hby at_39) rfl (teq (by decide : (1 : Int32) = (1 : Int32))).2 (XS.iconst X3.here hx rfl (hb hby at_42) kq)))))) ?_
    obtain ⟨T50, h50, k50, X50, e50, E50, A50, st50⟩ := newP X3 hx hZ (own_w hw 4 rfl) e3 (g := (mkF m 43 #[.val (.int i0), .val (.int i1), .val (.int i2), .val (.int i3), .val (.int i4), .val (.int (1 : Int32)), .val (.int va), .val (.int vb), .val (.int vc), .unset, .unset, .unset, .unset, .unset, .unset, .unset, .unset] [(.int (1 : Int32))])) rfl (hb hby at_43) rfl (by decide) (cap := 1) (by decide) (by decide) (by decide) (by decide)
    obtain ⟨b50, g50⟩ : ∃ z, z = h0.size := ⟨_, rfl⟩
    rw [← g50] at A50 st50
    have f51 := O2.ext E50
    have f52 := O4.ext E50
    have sz50 : n0 ≤ b50 := Nat.le_trans Z0 (Nat.le_of_eq g50.symm)
    have Zs50 : n0 ≤ h50.size := Nat.le_trans Z0 E50.1
    have hk := Nat.le_trans hk E50.1
    have V50 : Arv Z h50 b50 k50 .char (1 : Int32) [] (.int (0 : Int32)) := Arv.new A50 (by decide)
    refine own_toW T50 (mkF m 49 #[.val (.int i0), .val (.int i1), .val (.int i2), .val (.int i3), .val (.int i4), .val (.int (1 : Int32)), .val (.int va), .val (.int vb), .val (.int vc), .unset, .unset, .unset, .unset, .unset, .unset, .unset, .unset] [(.int va), (.int (0 : Int32)), (.ref b50), (.ref b50)]) (fun tq kq => st50 _ (XS.dup X50.here hx rfl (hb hby at_45) rfl rfl (XS.iconst X50.here hx rfl (hb hby at_46) (XS.iload X50.here hx rfl (hb hby at_47) rfl kq)))) ?_
    have Po54 := V50.pad (pad_rep [] (.int (0 : Int32)) 1)
    obtain ⟨co54, Aro54, qo54, So54, Mo54, Ho54, Uo54⟩ := Po54
    obtain ⟨T53, h53, X53, e53, W53, st53⟩ := stC X50 hx hZ e50 Aro54 (j := (0 : Int32)) (inb_of So54 ⟨by decide, by decide⟩) (g := (mkF m 49 #[.val (.int i0), .val (.int i1), .val (.int i2), .val (.int i3), .val (.int i4), .val (.int (1 : Int32)), .val (.int va), .val (.int vb), .val (.int vc), .unset, .unset, .unset, .unset, .unset, .unset, .unset, .unset] [(.int va), (.int (0 : Int32)), (.ref b50), (.ref b50)])) rfl rfl (hb hby at_49)
    have f55 := f51.wr W53
    have f56 := f52.wr W53
    have N53 := Fr.snoc X53 N3 sz50
    have Zs53 : n0 ≤ h53.size := by rw [W53.size]; exact Zs50
    have hk := Nat.le_trans hk (Nat.le_of_eq W53.size.symm)
    have V53 := Arv.set Aro54 qo54 So54 Mo54 Ho54 Uo54 (fits_nar_char _) W53 0 rfl (Nat.le_of_ble_eq_true rfl)
    rw [own_nar hcva] at V53
    have V53 : Arv Z h53 b50 k50 .char (1 : Int32) [(.int va)] (.int (0 : Int32)) := V53
    refine own_toW T53 (mkF m 99 #[.val (.int i0), .val (.int i1), .val (.int i2), .val (.int i3), .val (.int i4), .val (.int (1 : Int32)), .val (.int va), .val (.int vb), .val (.int vc), .val (.ref b50), .unset, .unset, .unset, .unset, .unset, .unset, .unset] []) (fun tq kq => st53 _ (XS.astore X53.here hx rfl (hb hby at_50) rfl rfl (l' := #[.val (.int i0), .val (.int i1), .val (.int i2), .val (.int i3), .val (.int i4), .val (.int (1 : Int32)), .val (.int va), .val (.int vb), .val (.int vc), .val (.ref b50), .unset, .unset, .unset, .unset, .unset, .unset, .unset]) rfl (XS.goto X53.here hx rfl (pc0 := 52) (pc' := 99) rfl (hb hby at_52) (by decide) (by decide) kq))) ?_
    obtain ⟨T57, h57, X57, e57, E57, A57, D57, -, st57⟩ := newO X53 hx hZ hown (own_w hw 5 rfl) (own_w hw 6 rfl) (own_w hw 7 rfl) e53 (g := (mkF m 99 #[.val (.int i0), .val (.int i1), .val (.int i2), .val (.int i3), .val (.int i4), .val (.int (1 : Int32)), .val (.int va), .val (.int vb), .val (.int vc), .val (.ref b50), .unset, .unset, .unset, .unset, .unset, .unset, .unset] [])) rfl (hb hby at_99) (by decide) (by decide)
    obtain ⟨b57, g57⟩ : ∃ z, z = h53.size := ⟨_, rfl⟩
    rw [← g57] at A57 D57 st57
    have ne_b50_b57 : own_ne b50 b57 := Nat.ne_of_lt (Nat.lt_of_lt_of_le V53.lt (Nat.le_of_eq g57.symm))
    have f58 := f55.ext E57
    have f59 := f56.ext E57
    have f60 := V53.ext E57
    have sz57 : n0 ≤ b57 := Nat.le_trans Zs53 (Nat.le_of_eq g57.symm)
    have Zs57 : n0 ≤ h57.size := Nat.le_trans Zs53 E57.1
    have hk := Nat.le_trans hk E57.1
    have F57_value : Fld Z h57 b57 "java/lang/String" "value" "[B" .null := D57 (Or.inr (own_w hw 20 rfl)) (ty := (.array .byte)) (by decide)
    have F57_coder : Fld Z h57 b57 "java/lang/String" "coder" "B" (.int (0 : Int32)) := D57 (Or.inr (own_w hw 21 rfl)) (ty := .byte) (by decide)
    refine own_toW T57 (mkF m 105 #[.val (.int i0), .val (.int i1), .val (.int i2), .val (.int i3), .val (.int i4), .val (.int (1 : Int32)), .val (.int va), .val (.int vb), .val (.int vc), .val (.ref b50), .unset, .unset, .unset, .unset, .unset, .unset, .unset] [(.ref b50), (.ref b57), (.ref b57)]) (fun tq kq => st57 _ (XS.dup X57.here hx rfl (hb hby at_102) rfl rfl (XS.aload X57.here hx rfl (hb hby at_103) rfl rfl kq))) ?_
    have hws : ∀ d ∈ StrChars.Road.words, d.before a0 Z = true := fun d hd => hw d ((by decide +kernel : ∀ d ∈ StrChars.Road.words, d ∈ tables_1) d hd)
    have hpc : ∀ q ∈ ([va] : List Int32), ¬ q < 0 ∧ ¬ (255 : Int32) < q := by
      intro q hq
      simp only [List.mem_cons, List.not_mem_nil, or_false] at hq
      rcases hq with rfl
      · exact hcva
    obtain ⟨_, _, ⟨T61, L61, k61, n61⟩, -, X61, ⟨Lc61, hQ61, l61, y61, z61⟩, st61⟩ := X57.specialBack hx (y := (⟨"java/lang/String", "<init>", "([C)V"⟩ : MethodName)) rfl hown (mvT hZ (own_w hw 8 rfl)) (mvT hZ (own_w hw 9 rfl)) (mvT hZ (own_w hw 10 rfl)) (by decide) (StrChars.Road.backV (W := 1) hZ hws (kI := 4) (own_w hw 6 rfl) (cs := ([va] : List Int32)) (bs := (([va] : List Int32)).map (fun c => c.toInt8.toInt32)) (n := 1) sz57 Zs57 A57 F57_value F57_coder f60 f58 hG rfl rfl (by decide) (by decide) hpc rfl (by decide) (by decide)) (g := (mkF m 105 #[.val (.int i0), .val (.int i1), .val (.int i2), .val (.int i3), .val (.int i4), .val (.int (1 : Int32)), .val (.int va), .val (.int vb), .val (.int vc), .val (.ref b50), .unset, .unset, .unset, .unset, .unset, .unset, .unset] [(.ref b50), (.ref b57), (.ref b57)])) rfl (by rw [hml]; rfl) (Steps.refl _) (a := b57) (argsL := [(.ref b50)]) (rest := [(.ref b57)]) (lenOf pd_1 rfl) rfl (by show 2 * 0 + _ ≤ _; exact Nat.le_of_eq rfl) (hb hby at_105) (fun _ _ => ⟨rfl, e57, (by decide : 2 + 1 ≤ _), (by decide : 5 + 1 ≤ _)⟩)
    dsimp only [Pt.U, Pt.locs, Pt.cells, Pt.slots] at X61 l61 y61 z61 st61 hQ61
    have l61y := l61.symm
    clear l61
    subst l61y
    obtain rfl : k61 = 3 := y61
    obtain rfl : n61 = 6 := z61
    obtain ⟨rfl, N61q, K61q, E61q, C61q, t61, kb61, gt61, ht61, ne61, V61q, A61q⟩ := hQ61
    have N61 := Fr.app N53 N61q
    have f62 := own_staX f58 K61q A57
    have f63 := own_staX f59 K61q A57
    have f64 := A57.keep K61q
    have Zs61 : n0 ≤ T61.heap.size := Nat.le_trans Zs57 K61q.1
    have hk := Nat.le_trans hk K61q.1
    have B61 : BArr Z T61.heap t61 1 (own_bl ([va] : List Int32)) := own_barr A61q rfl (by decide)
    refine own_toW T61 (mkF m 110 #[.val (.int i0), .val (.int i1), .val (.int i2), .val (.int i3), .val (.int i4), .val (.int (1 : Int32)), .val (.int va), .val (.int vb), .val (.int vc), .val (.ref b50), .val (.ref b57), .unset, .unset, .unset, .unset, .unset, .unset] []) (fun tq kq => st61.trans (XS.astore X61.here hx rfl (hb hby at_108) rfl rfl (l' := #[.val (.int i0), .val (.int i1), .val (.int i2), .val (.int i3), .val (.int i4), .val (.int (1 : Int32)), .val (.int va), .val (.int vb), .val (.int vc), .val (.ref b50), .val (.ref b57), .unset, .unset, .unset, .unset, .unset, .unset]) rfl kq)) ?_
    obtain ⟨T65, h65, X65, e65, E65, A65, D65, -, st65⟩ := newO X61 hx hZ hown (own_w hw 26 rfl) (own_w hw 27 rfl) (own_w hw 28 rfl) rfl (g := (mkF m 110 #[.val (.int i0), .val (.int i1), .val (.int i2), .val (.int i3), .val (.int i4), .val (.int (1 : Int32)), .val (.int va), .val (.int vb), .val (.int vc), .val (.ref b50), .val (.ref b57), .unset, .unset, .unset, .unset, .unset, .unset] [])) rfl (hb hby at_110) (by decide) (by decide)
    obtain ⟨b65, g65⟩ : ∃ z, z = T61.heap.size := ⟨_, rfl⟩
    rw [← g65] at A65 D65 st65
    have ne_b57_b65 : own_ne b57 b65 := Nat.ne_of_lt (Nat.lt_of_lt_of_le E61q.lt (Nat.le_of_eq g65.symm))
    have ne_t61_b65 : own_ne t61 b65 := Nat.ne_of_lt (Nat.lt_of_lt_of_le B61.lt (Nat.le_of_eq g65.symm))
    have f66 := f62.ext E65
    have f67 := f63.ext E65
    have f68 := E61q.ext E65
    have f69 := V61q.ext E65
    have f70 := C61q.ext E65
    have f71 := B61.ext E65
    have sz65 : n0 ≤ b65 := Nat.le_trans Zs61 (Nat.le_of_eq g65.symm)
    have Zs65 : n0 ≤ h65.size := Nat.le_trans Zs61 E65.1
    have hk := Nat.le_trans hk E65.1
    have F65_value : Fld Z h65 b65 "com/example/wayline/wayline/HeaderReader" "value" "Ljava/lang/String;" .null := D65 (Or.inr (own_w hw 34 rfl)) (ty := (.object "java/lang/String")) (by decide)
    have F65_position : Fld Z h65 b65 "com/example/wayline/wayline/HeaderReader" "position" "I" (.int (0 : Int32)) := D65 (Or.inl (own_w hw 41 rfl)) (ty := .int) (by decide)
    refine own_toW T65 (mkF m 116 #[.val (.int i0), .val (.int i1), .val (.int i2), .val (.int i3), .val (.int i4), .val (.int (1 : Int32)), .val (.int va), .val (.int vb), .val (.int vc), .val (.ref b50), .val (.ref b57), .unset, .unset, .unset, .unset, .unset, .unset] [(.ref b57), (.ref b65), (.ref b65)]) (fun tq kq => st65 _ (XS.dup X65.here hx rfl (hb hby at_113) rfl rfl (XS.aload X65.here hx rfl (hb hby at_114) rfl rfl kq))) ?_
    obtain ⟨_, _, ⟨T72, L72, k72, n72⟩, -, X72, ⟨Lc72, hQ72, l72, y72, z72⟩, st72⟩ := X65.specialBack hx (y := (⟨"com/example/wayline/wayline/HeaderReader", "<init>", "(Ljava/lang/String;)V"⟩ : MethodName)) rfl hown (mvT hZ (own_w hw 29 rfl)) (mvT hZ (own_w hw 30 rfl)) (mvT hZ (own_w hw 31 rfl)) (by decide) (backOf (W := 1) (rmHI l Z a0 hw [] b65 b57 h65 n0 Zs65 A65 F65_value F65_position sz65) hZ (own_w hw 31 rfl) (own_w hw 28 rfl) (by decide) (by decide)) (g := (mkF m 116 #[.val (.int i0), .val (.int i1), .val (.int i2), .val (.int i3), .val (.int i4), .val (.int (1 : Int32)), .val (.int va), .val (.int vb), .val (.int vc), .val (.ref b50), .val (.ref b57), .unset, .unset, .unset, .unset, .unset, .unset] [(.ref b57), (.ref b65), (.ref b65)])) rfl (by rw [hml]; rfl) (Steps.refl _) (a := b65) (argsL := [(.ref b57)]) (rest := [(.ref b65)]) (lenOf pd_4 rfl) rfl (by show 2 * 0 + _ ≤ _; exact Nat.le_of_eq rfl) (hb hby at_116) (fun _ _ => ⟨rfl, e65, (by decide : 4 + 0 ≤ _), (by decide : 8 + 0 ≤ _)⟩)
    dsimp only [Pt.U, Pt.locs, Pt.cells, Pt.slots] at X72 l72 y72 z72 st72 hQ72
    have l72y := l72.symm
    clear l72
    subst l72y
    obtain rfl : k72 = 4 := y72
    obtain rfl : n72 = 8 := z72
    obtain ⟨rfl, N72q, K72q, E72q, V72q, P72q⟩ := hQ72
    have N72 := Fr.app N61 N72q
    have f73 := own_staX f66 K72q A65
    have f74 := own_staX f67 K72q A65
    have f75 := f68.keep K72q
    have f76 := f69.keep K72q (ninS ne_b57_b65 nin0)
    have f77 := f70.keep K72q (ninS ne_b57_b65 nin0)
    have f78 := f71.keep K72q (ninS ne_t61_b65 nin0)
    have f79 := A65.keep K72q
    have Zs72 : n0 ≤ T72.heap.size := Nat.le_trans Zs65 K72q.1
    have hk := Nat.le_trans hk K72q.1
    refine own_toW T72 (mkF m 123 #[.val (.int i0), .val (.int i1), .val (.int i2), .val (.int i3), .val (.int i4), .val (.int (1 : Int32)), .val (.int va), .val (.int vb), .val (.int vc), .val (.ref b50), .val (.ref b57), .val (.ref b65), .unset, .unset, .unset, .unset, .unset] [(.ref b65)]) (fun tq kq => st72.trans (XS.astore X72.here hx rfl (hb hby at_119) rfl rfl (l' := #[.val (.int i0), .val (.int i1), .val (.int i2), .val (.int i3), .val (.int i4), .val (.int (1 : Int32)), .val (.int va), .val (.int vb), .val (.int vc), .val (.ref b50), .val (.ref b57), .val (.ref b65), .unset, .unset, .unset, .unset, .unset]) rfl (XS.aload X72.here hx rfl (hb hby at_121) rfl rfl kq))) ?_
    obtain ⟨cq80, kq80, q80a, q80b, q80c⟩ := isOf hZ rfl E72q
    obtain ⟨_, _, ⟨T80, L80, k80, n80⟩, -, X80, ⟨Lc80, hQ80, l80, y80, z80⟩, st80⟩ := X72.virtualBack hx (y := (⟨"com/example/wayline/wayline/HeaderReader", "atEnd", "()Z"⟩ : MethodName)) (z := (⟨"com/example/wayline/wayline/HeaderReader", "atEnd", "()Z"⟩ : MethodName)) hown (mvT hZ (own_w hw 35 rfl)) (mvT hZ (own_w hw 36 rfl)) (notFace_of_selects (args := #[]) (mvT hZ (own_w hw 38 rfl))) (mvT hZ (own_w hw 38 rfl)) (mvT hZ (own_w hw 37 rfl)) (by decide) (backOf (W := 0) (rmEnd l Z a0 hw [] b65 b57 t61 0 1 (own_bl ([va] : List Int32)) G1 T72.heap n0 Zs72 f73 hG V72q P72q f75 f76 f77 f78 (by omega) (by omega)) hZ (own_w hw 39 rfl) (own_w hw 28 rfl) (by decide) (by decide)) q80a q80c (g := (mkF m 123 #[.val (.int i0), .val (.int i1), .val (.int i2), .val (.int i3), .val (.int i4), .val (.int (1 : Int32)), .val (.int va), .val (.int vb), .val (.int vc), .val (.ref b50), .val (.ref b57), .val (.ref b65), .unset, .unset, .unset, .unset, .unset] [(.ref b65)])) rfl (by rw [hml]; rfl) (Steps.refl _) (argsL := []) (rest := []) (lenOf pd_5 rfl) rfl (by show 2 * 0 + _ ≤ _; exact Nat.le_of_eq rfl) (hb hby at_123) (fun _ _ => ⟨rfl, rfl, (by decide : 4 + 0 ≤ _), (by decide : 8 + 0 ≤ _)⟩)
    dsimp only [Pt.U, Pt.locs, Pt.cells, Pt.slots] at X80 l80 y80 z80 st80 hQ80
    have l80y := l80.symm
    clear l80
    subst l80y
    obtain rfl : k80 = 4 := y80
    obtain rfl : n80 = 8 := z80
    obtain ⟨rfl, N80q, e80⟩ := hQ80
    have N80 := Fr.app N72 N80q
    refine own_toW T80 (mkF m 126 #[.val (.int i0), .val (.int i1), .val (.int i2), .val (.int i3), .val (.int i4), .val (.int (1 : Int32)), .val (.int va), .val (.int vb), .val (.int vc), .val (.ref b50), .val (.ref b57), .val (.ref b65), .unset, .unset, .unset, .unset, .unset] [(.int (own_end 0 1))]) (fun tq kq => st80.trans kq) ?_
    rw [show (own_end 0 1) = (0 : Int32) from by decide]
    refine own_toW T80 (mkF m 147 #[.val (.int i0), .val (.int i1), .val (.int i2), .val (.int i3), .val (.int i4), .val (.int (1 : Int32)), .val (.int va), .val (.int vb), .val (.int vc), .val (.ref b50), .val (.ref b57), .val (.ref b65), .val (.int (0 : Int32)), .unset, .unset, .unset, .unset] [(.ref b65)]) (fun tq kq => XS.istore X80.here hx rfl (hb hby at_126) rfl (l' := #[.val (.int i0), .val (.int i1), .val (.int i2), .val (.int i3), .val (.int i4), .val (.int (1 : Int32)), .val (.int va), .val (.int vb), .val (.int vc), .val (.ref b50), .val (.ref b57), .val (.ref b65), .val (.int (0 : Int32)), .unset, .unset, .unset, .unset]) rfl (XS.iload X80.here hx rfl (hb hby at_128) rfl (XS.iload X80.here hx rfl (hb hby at_130) rfl (XS.ifYes X80.here hx rfl (pc0 := 132) (pc' := 139) rfl (hb hby at_132) rfl ((if0 _ _).trans (feq (by decide : ¬ ((1 : Int32) = (0 : Int32)))).2) (by decide) (by decide) (XS.iconst X80.here hx rfl (hb hby at_139) (XS.icmpYes X80.here hx rfl (pc0 := 140) (pc' := 145) rfl (hb hby at_140) rfl (teq (by decide : (0 : Int32) = (0 : Int32))).1 (by decide) (by decide) (XS.aload X80.here hx rfl (hb hby at_145) rfl rfl kq))))))) ?_
    obtain ⟨cq81, kq81, q81a, q81b, q81c⟩ := isOf hZ e80 E72q
    obtain ⟨_, _, ⟨T81, L81, k81, n81⟩, -, X81, ⟨Lc81, hQ81, l81, y81, z81⟩, st81⟩ := X80.virtualBack hx (y := (⟨"com/example/wayline/wayline/HeaderReader", "atEnd", "()Z"⟩ : MethodName)) (z := (⟨"com/example/wayline/wayline/HeaderReader", "atEnd", "()Z"⟩ : MethodName)) hown (mvT hZ (own_w hw 35 rfl)) (mvT hZ (own_w hw 36 rfl)) (notFace_of_selects (args := #[]) (mvT hZ (own_w hw 38 rfl))) (mvT hZ (own_w hw 38 rfl)) (mvT hZ (own_w hw 37 rfl)) (by decide) (backOf (W := 0) (rmEnd l Z a0 hw [] b65 b57 t61 0 1 (own_bl ([va] : List Int32)) G1 T72.heap n0 Zs72 f73 hG V72q P72q f75 f76 f77 f78 (by omega) (by omega)) hZ (own_w hw 39 rfl) (own_w hw 28 rfl) (by decide) (by decide)) q81a q81c (g := (mkF m 147 #[.val (.int i0), .val (.int i1), .val (.int i2), .val (.int i3), .val (.int i4), .val (.int (1 : Int32)), .val (.int va), .val (.int vb), .val (.int vc), .val (.ref b50), .val (.ref b57), .val (.ref b65), .val (.int (0 : Int32)), .unset, .unset, .unset, .unset] [(.ref b65)])) rfl (by rw [hml]; rfl) (Steps.refl _) (argsL := []) (rest := []) (lenOf pd_5 rfl) rfl (by show 2 * 0 + _ ≤ _; exact Nat.le_of_eq rfl) (hb hby at_147) (fun _ _ => ⟨rfl, e80, (by decide : 4 + 0 ≤ _), (by decide : 8 + 0 ≤ _)⟩)
    dsimp only [Pt.U, Pt.locs, Pt.cells, Pt.slots] at X81 l81 y81 z81 st81 hQ81
    have l81y := l81.symm
    clear l81
    subst l81y
    obtain rfl : k81 = 4 := y81
    obtain rfl : n81 = 8 := z81
    obtain ⟨rfl, N81q, e81⟩ := hQ81
    have N81 := Fr.app N80 N81q
    refine own_toW T81 (mkF m 150 #[.val (.int i0), .val (.int i1), .val (.int i2), .val (.int i3), .val (.int i4), .val (.int (1 : Int32)), .val (.int va), .val (.int vb), .val (.int vc), .val (.ref b50), .val (.ref b57), .val (.ref b65), .val (.int (0 : Int32)), .unset, .unset, .unset, .unset] [(.int (own_end 0 1))]) (fun tq kq => st81.trans kq) ?_
    rw [show (own_end 0 1) = (0 : Int32) from by decide]
    refine own_toW T81 (mkF m 161 #[.val (.int i0), .val (.int i1), .val (.int i2), .val (.int i3), .val (.int i4), .val (.int (1 : Int32)), .val (.int va), .val (.int vb), .val (.int vc), .val (.ref b50), .val (.ref b57), .val (.ref b65), .val (.int (0 : Int32)), .unset, .unset, .unset, .unset] [(.int (i4 &&& (1 : Int32)))]) (fun tq kq => XS.iload X81.here hx rfl (hb hby at_150) rfl (XS.icmpYes X81.here hx rfl (pc0 := 152) (pc' := 157) rfl (hb hby at_152) rfl (teq (by decide : (0 : Int32) = (0 : Int32))).1 (by decide) (by decide) (XS.iload X81.here hx rfl (hb hby at_157) rfl (XS.iconst X81.here hx rfl (hb hby at_159) (XS.iand X81.here hx rfl (hb hby at_160) rfl kq))))) ?_
    by_cases c161 : (i4 &&& (1 : Int32)) = (0 : Int32)
    · skip
      refine own_toW T81 (mkF m 171 #[.val (.int i0), .val (.int i1), .val (.int i2), .val (.int i3), .val (.int i4), .val (.int (1 : Int32)), .val (.int va), .val (.int vb), .val (.int vc), .val (.ref b50), .val (.ref b57), .val (.ref b65), .val (.int (0 : Int32)), .unset, .unset, .unset, .unset] [(.ref b65)]) (fun tq kq => XS.ifYes X81.here hx rfl (pc0 := 161) (pc' := 169) rfl (hb hby at_161) rfl ((if0 _ _).trans (teq c161).1) (by decide) (by decide) (XS.aload X81.here hx rfl (hb hby at_169) rfl rfl kq)) ?_
      obtain ⟨cq82, kq82, q82a, q82b, q82c⟩ := isOf hZ e81 E72q
      obtain ⟨_, _, ⟨T82, L82, k82, n82⟩, -, X82, ⟨Lc82, hQ82, l82, y82, z82⟩, st82⟩ := X81.virtualBack hx (y := (⟨"com/example/wayline/wayline/HeaderReader", "skipWhiteSpace", "()V"⟩ : MethodName)) (z := (⟨"com/example/wayline/wayline/HeaderReader", "skipWhiteSpace", "()V"⟩ : MethodName)) hown (mvT hZ (own_w hw 53 rfl)) (mvT hZ (own_w hw 54 rfl)) (notFace_of_selects (args := #[]) (mvT hZ (own_w hw 56 rfl))) (mvT hZ (own_w hw 56 rfl)) (mvT hZ (own_w hw 55 rfl)) (by decide) (backOf (W := 0) (rmSkip l Z a0 hw [] b65 b57 t61 0 1 (own_bl ([va] : List Int32)) G1 vF T72.heap n0 Zs72 f73 hG f74 hvF E72q V72q P72q f75 f76 f77 f78 (by omega) (by omega) (Ne.symm ne_b57_b65) (Ne.symm ne_t61_b65) sz65) hZ (own_w hw 57 rfl) (own_w hw 28 rfl) (by decide) (by decide)) q82a q82c (g := (mkF m 171 #[.val (.int i0), .val (.int i1), .val (.int i2), .val (.int i3), .val (.int i4), .val (.int (1 : Int32)), .val (.int va), .val (.int vb), .val (.int vc), .val (.ref b50), .val (.ref b57), .val (.ref b65), .val (.int (0 : Int32)), .unset, .unset, .unset, .unset] [(.ref b65)])) rfl (by rw [hml]; rfl) (Steps.refl _) (argsL := []) (rest := []) (lenOf pd_3 rfl) rfl (by show 2 * 0 + _ ≤ _; exact Nat.le_of_eq rfl) (hb hby at_171) (fun _ _ => ⟨rfl, e81, (by decide : 4 + 0 ≤ _), (by decide : 8 + 0 ≤ _)⟩)
      dsimp only [Pt.U, Pt.locs, Pt.cells, Pt.slots] at X82 l82 y82 z82 st82 hQ82
      have l82y := l82.symm
      clear l82
      subst l82y
      obtain rfl : k82 = 4 := y82
      obtain rfl : n82 = 8 := z82
      obtain ⟨rfl, N82q, K82q, E82q, V82q, q1, hq0, hqn, P82q, hall, hstop⟩ := hQ82
      have N82 := Fr.app N81 N82q
      have f83 := own_staX f73 K82q E72q
      have f84 := own_staX f74 K82q E72q
      have f85 := f75.keep K82q
      have f86 := f76.keep K82q (ninS ne_b57_b65 nin0)
      have f87 := f77.keep K82q (ninS ne_b57_b65 nin0)
      have f88 := f78.keep K82q (ninS ne_t61_b65 nin0)
      have f89 := E72q.keep K82q
      have Zs82 : n0 ≤ T82.heap.size := Nat.le_trans Zs72 K82q.1
      have hk := Nat.le_trans hk K82q.1
      refine own_toW T82 (mkF m 182 #[.val (.int i0), .val (.int i1), .val (.int i2), .val (.int i3), .val (.int i4), .val (.int (1 : Int32)), .val (.int va), .val (.int vb), .val (.int vc), .val (.ref b50), .val (.ref b57), .val (.ref b65), .val (.int (0 : Int32)), .unset, .unset, .unset, .unset] [(.int va)]) (fun tq kq => st82.trans (XS.iload X82.here hx rfl (hb hby at_174) rfl (XS.iconst X82.here hx rfl (hb hby at_176) (XS.icmpNo X82.here hx rfl (hb hby at_177) rfl (flt (by decide : ¬ ((1 : Int32) < (1 : Int32)))).1 (XS.iload X82.here hx rfl (hb hby at_180) rfl kq))))) ?_
      by_cases hw0 : own_ws va
      · skip
        obtain ⟨_, _, ⟨T90, L90, k90, n90⟩, -, X90, ⟨Lc90, hQ90, l90, y90, z90⟩, st90⟩ := Jvm.LawKit.callS X82 hx (y := (⟨"com/example/wayline/wayline/HeaderReaderAtEndPinLaw", "ws", "(C)Z"⟩ : MethodName)) hown (mvT hZ (own_w hw 153 rfl)) (mvT hZ (own_w hw 154 rfl)) (mvT hZ (own_w hw 2 rfl)) (mvT hZ (own_w hw 155 rfl)) (by decide) (backOf (W := 0) (rmWs1 l Z a0 hw [] va T82.heap n0 Zs82 hw0) hZ (own_w hw 155 rfl) (own_w hw 2 rfl) (by decide) (by decide)) (g := (mkF m 182 #[.val (.int i0), .val (.int i1), .val (.int i2), .val (.int i3), .val (.int i4), .val (.int (1 : Int32)), .val (.int va), .val (.int vb), .val (.int vc), .val (.ref b50), .val (.ref b57), .val (.ref b65), .val (.int (0 : Int32)), .unset, .unset, .unset, .unset] [(.int va)])) rfl (by rw [hml]; rfl) (argsL := [(.int va)]) (rest := []) (lenOf pd_25 rfl) rfl (by show 2 * 0 + _ ≤ _; exact Nat.le_of_eq rfl) (hb hby at_182) (fun _ _ => ⟨rfl, rfl, (by decide : 4 + 0 ≤ _), (by decide : 8 + 0 ≤ _)⟩)
        dsimp only [Pt.U, Pt.locs, Pt.cells, Pt.slots] at X90 l90 y90 z90 st90 hQ90
        have l90y := l90.symm
        clear l90
        subst l90y
        obtain rfl : k90 = 4 := y90
        obtain rfl : n90 = 8 := z90
        obtain ⟨rfl, N90q, e90⟩ := hQ90
        have N90 := Fr.app N82 N90q
        refine own_toW T90 (mkF m 214 #[.val (.int i0), .val (.int i1), .val (.int i2), .val (.int i3), .val (.int i4), .val (.int (1 : Int32)), .val (.int va), .val (.int vb), .val (.int vc), .val (.ref b50), .val (.ref b57), .val (.ref b65), .val (.int (0 : Int32)), .unset, .val (.int (1 : Int32)), .unset, .unset] [(.int (1 : Int32))]) (fun tq kq => st90 _ (XS.ifNo X90.here hx rfl (hb hby at_185) rfl ((if0 _ _).trans (feq (by decide : ¬ ((1 : Int32) = (0 : Int32)))).1) (XS.iconst X90.here hx rfl (hb hby at_188) (XS.goto X90.here hx rfl (pc0 := 189) (pc' := 193) rfl (hb hby at_189) (by decide) (by decide) (XS.istore X90.here hx rfl (hb hby at_193) rfl (l' := #[.val (.int i0), .val (.int i1), .val (.int i2), .val (.int i3), .val (.int i4), .val (.int (1 : Int32)), .val (.int va), .val (.int vb), .val (.int vc), .val (.ref b50), .val (.ref b57), .val (.ref b65), .val (.int (0 : Int32)), .unset, .val (.int (1 : Int32)), .unset, .unset]) rfl (XS.iload X90.here hx rfl (hb hby at_195) rfl (XS.iconst X90.here hx rfl (hb hby at_197) (XS.icmpYes X90.here hx rfl (pc0 := 198) (pc' := 209) rfl (hb hby at_198) rfl (tlt (by decide : (1 : Int32) < (2 : Int32))).1 (by decide) (by decide) (XS.iconst X90.here hx rfl (hb hby at_209) (XS.goto X90.here hx rfl (pc0 := 210) (pc' := 214) rfl (hb hby at_210) (by decide) (by decide) kq)))))))))) ?_
        refine own_toW T90 (mkF m 244 #[.val (.int i0), .val (.int i1), .val (.int i2), .val (.int i3), .val (.int i4), .val (.int (1 : Int32)), .val (.int va), .val (.int vb), .val (.int vc), .val (.ref b50), .val (.ref b57), .val (.ref b65), .val (.int (0 : Int32)), .unset, .val (.int (1 : Int32)), .val (.int (1 : Int32)), .val (.int (1 : Int32))] [(.int (1 : Int32))]) (fun tq kq => XS.istore X90.here hx rfl (hb hby at_214) rfl (l' := #[.val (.int i0), .val (.int i1), .val (.int i2), .val (.int i3), .val (.int i4), .val (.int (1 : Int32)), .val (.int va), .val (.int vb), .val (.int vc), .val (.ref b50), .val (.ref b57), .val (.ref b65), .val (.int (0 : Int32)), .unset, .val (.int (1 : Int32)), .val (.int (1 : Int32)), .unset]) rfl (XS.iload X90.here hx rfl (hb hby at_216) rfl (XS.iconst X90.here hx rfl (hb hby at_218) (XS.icmpYes X90.here hx rfl (pc0 := 219) (pc' := 230) rfl (hb hby at_219) rfl (tlt (by decide : (1 : Int32) < (3 : Int32))).1 (by decide) (by decide) (XS.iconst X90.here hx rfl (hb hby at_230) (XS.goto X90.here hx rfl (pc0 := 231) (pc' := 235) rfl (hb hby at_231) (by decide) (by decide) (XS.istore X90.here hx rfl (hb hby at_235) rfl (l' := #[.val (.int i0), .val (.int i1), .val (.int i2), .val (.int i3), .val (.int i4), .val (.int (1 : Int32)), .val (.int va), .val (.int vb), .val (.int vc), .val (.ref b50), .val (.ref b57), .val (.ref b65), .val (.int (0 : Int32)), .unset, .val (.int (1 : Int32)), .val (.int (1 : Int32)), .val (.int (1 : Int32))]) rfl (XS.iload X90.here hx rfl (hb hby at_237) rfl (XS.ifNo X90.here hx rfl (hb hby at_239) rfl ((if0 _ _).trans (feq (by decide : ¬ ((1 : Int32) = (0 : Int32)))).1) (XS.iload X90.here hx rfl (hb hby at_242) rfl kq)))))))))) ?_
        refine own_toW T90 (mkF m 350 #[.val (.int i0), .val (.int i1), .val (.int i2), .val (.int i3), .val (.int i4), .val (.int (1 : Int32)), .val (.int va), .val (.int vb), .val (.int vc), .val (.ref b50), .val (.ref b57), .val (.ref b65), .val (.int (0 : Int32)), .val (.int (1 : Int32)), .val (.int (1 : Int32)), .val (.int (1 : Int32)), .val (.int (1 : Int32))] [(.ref b65)]) (fun tq kq => XS.ifNo X90.here hx rfl (hb hby at_244) rfl ((if0 _ _).trans (feq (by decide : ¬ ((1 : Int32) = (0 : Int32)))).1) (XS.iload X90.here hx rfl (hb hby at_247) rfl (XS.ifNo X90.here hx rfl (hb hby at_249) rfl ((if0 _ _).trans (feq (by decide : ¬ ((1 : Int32) = (0 : Int32)))).1) (XS.iconst X90.here hx rfl (hb hby at_252) (XS.goto X90.here hx rfl (pc0 := 253) (pc' := 257) rfl (hb hby at_253) (by decide) (by decide) (XS.istore X90.here hx rfl (hb hby at_257) rfl (l' := #[.val (.int i0), .val (.int i1), .val (.int i2), .val (.int i3), .val (.int i4), .val (.int (1 : Int32)), .val (.int va), .val (.int vb), .val (.int vc), .val (.ref b50), .val (.ref b57), .val (.ref b65), .val (.int (0 : Int32)), .val (.int (1 : Int32)), .val (.int (1 : Int32)), .val (.int (1 : Int32)), .val (.int (1 : Int32))]) rfl (XS.goto X90.here hx rfl (pc0 := 259) (pc' := 348) rfl (hb hby at_259) (by decide) (by decide) (XS.aload X90.here hx rfl (hb hby at_348) rfl rfl kq)))))))) ?_
        obtain ⟨cq91, kq91, q91a, q91b, q91c⟩ := isOf hZ e90 E82q
        obtain ⟨_, _, ⟨T91, L91, k91, n91⟩, -, X91, ⟨Lc91, hQ91, l91, y91, z91⟩, st91⟩ := X90.virtualBack hx (y := (⟨"com/example/wayline/wayline/HeaderReader", "atEnd", "()Z"⟩ : MethodName)) (z := (⟨"com/example/wayline/wayline/HeaderReader", "atEnd", "()Z"⟩ : MethodName)) hown (mvT hZ (own_w hw 35 rfl)) (mvT hZ (own_w hw 36 rfl)) (notFace_of_selects (args := #[]) (mvT hZ (own_w hw 38 rfl))) (mvT hZ (own_w hw 38 rfl)) (mvT hZ (own_w hw 37 rfl)) (by decide) (backOf (W := 0) (rmEnd l Z a0 hw [] b65 b57 t61 q1 1 (own_bl ([va] : List Int32)) G1 T82.heap n0 Zs82 f83 hG V82q P82q f85 f86 f87 f88 (by omega) (by omega)) hZ (own_w hw 39 rfl) (own_w hw 28 rfl) (by decide) (by decide)) q91a q91c (g := (mkF m 350 #[.val (.int i0), .val (.int i1), .val (.int i2), .val (.int i3), .val (.int i4), .val (.int (1 : Int32)), .val (.int va), .val (.int vb), .val (.int vc), .val (.ref b50), .val (.ref b57), .val (.ref b65), .val (.int (0 : Int32)), .val (.int (1 : Int32)), .val (.int (1 : Int32)), .val (.int (1 : Int32)), .val (.int (1 : Int32))] [(.ref b65)])) rfl (by rw [hml]; rfl) (Steps.refl _) (argsL := []) (rest := []) (lenOf pd_5 rfl) rfl (by show 2 * 0 + _ ≤ _; exact Nat.le_of_eq rfl) (hb hby at_350) (fun _ _ => ⟨rfl, e90, (by decide : 4 + 0 ≤ _), (by decide : 8 + 0 ≤ _)⟩)
        dsimp only [Pt.U, Pt.locs, Pt.cells, Pt.slots] at X91 l91 y91 z91 st91 hQ91
        have l91y := l91.symm
        clear l91
        subst l91y
        obtain rfl : k91 = 4 := y91
        obtain rfl : n91 = 8 := z91
        obtain ⟨rfl, N91q, e91⟩ := hQ91
        have N91 := Fr.app N90 N91q
        refine own_toW T91 (mkF m 353 #[.val (.int i0), .val (.int i1), .val (.int i2), .val (.int i3), .val (.int i4), .val (.int (1 : Int32)), .val (.int va), .val (.int vb), .val (.int vc), .val (.ref b50), .val (.ref b57), .val (.ref b65), .val (.int (0 : Int32)), .val (.int (1 : Int32)), .val (.int (1 : Int32)), .val (.int (1 : Int32)), .val (.int (1 : Int32))] [(.int (own_end q1 1))]) (fun tq kq => st91.trans kq) ?_
        rw [show (own_end q1 1) = (1 : Int32) from if_neg (fun hlt => hstop hlt (by have h3 : q1 = 0 := (by omega); rcases h3 with rfl <;> (first | exact (show own_ws (own_ch (va.toInt8.toInt32)) from (own_chb hcva).symm ▸ hw0))))]
        refine own_toW T91 (mkF m 363 #[.val (.int i0), .val (.int i1), .val (.int i2), .val (.int i3), .val (.int i4), .val (.int (1 : Int32)), .val (.int va), .val (.int vb), .val (.int vc), .val (.ref b50), .val (.ref b57), .val (.ref b65), .val (.int (0 : Int32)), .val (.int (1 : Int32)), .val (.int (1 : Int32)), .val (.int (1 : Int32)), .val (.int (1 : Int32))] [(.int (1 : Int32))]) (fun tq kq => XS.iload X91.here hx rfl (hb hby at_353) rfl (XS.icmpNo X91.here hx rfl (hb hby at_355) rfl (teq (by decide : (1 : Int32) = (1 : Int32))).2 (XS.iconst X91.here hx rfl (hb hby at_358) (XS.goto X91.here hx rfl (pc0 := 359) (pc' := 363) rfl (hb hby at_359) (by decide) (by decide) kq)))) ?_
        exact own_retZW X91 hS (by rw [e91]; exact hk) hx hret hlk (hb hby at_363) (by decide) (by decide) (Or.inr rfl) ⟨rfl, N91⟩
      · skip
        obtain ⟨_, _, ⟨T92, L92, k92, n92⟩, -, X92, ⟨Lc92, hQ92, l92, y92, z92⟩, st92⟩ := Jvm.LawKit.callS X82 hx (y := (⟨"com/example/wayline/wayline/HeaderReaderAtEndPinLaw", "ws", "(C)Z"⟩ : MethodName)) hown (mvT hZ (own_w hw 153 rfl)) (mvT hZ (own_w hw 154 rfl)) (mvT hZ (own_w hw 2 rfl)) (mvT hZ (own_w hw 155 rfl)) (by decide) (backOf (W := 0) (rmWs0 l Z a0 hw [] va T82.heap n0 Zs82 hw0) hZ (own_w hw 155 rfl) (own_w hw 2 rfl) (by decide) (by decide)) (g := (mkF m 182 #[.val (.int i0), .val (.int i1), .val (.int i2), .val (.int i3), .val (.int i4), .val (.int (1 : Int32)), .val (.int va), .val (.int vb), .val (.int vc), .val (.ref b50), .val (.ref b57), .val (.ref b65), .val (.int (0 : Int32)), .unset, .unset, .unset, .unset] [(.int va)])) rfl (by rw [hml]; rfl) (argsL := [(.int va)]) (rest := []) (lenOf pd_25 rfl) rfl (by show 2 * 0 + _ ≤ _; exact Nat.le_of_eq rfl) (hb hby at_182) (fun _ _ => ⟨rfl, rfl, (by decide : 4 + 0 ≤ _), (by decide : 8 + 0 ≤ _)⟩)
        dsimp only [Pt.U, Pt.locs, Pt.cells, Pt.slots] at X92 l92 y92 z92 st92 hQ92
        have l92y := l92.symm
        clear l92
        subst l92y
        obtain rfl : k92 = 4 := y92
        obtain rfl : n92 = 8 := z92
        obtain ⟨rfl, N92q, e92⟩ := hQ92
        have N92 := Fr.app N82 N92q
        refine own_toW T92 (mkF m 216 #[.val (.int i0), .val (.int i1), .val (.int i2), .val (.int i3), .val (.int i4), .val (.int (1 : Int32)), .val (.int va), .val (.int vb), .val (.int vc), .val (.ref b50), .val (.ref b57), .val (.ref b65), .val (.int (0 : Int32)), .unset, .val (.int (0 : Int32)), .val (.int (1 : Int32)), .unset] []) (fun tq kq => st92 _ (XS.ifYes X92.here hx rfl (pc0 := 185) (pc' := 192) rfl (hb hby at_185) rfl ((if0 _ _).trans (teq (by decide : (0 : Int32) = (0 : Int32))).1) (by decide) (by decide) (XS.iconst X92.here hx rfl (hb hby at_192) (XS.istore X92.here hx rfl (hb hby at_193) rfl (l' := #[.val (.int i0), .val (.int i1), .val (.int i2), .val (.int i3), .val (.int i4), .val (.int (1 : Int32)), .val (.int va), .val (.int vb), .val (.int vc), .val (.ref b50), .val (.ref b57), .val (.ref b65), .val (.int (0 : Int32)), .unset, .val (.int (0 : Int32)), .unset, .unset]) rfl (XS.iload X92.here hx rfl (hb hby at_195) rfl (XS.iconst X92.here hx rfl (hb hby at_197) (XS.icmpYes X92.here hx rfl (pc0 := 198) (pc' := 209) rfl (hb hby at_198) rfl (tlt (by decide : (1 : Int32) < (2 : Int32))).1 (by decide) (by decide) (XS.iconst X92.here hx rfl (hb hby at_209) (XS.goto X92.here hx rfl (pc0 := 210) (pc' := 214) rfl (hb hby at_210) (by decide) (by decide) (XS.istore X92.here hx rfl (hb hby at_214) rfl (l' := #[.val (.int i0), .val (.int i1), .val (.int i2), .val (.int i3), .val (.int i4), .val (.int (1 : Int32)), .val (.int va), .val (.int vb), .val (.int vc), .val (.ref b50), .val (.ref b57), .val (.ref b65), .val (.int (0 : Int32)), .unset, .val (.int (0 : Int32)), .val (.int (1 : Int32)), .unset]) rfl kq)))))))))) ?_
        refine own_toW T92 (mkF m 259 #[.val (.int i0), .val (.int i1), .val (.int i2), .val (.int i3), .val (.int i4), .val (.int (1 : Int32)), .val (.int va), .val (.int vb), .val (.int vc), .val (.ref b50), .val (.ref b57), .val (.ref b65), .val (.int (0 : Int32)), .val (.int (0 : Int32)), .val (.int (0 : Int32)), .val (.int (1 : Int32)), .val (.int (1 : Int32))] []) (fun tq kq => XS.iload X92.here hx rfl (hb hby at_216) rfl (XS.iconst X92.here hx rfl (hb hby at_218) (XS.icmpYes X92.here hx rfl (pc0 := 219) (pc' := 230) rfl (hb hby at_219) rfl (tlt (by decide : (1 : Int32) < (3 : Int32))).1 (by decide) (by decide) (XS.iconst X92.here hx rfl (hb hby at_230) (XS.goto X92.here hx rfl (pc0 := 231) (pc' := 235) rfl (hb hby at_231) (by decide) (by decide) (XS.istore X92.here hx rfl (hb hby at_235) rfl (l' := #[.val (.int i0), .val (.int i1), .val (.int i2), .val (.int i3), .val (.int i4), .val (.int (1 : Int32)), .val (.int va), .val (.int vb), .val (.int vc), .val (.ref b50), .val (.ref b57), .val (.ref b65), .val (.int (0 : Int32)), .unset, .val (.int (0 : Int32)), .val (.int (1 : Int32)), .val (.int (1 : Int32))]) rfl (XS.iload X92.here hx rfl (hb hby at_237) rfl (XS.ifYes X92.here hx rfl (pc0 := 239) (pc' := 256) rfl (hb hby at_239) rfl ((if0 _ _).trans (teq (by decide : (0 : Int32) = (0 : Int32))).1) (by decide) (by decide) (XS.iconst X92.here hx rfl (hb hby at_256) (XS.istore X92.here hx rfl (hb hby at_257) rfl (l' := #[.val (.int i0), .val (.int i1), .val (.int i2), .val (.int i3), .val (.int i4), .val (.int (1 : Int32)), .val (.int va), .val (.int vb), .val (.int vc), .val (.ref b50), .val (.ref b57), .val (.ref b65), .val (.int (0 : Int32)), .val (.int (0 : Int32)), .val (.int (0 : Int32)), .val (.int (1 : Int32)), .val (.int (1 : Int32))]) rfl kq)))))))))) ?_
        refine own_toW T92 (mkF m 350 #[.val (.int i0), .val (.int i1), .val (.int i2), .val (.int i3), .val (.int i4), .val (.int (1 : Int32)), .val (.int va), .val (.int vb), .val (.int vc), .val (.ref b50), .val (.ref b57), .val (.ref b65), .val (.int (0 : Int32)), .val (.int (0 : Int32)), .val (.int (0 : Int32)), .val (.int (1 : Int32)), .val (.int (1 : Int32))] [(.ref b65)]) (fun tq kq => XS.goto X92.here hx rfl (pc0 := 259) (pc' := 348) rfl (hb hby at_259) (by decide) (by decide) (XS.aload X92.here hx rfl (hb hby at_348) rfl rfl kq)) ?_
        obtain ⟨cq93, kq93, q93a, q93b, q93c⟩ := isOf hZ e92 E82q
        obtain ⟨_, _, ⟨T93, L93, k93, n93⟩, -, X93, ⟨Lc93, hQ93, l93, y93, z93⟩, st93⟩ := X92.virtualBack hx (y := (⟨"com/example/wayline/wayline/HeaderReader", "atEnd", "()Z"⟩ : MethodName)) (z := (⟨"com/example/wayline/wayline/HeaderReader", "atEnd", "()Z"⟩ : MethodName)) hown (mvT hZ (own_w hw 35 rfl)) (mvT hZ (own_w hw 36 rfl)) (notFace_of_selects (args := #[]) (mvT hZ (own_w hw 38 rfl))) (mvT hZ (own_w hw 38 rfl)) (mvT hZ (own_w hw 37 rfl)) (by decide) (backOf (W := 0) (rmEnd l Z a0 hw [] b65 b57 t61 q1 1 (own_bl ([va] : List Int32)) G1 T82.heap n0 Zs82 f83 hG V82q P82q f85 f86 f87 f88 (by omega) (by omega)) hZ (own_w hw 39 rfl) (own_w hw 28 rfl) (by decide) (by decide)) q93a q93c (g := (mkF m 350 #[.val (.int i0), .val (.int i1), .val (.int i2), .val (.int i3), .val (.int i4), .val (.int (1 : Int32)), .val (.int va), .val (.int vb), .val (.int vc), .val (.ref b50), .val (.ref b57), .val (.ref b65), .val (.int (0 : Int32)), .val (.int (0 : Int32)), .val (.int (0 : Int32)), .val (.int (1 : Int32)), .val (.int (1 : Int32))] [(.ref b65)])) rfl (by rw [hml]; rfl) (Steps.refl _) (argsL := []) (rest := []) (lenOf pd_5 rfl) rfl (by show 2 * 0 + _ ≤ _; exact Nat.le_of_eq rfl) (hb hby at_350) (fun _ _ => ⟨rfl, e92, (by decide : 4 + 0 ≤ _), (by decide : 8 + 0 ≤ _)⟩)
        dsimp only [Pt.U, Pt.locs, Pt.cells, Pt.slots] at X93 l93 y93 z93 st93 hQ93
        have l93y := l93.symm
        clear l93
        subst l93y
        obtain rfl : k93 = 4 := y93
        obtain rfl : n93 = 8 := z93
        obtain ⟨rfl, N93q, e93⟩ := hQ93
        have N93 := Fr.app N92 N93q
        refine own_toW T93 (mkF m 353 #[.val (.int i0), .val (.int i1), .val (.int i2), .val (.int i3), .val (.int i4), .val (.int (1 : Int32)), .val (.int va), .val (.int vb), .val (.int vc), .val (.ref b50), .val (.ref b57), .val (.ref b65), .val (.int (0 : Int32)), .val (.int (0 : Int32)), .val (.int (0 : Int32)), .val (.int (1 : Int32)), .val (.int (1 : Int32))] [(.int (own_end q1 1))]) (fun tq kq => st93.trans kq) ?_
        rw [show (own_end q1 1) = (0 : Int32) from if_pos (Nat.lt_of_not_le fun hle => hw0 (own_chb hcva ▸ hall 0 (by omega) (by omega)))]
        refine own_toW T93 (mkF m 363 #[.val (.int i0), .val (.int i1), .val (.int i2), .val (.int i3), .val (.int i4), .val (.int (1 : Int32)), .val (.int va), .val (.int vb), .val (.int vc), .val (.ref b50), .val (.ref b57), .val (.ref b65), .val (.int (0 : Int32)), .val (.int (0 : Int32)), .val (.int (0 : Int32)), .val (.int (1 : Int32)), .val (.int (1 : Int32))] [(.int (1 : Int32))]) (fun tq kq => XS.iload X93.here hx rfl (hb hby at_353) rfl (XS.icmpNo X93.here hx rfl (hb hby at_355) rfl (teq (by decide : (0 : Int32) = (0 : Int32))).2 (XS.iconst X93.here hx rfl (hb hby at_358) (XS.goto X93.here hx rfl (pc0 := 359) (pc' := 363) rfl (hb hby at_359) (by decide) (by decide) kq)))) ?_
        exact own_retZW X93 hS (by rw [e93]; exact hk) hx hret hlk (hb hby at_363) (by decide) (by decide) (Or.inr rfl) ⟨rfl, N93⟩
    · skip
      refine own_toW T81 (mkF m 272 #[.val (.int i0), .val (.int i1), .val (.int i2), .val (.int i3), .val (.int i4), .val (.int (1 : Int32)), .val (.int va), .val (.int vb), .val (.int vc), .val (.ref b50), .val (.ref b57), .val (.ref b65), .val (.int (0 : Int32)), .unset, .unset, .unset, .unset] [(.int ((((i4.toUInt32 >>> ((1 : Int32) &&& 31).toUInt32).toInt32) &&& (2147483647 : Int32)) % (1 : Int32)))]) (fun tq kq => XS.ifNo X81.here hx rfl (hb hby at_161) rfl ((if0 _ _).trans (feq c161).1) (XS.iload X81.here hx rfl (hb hby at_164) rfl (XS.ifYes X81.here hx rfl (pc0 := 166) (pc' := 262) rfl (hb hby at_166) rfl ((if0 _ _).trans (feq (by decide : ¬ ((1 : Int32) = (0 : Int32)))).2) (by decide) (by decide) (XS.iload X81.here hx rfl (hb hby at_262) rfl (XS.iconst X81.here hx rfl (hb hby at_264) (XS.iushr X81.here hx rfl (hb hby at_265) rfl (X81.ldcInt hx hown (mvT hZ (own_w hw 69 rfl)) (g := (mkF m 266 #[.val (.int i0), .val (.int i1), .val (.int i2), .val (.int i3), .val (.int i4), .val (.int (1 : Int32)), .val (.int va), .val (.int vb), .val (.int vc), .val (.ref b50), .val (.ref b57), .val (.ref b65), .val (.int (0 : Int32)), .unset, .unset, .unset, .unset] [(.int ((i4.toUInt32 >>> ((1 : Int32) &&& 31).toUInt32).toInt32))])) rfl (hb hby at_266) _ (XS.iand X81.here hx rfl (hb hby at_268) rfl (XS.iload X81.here hx rfl (hb hby at_269) rfl (iremM X81 hx rfl (hb hby at_271) rfl (by decide) kq)))))))))) ?_
      rcases own_mod1 ((i4.toUInt32 >>> ((1 : Int32) &&& 31).toUInt32).toInt32) with hmd
      · skip
        rw [hmd]
        refine own_toW T81 (mkF m 307 #[.val (.int i0), .val (.int i1), .val (.int i2), .val (.int i3), .val (.int i4), .val (.int (1 : Int32)), .val (.int va), .val (.int vb), .val (.int vc), .val (.ref b50), .val (.ref b57), .val (.ref b65), .val (.int (0 : Int32)), .unset, .val (.int (0 : Int32)), .val (.int va), .unset] [(.int (0 : Int32))]) (fun tq kq => XS.istore X81.here hx rfl (hb hby at_272) rfl (l' := #[.val (.int i0), .val (.int i1), .val (.int i2), .val (.int i3), .val (.int i4), .val (.int (1 : Int32)), .val (.int va), .val (.int vb), .val (.int vc), .val (.ref b50), .val (.ref b57), .val (.ref b65), .val (.int (0 : Int32)), .unset, .val (.int (0 : Int32)), .unset, .unset]) rfl (XS.iload X81.here hx rfl (hb hby at_274) rfl (XS.ifNo X81.here hx rfl (hb hby at_276) rfl ((if0 _ _).trans (teq (by decide : (0 : Int32) = (0 : Int32))).2) (XS.iload X81.here hx rfl (hb hby at_279) rfl (XS.goto X81.here hx rfl (pc0 := 281) (pc' := 297) rfl (hb hby at_281) (by decide) (by decide) (XS.istore X81.here hx rfl (hb hby at_297) rfl (l' := #[.val (.int i0), .val (.int i1), .val (.int i2), .val (.int i3), .val (.int i4), .val (.int (1 : Int32)), .val (.int va), .val (.int vb), .val (.int vc), .val (.ref b50), .val (.ref b57), .val (.ref b65), .val (.int (0 : Int32)), .unset, .val (.int (0 : Int32)), .val (.int va), .unset]) rfl (XS.iload X81.here hx rfl (hb hby at_299) rfl (XS.iload X81.here hx rfl (hb hby at_301) rfl (XS.icmpNo X81.here hx rfl (hb hby at_303) rfl (teq (rfl : va = va)).2 (XS.iconst X81.here hx rfl (hb hby at_306) kq)))))))))) ?_
        refine own_toW T81 (mkF m 328 #[.val (.int i0), .val (.int i1), .val (.int i2), .val (.int i3), .val (.int i4), .val (.int (1 : Int32)), .val (.int va), .val (.int vb), .val (.int vc), .val (.ref b50), .val (.ref b57), .val (.ref b65), .val (.int (0 : Int32)), .unset, .val (.int (0 : Int32)), .val (.int va), .val (.int (0 : Int32))] [(.int va), (.ref b65)]) (fun tq kq => XS.goto X81.here hx rfl (pc0 := 307) (pc' := 322) rfl (hb hby at_307) (by decide) (by decide) (XS.istore X81.here hx rfl (hb hby at_322) rfl (l' := #[.val (.int i0), .val (.int i1), .val (.int i2), .val (.int i3), .val (.int i4), .val (.int (1 : Int32)), .val (.int va), .val (.int vb), .val (.int vc), .val (.ref b50), .val (.ref b57), .val (.ref b65), .val (.int (0 : Int32)), .unset, .val (.int (0 : Int32)), .val (.int va), .val (.int (0 : Int32))]) rfl (XS.aload X81.here hx rfl (hb hby at_324) rfl rfl (XS.iload X81.here hx rfl (hb hby at_326) rfl kq)))) ?_
        obtain ⟨cq94, kq94, q94a, q94b, q94c⟩ := isOf hZ e81 E72q
        obtain ⟨_, _, ⟨T94, L94, k94, n94⟩, -, X94, hS94, hgr94, ⟨Lc94, hQ94, l94, y94, z94⟩, st94⟩ := X81.virtualBackS hx (y := (⟨"com/example/wayline/wayline/HeaderReader", "textBefore", "(C)Ljava/lang/String;"⟩ : MethodName)) (z := (⟨"com/example/wayline/wayline/HeaderReader", "textBefore", "(C)Ljava/lang/String;"⟩ : MethodName)) hown (mvT hZ (own_w hw 70 rfl)) (mvT hZ (own_w hw 71 rfl)) (notFace_of_selects (args := #[]) (mvT hZ (own_w hw 73 rfl))) (mvT hZ (own_w hw 73 rfl)) (mvT hZ (own_w hw 72 rfl)) (by decide) (backOfS (W := 0) (rmTB l Z a0 hw [] b65 b57 t61 0 0 1 (own_bl ([va] : List Int32)) va G1 vF T72.heap n0 Zs72 f73 hG f74 hvF E72q V72q P72q f75 f76 f77 f78 (fun i hi => by have h3 : i = 0 := (by omega); rcases h3 with rfl <;> exact own_fitb _) hcva.1 hcva.2 (by omega) (by omega) (by omega) rfl (fun i h1 h2 => absurd h2 (by omega)) sz65) hZ (own_w hw 74 rfl) (own_w hw 28 rfl) (by decide) (by decide)) q94a q94c (g := (mkF m 328 #[.val (.int i0), .val (.int i1), .val (.int i2), .val (.int i3), .val (.int i4), .val (.int (1 : Int32)), .val (.int va), .val (.int vb), .val (.int vc), .val (.ref b50), .val (.ref b57), .val (.ref b65), .val (.int (0 : Int32)), .unset, .val (.int (0 : Int32)), .val (.int va), .val (.int (0 : Int32))] [(.int va), (.ref b65)])) rfl (by rw [hml]; rfl) (Steps.refl _) (argsL := [(.int va)]) (rest := []) (lenOf pd_11 rfl) rfl (by show 2 * 0 + _ ≤ _; exact Nat.le_of_eq rfl) (hb hby at_328) (fun _ _ => ⟨rfl, e81, (by decide : 4 + 2 ≤ _), (by decide : 8 + 8 ≤ _)⟩)
        dsimp only [Pt.U, Pt.locs, Pt.cells, Pt.slots] at X94 l94 y94 z94 st94 hQ94
        have l94y := l94.symm
        clear l94
        subst l94y
        obtain rfl : k94 = 6 := y94
        obtain rfl : n94 = 16 := z94
        dsimp only [Pt.U, Pt.locs, Pt.cells, Pt.slots] at hS94 hgr94
        obtain ⟨X94, hS, hZ, hown⟩ := rebS hS hk X94 hS94 (by rw [← e81]; exact hgr94) hZ hown
        have hk := Nat.le_refl T94.heap.size
        obtain ⟨b94, rfl, N94q, K94q, E94q, V94q, P94q⟩ := hQ94
        have N94 := Fr.app N81 N94q
        have f95 := own_staX f73 K94q E72q
        have f96 := own_staX f74 K94q E72q
        have f97 := f75.keep K94q
        have f98 := f76.keep K94q (ninS ne_b57_b65 nin0)
        have f99 := f77.keep K94q (ninS ne_b57_b65 nin0)
        have f100 := f78.keep K94q (ninS ne_t61_b65 nin0)
        have f101 := E72q.keep K94q
        have Zs94 : n0 ≤ T94.heap.size := Nat.le_trans Zs72 K94q.1
        refine own_toW T94 (mkF m 336 #[.val (.int i0), .val (.int i1), .val (.int i2), .val (.int i3), .val (.int i4), .val (.int (1 : Int32)), .val (.int va), .val (.int vb), .val (.int vc), .val (.ref b50), .val (.ref b57), .val (.ref b65), .val (.int (0 : Int32)), .unset, .val (.int (0 : Int32)), .val (.int va), .val (.int (0 : Int32))] [(.int ((0 : Int32) + (1 : Int32)))]) (fun tq kq => st94.trans (XS.pop X94.here hx rfl (hb hby at_331) rfl rfl (XS.iload X94.here hx rfl (hb hby at_332) rfl (XS.iconst X94.here hx rfl (hb hby at_334) (XS.iadd X94.here hx rfl (hb hby at_335) rfl kq))))) ?_
        rw [show ((0 : Int32) + (1 : Int32)) = (1 : Int32) from by decide]
        refine own_toW T94 (mkF m 350 #[.val (.int i0), .val (.int i1), .val (.int i2), .val (.int i3), .val (.int i4), .val (.int (1 : Int32)), .val (.int va), .val (.int vb), .val (.int vc), .val (.ref b50), .val (.ref b57), .val (.ref b65), .val (.int (0 : Int32)), .val (.int (1 : Int32)), .val (.int (0 : Int32)), .val (.int va), .val (.int (0 : Int32))] [(.ref b65)]) (fun tq kq => XS.iload X94.here hx rfl (hb hby at_336) rfl (XS.icmpNo X94.here hx rfl (hb hby at_338) rfl (flt (by decide : ¬ ((1 : Int32) < (1 : Int32)))).1 (XS.iconst X94.here hx rfl (hb hby at_341) (XS.goto X94.here hx rfl (pc0 := 342) (pc' := 346) rfl (hb hby at_342) (by decide) (by decide) (XS.istore X94.here hx rfl (hb hby at_346) rfl (l' := #[.val (.int i0), .val (.int i1), .val (.int i2), .val (.int i3), .val (.int i4), .val (.int (1 : Int32)), .val (.int va), .val (.int vb), .val (.int vc), .val (.ref b50), .val (.ref b57), .val (.ref b65), .val (.int (0 : Int32)), .val (.int (1 : Int32)), .val (.int (0 : Int32)), .val (.int va), .val (.int (0 : Int32))]) rfl (XS.aload X94.here hx rfl (hb hby at_348) rfl rfl kq)))))) ?_
        obtain ⟨cq102, kq102, q102a, q102b, q102c⟩ := isOf hZ rfl E94q
        obtain ⟨_, _, ⟨T102, L102, k102, n102⟩, -, X102, ⟨Lc102, hQ102, l102, y102, z102⟩, st102⟩ := X94.virtualBack hx (y := (⟨"com/example/wayline/wayline/HeaderReader", "atEnd", "()Z"⟩ : MethodName)) (z := (⟨"com/example/wayline/wayline/HeaderReader", "atEnd", "()Z"⟩ : MethodName)) hown (mvT hZ (own_w hw 35 rfl)) (mvT hZ (own_w hw 36 rfl)) (notFace_of_selects (args := #[]) (mvT hZ (own_w hw 38 rfl))) (mvT hZ (own_w hw 38 rfl)) (mvT hZ (own_w hw 37 rfl)) (by decide) (backOf (W := 0) (rmEnd l Z a0 hw [] b65 b57 t61 (0 + 1) 1 (own_bl ([va] : List Int32)) G1 T94.heap n0 Zs94 f95 hG V94q P94q f97 f98 f99 f100 (by omega) (by omega)) hZ (own_w hw 39 rfl) (own_w hw 28 rfl) (by decide) (by decide)) q102a q102c (g := (mkF m 350 #[.val (.int i0), .val (.int i1), .val (.int i2), .val (.int i3), .val (.int i4), .val (.int (1 : Int32)), .val (.int va), .val (.int vb), .val (.int vc), .val (.ref b50), .val (.ref b57), .val (.ref b65), .val (.int (0 : Int32)), .val (.int (1 : Int32)), .val (.int (0 : Int32)), .val (.int va), .val (.int (0 : Int32))] [(.ref b65)])) rfl (by rw [hml]; rfl) (Steps.refl _) (argsL := []) (rest := []) (lenOf pd_5 rfl) rfl (by show 2 * 0 + _ ≤ _; exact Nat.le_of_eq rfl) (hb hby at_350) (fun _ _ => ⟨rfl, rfl, (by decide : 6 + 0 ≤ _), (by decide : 16 + 0 ≤ _)⟩)
        dsimp only [Pt.U, Pt.locs, Pt.cells, Pt.slots] at X102 l102 y102 z102 st102 hQ102
        have l102y := l102.symm
        clear l102
        subst l102y
        obtain rfl : k102 = 6 := y102
        obtain rfl : n102 = 16 := z102
        obtain ⟨rfl, N102q, e102⟩ := hQ102
        have N102 := Fr.app N94 N102q
        refine own_toW T102 (mkF m 353 #[.val (.int i0), .val (.int i1), .val (.int i2), .val (.int i3), .val (.int i4), .val (.int (1 : Int32)), .val (.int va), .val (.int vb), .val (.int vc), .val (.ref b50), .val (.ref b57), .val (.ref b65), .val (.int (0 : Int32)), .val (.int (1 : Int32)), .val (.int (0 : Int32)), .val (.int va), .val (.int (0 : Int32))] [(.int (own_end (0 + 1) 1))]) (fun tq kq => st102.trans kq) ?_
        rw [show (own_end (0 + 1) 1) = (1 : Int32) from if_neg (by omega)]
        refine own_toW T102 (mkF m 363 #[.val (.int i0), .val (.int i1), .val (.int i2), .val (.int i3), .val (.int i4), .val (.int (1 : Int32)), .val (.int va), .val (.int vb), .val (.int vc), .val (.ref b50), .val (.ref b57), .val (.ref b65), .val (.int (0 : Int32)), .val (.int (1 : Int32)), .val (.int (0 : Int32)), .val (.int va), .val (.int (0 : Int32))] [(.int (1 : Int32))]) (fun tq kq => XS.iload X102.here hx rfl (hb hby at_353) rfl (XS.icmpNo X102.here hx rfl (hb hby at_355) rfl (teq (by decide : (1 : Int32) = (1 : Int32))).2 (XS.iconst X102.here hx rfl (hb hby at_358) (XS.goto X102.here hx rfl (pc0 := 359) (pc' := 363) rfl (hb hby at_359) (by decide) (by decide) kq)))) ?_
        exact own_retZW X102 hS (by rw [e102]; exact hk) hx hret hlk (hb hby at_363) (by decide) (by decide) (Or.inr rfl) ⟨rfl, N102⟩
  · skip
    rw [show Int32.ofNat 2 = (2 : Int32) from rfl]
    refine own_toW T3 (mkF m 62 #[.val (.int i0), .val (.int i1), .val (.int i2), .val (.int i3), .val (.int i4), .val (.int (2 : Int32)), .val (.int va), .val (.int vb), .val (.int vc), .unset, .unset, .unset, .unset, .unset, .unset, .unset, .unset] [(.int (2 : Int32))]) (fun tq kq => XS.iload X3.here hx rfl (hb hby at_23) rfl (XS.ifYes X3.here hx rfl (pc0 := 25) (pc' := 36) rfl (hb hby at_25) rfl ((if0 _ _).trans (feq (by decide : ¬ ((2 : Int32) = (0 : Int32)))).2) (by decide) (by decide) (XS.iload X3.here hx rfl (hb hby at_36) rfl (XS.iconst X3.here hx rfl (hb hby at_38) (XS.icmpYes X3.here hx rfl (pc0 := 39) (pc' := 55) rfl (hb hby at_39) rfl (feq (by decide : ¬ ((2 : Int32) = (1 : Int32)))).2 (by decide) (by decide) (XS.iload X3.here hx rfl (hb hby at_55) rfl (XS.iconst X3.here hx rfl (hb hby at_57) (XS.icmpNo X3.here hx rfl (hb hby at_58) rfl (teq (by decide : (2 : Int32) = (2 : Int32))).2 (XS.iconst X3.here hx rfl (hb hby at_61) kq))))))))) ?_
    obtain ⟨T103, h103, k103, X103, e103, E103, A103, st103⟩ := newP X3 hx hZ (own_w hw 4 rfl) e3 (g := (mkF m 62 #[.val (.int i0), .val (.int i1), .val (.int i2), .val (.int i3), .val (.int i4), .val (.int (2 : Int32)), .val (.int va), .val (.int vb), .val (.int vc), .unset, .unset, .unset, .unset, .unset, .unset, .unset, .unset] [(.int (2 : Int32))])) rfl (hb hby at_62) rfl (by decide) (cap := 2) (by decide) (by decide) (by decide) (by decide)
    obtain ⟨b103, g103⟩ : ∃ z, z = h0.size := ⟨_, rfl⟩
    rw [← g103] at A103 st103
    have f104 := O2.ext E103
    have f105 := O4.ext E103
    have sz103 : n0 ≤ b103 := Nat.le_trans Z0 (Nat.le_of_eq g103.symm)
    have Zs103 : n0 ≤ h103.size := Nat.le_trans Z0 E103.1
    have hk := Nat.le_trans hk E103.1
    have V103 : Arv Z h103 b103 k103 .char (2 : Int32) [] (.int (0 : Int32)) := Arv.new A103 (by decide)
    refine own_toW T103 (mkF m 68 #[.val (.int i0), .val (.int i1), .val (.int i2), .val (.int i3), .val (.int i4), .val (.int (2 : Int32)), .val (.int va), .val (.int vb), .val (.int vc), .unset, .unset, .unset, .unset, .unset, .unset, .unset, .unset] [(.int va), (.int (0 : Int32)), (.ref b103), (.ref b103)]) (fun tq kq => st103 _ (XS.dup X103.here hx rfl (hb hby at_64) rfl rfl (XS.iconst X103.here hx rfl (hb hby at_65) (XS.iload X103.here hx rfl (hb hby at_66) rfl kq)))) ?_
    have Po107 := V103.pad (pad_rep [] (.int (0 : Int32)) 1)
    obtain ⟨co107, Aro107, qo107, So107, Mo107, Ho107, Uo107⟩ := Po107
    obtain ⟨T106, h106, X106, e106, W106, st106⟩ := stC X103 hx hZ e103 Aro107 (j := (0 : Int32)) (inb_of So107 ⟨by decide, by decide⟩) (g := (mkF m 68 #[.val (.int i0), .val (.int i1), .val (.int i2), .val (.int i3), .val (.int i4), .val (.int (2 : Int32)), .val (.int va), .val (.int vb), .val (.int vc), .unset, .unset, .unset, .unset, .unset, .unset, .unset, .unset] [(.int va), (.int (0 : Int32)), (.ref b103), (.ref b103)])) rfl rfl (hb hby at_68)
    have f108 := f104.wr W106
    have f109 := f105.wr W106
    have N106 := Fr.snoc X106 N3 sz103
    have Zs106 : n0 ≤ h106.size := by rw [W106.size]; exact Zs103
    have hk := Nat.le_trans hk (Nat.le_of_eq W106.size.symm)
    have V106 := Arv.set Aro107 qo107 So107 Mo107 Ho107 Uo107 (fits_nar_char _) W106 0 rfl (Nat.le_of_ble_eq_true rfl)
    rw [own_nar hcva] at V106
    have V106 : Arv Z h106 b103 k103 .char (2 : Int32) [(.int va)] (.int (0 : Int32)) := V106
    refine own_toW T106 (mkF m 73 #[.val (.int i0), .val (.int i1), .val (.int i2), .val (.int i3), .val (.int i4), .val (.int (2 : Int32)), .val (.int va), .val (.int vb), .val (.int vc), .unset, .unset, .unset, .unset, .unset, .unset, .unset, .unset] [(.int vb), (.int (1 : Int32)), (.ref b103), (.ref b103)]) (fun tq kq => st106 _ (XS.dup X106.here hx rfl (hb hby at_69) rfl rfl (XS.iconst X106.here hx rfl (hb hby at_70) (XS.iload X106.here hx rfl (hb hby at_71) rfl kq)))) ?_
    have Po111 := V106.pad (pad_rep [(.int va)] (.int (0 : Int32)) 1)
    obtain ⟨co111, Aro111, qo111, So111, Mo111, Ho111, Uo111⟩ := Po111
    obtain ⟨T110, h110, X110, e110, W110, st110⟩ := stC X106 hx hZ e106 Aro111 (j := (1 : Int32)) (inb_of So111 ⟨by decide, by decide⟩) (g := (mkF m 73 #[.val (.int i0), .val (.int i1), .val (.int i2), .val (.int i3), .val (.int i4), .val (.int (2 : Int32)), .val (.int va), .val (.int vb), .val (.int vc), .unset, .unset, .unset, .unset, .unset, .unset, .unset, .unset] [(.int vb), (.int (1 : Int32)), (.ref b103), (.ref b103)])) rfl rfl (hb hby at_73)
    have f112 := f108.wr W110
    have f113 := f109.wr W110
    have N110 := Fr.snoc X110 N106 sz103
    have Zs110 : n0 ≤ h110.size := by rw [W110.size]; exact Zs106
    have hk := Nat.le_trans hk (Nat.le_of_eq W110.size.symm)
    have V110 := Arv.set Aro111 qo111 So111 Mo111 Ho111 Uo111 (fits_nar_char _) W110 1 rfl (Nat.le_of_ble_eq_true rfl)
    rw [own_nar hcvb] at V110
    have V110 : Arv Z h110 b103 k103 .char (2 : Int32) [(.int va), (.int vb)] (.int (0 : Int32)) := V110
    refine own_toW T110 (mkF m 99 #[.val (.int i0), .val (.int i1), .val (.int i2), .val (.int i3), .val (.int i4), .val (.int (2 : Int32)), .val (.int va), .val (.int vb), .val (.int vc), .val (.ref b103), .unset, .unset, .unset, .unset, .unset, .unset, .unset] []) (fun tq kq => st110 _ (XS.astore X110.here hx rfl (hb hby at_74) rfl rfl (l' := #[.val (.int i0), .val (.int i1), .val (.int i2), .val (.int i3), .val (.int i4), .val (.int (2 : Int32)), .val (.int va), .val (.int vb), .val (.int vc), .val (.ref b103), .unset, .unset, .unset, .unset, .unset, .unset, .unset]) rfl (XS.goto X110.here hx rfl (pc0 := 76) (pc' := 99) rfl (hb hby at_76) (by decide) (by decide) kq))) ?_
    obtain ⟨T114, h114, X114, e114, E114, A114, D114, -, st114⟩ := newO X110 hx hZ hown (own_w hw 5 rfl) (own_w hw 6 rfl) (own_w hw 7 rfl) e110 (g := (mkF m 99 #[.val (.int i0), .val (.int i1), .val (.int i2), .val (.int i3), .val (.int i4), .val (.int (2 : Int32)), .val (.int va), .val (.int vb), .val (.int vc), .val (.ref b103), .unset, .unset, .unset, .unset, .unset, .unset, .unset] [])) rfl (hb hby at_99) (by decide) (by decide)
    obtain ⟨b114, g114⟩ : ∃ z, z = h110.size := ⟨_, rfl⟩
    rw [← g114] at A114 D114 st114
    have ne_b103_b114 : own_ne b103 b114 := Nat.ne_of_lt (Nat.lt_of_lt_of_le V110.lt (Nat.le_of_eq g114.symm))
    have f115 := f112.ext E114
    have f116 := f113.ext E114
    have f117 := V110.ext E114
    have sz114 : n0 ≤ b114 := Nat.le_trans Zs110 (Nat.le_of_eq g114.symm)
    have Zs114 : n0 ≤ h114.size := Nat.le_trans Zs110 E114.1
    have hk := Nat.le_trans hk E114.1
    have F114_value : Fld Z h114 b114 "java/lang/String" "value" "[B" .null := D114 (Or.inr (own_w hw 20 rfl)) (ty := (.array .byte)) (by decide)
    have F114_coder : Fld Z h114 b114 "java/lang/String" "coder" "B" (.int (0 : Int32)) := D114 (Or.inr (own_w hw 21 rfl)) (ty := .byte) (by decide)
    refine own_toW T114 (mkF m 105 #[.val (.int i0), .val (.int i1), .val (.int i2), .val (.int i3), .val (.int i4), .val (.int (2 : Int32)), .val (.int va), .val (.int vb), .val (.int vc), .val (.ref b103), .unset, .unset, .unset, .unset, .unset, .unset, .unset] [(.ref b103), (.ref b114), (.ref b114)]) (fun tq kq => st114 _ (XS.dup X114.here hx rfl (hb hby at_102) rfl rfl (XS.aload X114.here hx rfl (hb hby at_103) rfl rfl kq))) ?_
    have hws : ∀ d ∈ StrChars.Road.words, d.before a0 Z = true := fun d hd => hw d ((by decide +kernel : ∀ d ∈ StrChars.Road.words, d ∈ tables_1) d hd)
    have hpc : ∀ q ∈ ([va, vb] : List Int32), ¬ q < 0 ∧ ¬ (255 : Int32) < q := by
      intro q hq
      simp only [List.mem_cons, List.not_mem_nil, or_false] at hq
      rcases hq with rfl | rfl
      · exact hcva
      · exact hcvb
    obtain ⟨_, _, ⟨T118, L118, k118, n118⟩, -, X118, ⟨Lc118, hQ118, l118, y118, z118⟩, st118⟩ := X114.specialBack hx (y := (⟨"java/lang/String", "<init>", "([C)V"⟩ : MethodName)) rfl hown (mvT hZ (own_w hw 8 rfl)) (mvT hZ (own_w hw 9 rfl)) (mvT hZ (own_w hw 10 rfl)) (by decide) (StrChars.Road.backV (W := 1) hZ hws (kI := 4) (own_w hw 6 rfl) (cs := ([va, vb] : List Int32)) (bs := (([va, vb] : List Int32)).map (fun c => c.toInt8.toInt32)) (n := 2) sz114 Zs114 A114 F114_value F114_coder f117 f115 hG rfl rfl (by decide) (by decide) hpc rfl (by decide) (by decide)) (g := (mkF m 105 #[.val (.int i0), .val (.int i1), .val (.int i2), .val (.int i3), .val (.int i4), .val (.int (2 : Int32)), .val (.int va), .val (.int vb), .val (.int vc), .val (.ref b103), .unset, .unset, .unset, .unset, .unset, .unset, .unset] [(.ref b103), (.ref b114), (.ref b114)])) rfl (by rw [hml]; rfl) (Steps.refl _) (a := b114) (argsL := [(.ref b103)]) (rest := [(.ref b114)]) (lenOf pd_1 rfl) rfl (by show 2 * 0 + _ ≤ _; exact Nat.le_of_eq rfl) (hb hby at_105) (fun _ _ => ⟨rfl, e114, (by decide : 2 + 1 ≤ _), (by decide : 6 + 2 ≤ _)⟩)
    dsimp only [Pt.U, Pt.locs, Pt.cells, Pt.slots] at X118 l118 y118 z118 st118 hQ118
    have l118y := l118.symm
    clear l118
    subst l118y
    obtain rfl : k118 = 3 := y118
    obtain rfl : n118 = 8 := z118
    obtain ⟨rfl, N118q, K118q, E118q, C118q, t118, kb118, gt118, ht118, ne118, V118q, A118q⟩ := hQ118
    have N118 := Fr.app N110 N118q
    have f119 := own_staX f115 K118q A114
    have f120 := own_staX f116 K118q A114
    have f121 := A114.keep K118q
    have Zs118 : n0 ≤ T118.heap.size := Nat.le_trans Zs114 K118q.1
    have hk := Nat.le_trans hk K118q.1
    have B118 : BArr Z T118.heap t118 2 (own_bl ([va, vb] : List Int32)) := own_barr A118q rfl (by decide)
    refine own_toW T118 (mkF m 110 #[.val (.int i0), .val (.int i1), .val (.int i2), .val (.int i3), .val (.int i4), .val (.int (2 : Int32)), .val (.int va), .val (.int vb), .val (.int vc), .val (.ref b103), .val (.ref b114), .unset, .unset, .unset, .unset, .unset, .unset] []) (fun tq kq => st118.trans (XS.astore X118.here hx rfl (hb hby at_108) rfl rfl (l' := #[.val (.int i0), .val (.int i1), .val (.int i2), .val (.int i3), .val (.int i4), .val (.int (2 : Int32)), .val (.int va), .val (.int vb), .val (.int vc), .val (.ref b103), .val (.ref b114), .unset, .unset, .unset, .unset, .unset, .unset]) rfl kq)) ?_
    obtain ⟨T122, h122, X122, e122, E122, A122, D122, -, st122⟩ := newO X118 hx hZ hown (own_w hw 26 rfl) (own_w hw 27 rfl) (own_w hw 28 rfl) rfl (g := (mkF m 110 #[.val (.int i0), .val (.int i1), .val (.int i2), .val (.int i3), .val (.int i4), .val (.int (2 : Int32)), .val (.int va), .val (.int vb), .val (.int vc), .val (.ref b103), .val (.ref b114), .unset, .unset, .unset, .unset, .unset, .unset] [])) rfl (hb hby at_110) (by decide) (by decide)
    obtain ⟨b122, g122⟩ : ∃ z, z = T118.heap.size := ⟨_, rfl⟩
    rw [← g122] at A122 D122 st122
    have ne_b114_b122 : own_ne b114 b122 := Nat.ne_of_lt (Nat.lt_of_lt_of_le E118q.lt (Nat.le_of_eq g122.symm))
    have ne_t118_b122 : own_ne t118 b122 := Nat.ne_of_lt (Nat.lt_of_lt_of_le B118.lt (Nat.le_of_eq g122.symm))
    have f123 := f119.ext E122
    have f124 := f120.ext E122
    have f125 := E118q.ext E122
    have f126 := V118q.ext E122
    have f127 := C118q.ext E122
    have f128 := B118.ext E122
    have sz122 : n0 ≤ b122 := Nat.le_trans Zs118 (Nat.le_of_eq g122.symm)
    have Zs122 : n0 ≤ h122.size := Nat.le_trans Zs118 E122.1
    have hk := Nat.le_trans hk E122.1
    have F122_value : Fld Z h122 b122 "com/example/wayline/wayline/HeaderReader" "value" "Ljava/lang/String;" .null := D122 (Or.inr (own_w hw 34 rfl)) (ty := (.object "java/lang/String")) (by decide)
    have F122_position : Fld Z h122 b122 "com/example/wayline/wayline/HeaderReader" "position" "I" (.int (0 : Int32)) := D122 (Or.inl (own_w hw 41 rfl)) (ty := .int) (by decide)
    refine own_toW T122 (mkF m 116 #[.val (.int i0), .val (.int i1), .val (.int i2), .val (.int i3), .val (.int i4), .val (.int (2 : Int32)), .val (.int va), .val (.int vb), .val (.int vc), .val (.ref b103), .val (.ref b114), .unset, .unset, .unset, .unset, .unset, .unset] [(.ref b114), (.ref b122), (.ref b122)]) (fun tq kq => st122 _ (XS.dup X122.here hx rfl (hb hby at_113) rfl rfl (XS.aload X122.here hx rfl (hb hby at_114) rfl rfl kq))) ?_
    obtain ⟨_, _, ⟨T129, L129, k129, n129⟩, -, X129, ⟨Lc129, hQ129, l129, y129, z129⟩, st129⟩ := X122.specialBack hx (y := (⟨"com/example/wayline/wayline/HeaderReader", "<init>", "(Ljava/lang/String;)V"⟩ : MethodName)) rfl hown (mvT hZ (own_w hw 29 rfl)) (mvT hZ (own_w hw 30 rfl)) (mvT hZ (own_w hw 31 rfl)) (by decide) (backOf (W := 1) (rmHI l Z a0 hw [] b122 b114 h122 n0 Zs122 A122 F122_value F122_position sz122) hZ (own_w hw 31 rfl) (own_w hw 28 rfl) (by decide) (by decide)) (g := (mkF m 116 #[.val (.int i0), .val (.int i1), .val (.int i2), .val (.int i3), .val (.int i4), .val (.int (2 : Int32)), .val (.int va), .val (.int vb), .val (.int vc), .val (.ref b103), .val (.ref b114), .unset, .unset, .unset, .unset, .unset, .unset] [(.ref b114), (.ref b122), (.ref b122)])) rfl (by rw [hml]; rfl) (Steps.refl _) (a := b122) (argsL := [(.ref b114)]) (rest := [(.ref b122)]) (lenOf pd_4 rfl) rfl (by show 2 * 0 + _ ≤ _; exact Nat.le_of_eq rfl) (hb hby at_116) (fun _ _ => ⟨rfl, e122, (by decide : 4 + 0 ≤ _), (by decide : 10 + 0 ≤ _)⟩)
    dsimp only [Pt.U, Pt.locs, Pt.cells, Pt.slots] at X129 l129 y129 z129 st129 hQ129
    have l129y := l129.symm
    clear l129
    subst l129y
    obtain rfl : k129 = 4 := y129
    obtain rfl : n129 = 10 := z129
    obtain ⟨rfl, N129q, K129q, E129q, V129q, P129q⟩ := hQ129
    have N129 := Fr.app N118 N129q
    have f130 := own_staX f123 K129q A122
    have f131 := own_staX f124 K129q A122
    have f132 := f125.keep K129q
    have f133 := f126.keep K129q (ninS ne_b114_b122 nin0)
    have f134 := f127.keep K129q (ninS ne_b114_b122 nin0)
    have f135 := f128.keep K129q (ninS ne_t118_b122 nin0)
    have f136 := A122.keep K129q
    have Zs129 : n0 ≤ T129.heap.size := Nat.le_trans Zs122 K129q.1
    have hk := Nat.le_trans hk K129q.1
    refine own_toW T129 (mkF m 123 #[.val (.int i0), .val (.int i1), .val (.int i2), .val (.int i3), .val (.int i4), .val (.int (2 : Int32)), .val (.int va), .val (.int vb), .val (.int vc), .val (.ref b103), .val (.ref b114), .val (.ref b122), .unset, .unset, .unset, .unset, .unset] [(.ref b122)]) (fun tq kq => st129.trans (XS.astore X129.here hx rfl (hb hby at_119) rfl rfl (l' := #[.val (.int i0), .val (.int i1), .val (.int i2), .val (.int i3), .val (.int i4), .val (.int (2 : Int32)), .val (.int va), .val (.int vb), .val (.int vc), .val (.ref b103), .val (.ref b114), .val (.ref b122), .unset, .unset, .unset, .unset, .unset]) rfl (XS.aload X129.here hx rfl (hb hby at_121) rfl rfl kq))) ?_
    obtain ⟨cq137, kq137, q137a, q137b, q137c⟩ := isOf hZ rfl E129q
    obtain ⟨_, _, ⟨T137, L137, k137, n137⟩, -, X137, ⟨Lc137, hQ137, l137, y137, z137⟩, st137⟩ := X129.virtualBack hx (y := (⟨"com/example/wayline/wayline/HeaderReader", "atEnd", "()Z"⟩ : MethodName)) (z := (⟨"com/example/wayline/wayline/HeaderReader", "atEnd", "()Z"⟩ : MethodName)) hown (mvT hZ (own_w hw 35 rfl)) (mvT hZ (own_w hw 36 rfl)) (notFace_of_selects (args := #[]) (mvT hZ (own_w hw 38 rfl))) (mvT hZ (own_w hw 38 rfl)) (mvT hZ (own_w hw 37 rfl)) (by decide) (backOf (W := 0) (rmEnd l Z a0 hw [] b122 b114 t118 0 2 (own_bl ([va, vb] : List Int32)) G1 T129.heap n0 Zs129 f130 hG V129q P129q f132 f133 f134 f135 (by omega) (by omega)) hZ (own_w hw 39 rfl) (own_w hw 28 rfl) (by decide) (by decide)) q137a q137c (g := (mkF m 123 #[.val (.int i0), .val (.int i1), .val (.int i2), .val (.int i3), .val (.int i4), .val (.int (2 : Int32)), .val (.int va), .val (.int vb), .val (.int vc), .val (.ref b103), .val (.ref b114), .val (.ref b122), .unset, .unset, .unset, .unset, .unset] [(.ref b122)])) rfl (by rw [hml]; rfl) (Steps.refl _) (argsL := []) (rest := []) (lenOf pd_5 rfl) rfl (by show 2 * 0 + _ ≤ _; exact Nat.le_of_eq rfl) (hb hby at_123) (fun _ _ => ⟨rfl, rfl, (by decide : 4 + 0 ≤ _), (by decide : 10 + 0 ≤ _)⟩)
    dsimp only [Pt.U, Pt.locs, Pt.cells, Pt.slots] at X137 l137 y137 z137 st137 hQ137
    have l137y := l137.symm
    clear l137
    subst l137y
    obtain rfl : k137 = 4 := y137
    obtain rfl : n137 = 10 := z137
    obtain ⟨rfl, N137q, e137⟩ := hQ137
    have N137 := Fr.app N129 N137q
    refine own_toW T137 (mkF m 126 #[.val (.int i0), .val (.int i1), .val (.int i2), .val (.int i3), .val (.int i4), .val (.int (2 : Int32)), .val (.int va), .val (.int vb), .val (.int vc), .val (.ref b103), .val (.ref b114), .val (.ref b122), .unset, .unset, .unset, .unset, .unset] [(.int (own_end 0 2))]) (fun tq kq => st137.trans kq) ?_
    rw [show (own_end 0 2) = (0 : Int32) from by decide]
    refine own_toW T137 (mkF m 147 #[.val (.int i0), .val (.int i1), .val (.int i2), .val (.int i3), .val (.int i4), .val (.int (2 : Int32)), .val (.int va), .val (.int vb), .val (.int vc), .val (.ref b103), .val (.ref b114), .val (.ref b122), .val (.int (0 : Int32)), .unset, .unset, .unset, .unset] [(.ref b122)]) (fun tq kq => XS.istore X137.here hx rfl (hb hby at_126) rfl (l' := #[.val (.int i0), .val (.int i1), .val (.int i2), .val (.int i3), .val (.int i4), .val (.int (2 : Int32)), .val (.int va), .val (.int vb), .val (.int vc), .val (.ref b103), .val (.ref b114), .val (.ref b122), .val (.int (0 : Int32)), .unset, .unset, .unset, .unset]) rfl (XS.iload X137.here hx rfl (hb hby at_128) rfl (XS.iload X137.here hx rfl (hb hby at_130) rfl (XS.ifYes X137.here hx rfl (pc0 := 132) (pc' := 139) rfl (hb hby at_132) rfl ((if0 _ _).trans (feq (by decide : ¬ ((2 : Int32) = (0 : Int32)))).2) (by decide) (by decide) (XS.iconst X137.here hx rfl (hb hby at_139) (XS.icmpYes X137.here hx rfl (pc0 := 140) (pc' := 145) rfl (hb hby at_140) rfl (teq (by decide : (0 : Int32) = (0 : Int32))).1 (by decide) (by decide) (XS.aload X137.here hx rfl (hb hby at_145) rfl rfl kq))))))) ?_
    obtain ⟨cq138, kq138, q138a, q138b, q138c⟩ := isOf hZ e137 E129q
    obtain ⟨_, _, ⟨T138, L138, k138, n138⟩, -, X138, ⟨Lc138, hQ138, l138, y138, z138⟩, st138⟩ := X137.virtualBack hx (y := (⟨"com/example/wayline/wayline/HeaderReader", "atEnd", "()Z"⟩ : MethodName)) (z := (⟨"com/example/wayline/wayline/HeaderReader", "atEnd", "()Z"⟩ : MethodName)) hown (mvT hZ (own_w hw 35 rfl)) (mvT hZ (own_w hw 36 rfl)) (notFace_of_selects (args := #[]) (mvT hZ (own_w hw 38 rfl))) (mvT hZ (own_w hw 38 rfl)) (mvT hZ (own_w hw 37 rfl)) (by decide) (backOf (W := 0) (rmEnd l Z a0 hw [] b122 b114 t118 0 2 (own_bl ([va, vb] : List Int32)) G1 T129.heap n0 Zs129 f130 hG V129q P129q f132 f133 f134 f135 (by omega) (by omega)) hZ (own_w hw 39 rfl) (own_w hw 28 rfl) (by decide) (by decide)) q138a q138c (g := (mkF m 147 #[.val (.int i0), .val (.int i1), .val (.int i2), .val (.int i3), .val (.int i4), .val (.int (2 : Int32)), .val (.int va), .val (.int vb), .val (.int vc), .val (.ref b103), .val (.ref b114), .val (.ref b122), .val (.int (0 : Int32)), .unset, .unset, .unset, .unset] [(.ref b122)])) rfl (by rw [hml]; rfl) (Steps.refl _) (argsL := []) (rest := []) (lenOf pd_5 rfl) rfl (by show 2 * 0 + _ ≤ _; exact Nat.le_of_eq rfl) (hb hby at_147) (fun _ _ => ⟨rfl, e137, (by decide : 4 + 0 ≤ _), (by decide : 10 + 0 ≤ _)⟩)
    dsimp only [Pt.U, Pt.locs, Pt.cells, Pt.slots] at X138 l138 y138 z138 st138 hQ138
    have l138y := l138.symm
    clear l138
    subst l138y
    obtain rfl : k138 = 4 := y138
    obtain rfl : n138 = 10 := z138
    obtain ⟨rfl, N138q, e138⟩ := hQ138
    have N138 := Fr.app N137 N138q
    refine own_toW T138 (mkF m 150 #[.val (.int i0), .val (.int i1), .val (.int i2), .val (.int i3), .val (.int i4), .val (.int (2 : Int32)), .val (.int va), .val (.int vb), .val (.int vc), .val (.ref b103), .val (.ref b114), .val (.ref b122), .val (.int (0 : Int32)), .unset, .unset, .unset, .unset] [(.int (own_end 0 2))]) (fun tq kq => st138.trans kq) ?_
    rw [show (own_end 0 2) = (0 : Int32) from by decide]
    refine own_toW T138 (mkF m 161 #[.val (.int i0), .val (.int i1), .val (.int i2), .val (.int i3), .val (.int i4), .val (.int (2 : Int32)), .val (.int va), .val (.int vb), .val (.int vc), .val (.ref b103), .val (.ref b114), .val (.ref b122), .val (.int (0 : Int32)), .unset, .unset, .unset, .unset] [(.int (i4 &&& (1 : Int32)))]) (fun tq kq => XS.iload X138.here hx rfl (hb hby at_150) rfl (XS.icmpYes X138.here hx rfl (pc0 := 152) (pc' := 157) rfl (hb hby at_152) rfl (teq (by decide : (0 : Int32) = (0 : Int32))).1 (by decide) (by decide) (XS.iload X138.here hx rfl (hb hby at_157) rfl (XS.iconst X138.here hx rfl (hb hby at_159) (XS.iand X138.here hx rfl (hb hby at_160) rfl kq))))) ?_
    by_cases c161 : (i4 &&& (1 : Int32)) = (0 : Int32)
    · skip
      refine own_toW T138 (mkF m 171 #[.val (.int i0), .val (.int i1), .val (.int i2), .val (.int i3), .val (.int i4), .val (.int (2 : Int32)), .val (.int va), .val (.int vb), .val (.int vc), .val (.ref b103), .val (.ref b114), .val (.ref b122), .val (.int (0 : Int32)), .unset, .unset, .unset, .unset] [(.ref b122)]) (fun tq kq => XS.ifYes X138.here hx rfl (pc0 := 161) (pc' := 169) rfl (hb hby at_161) rfl ((if0 _ _).trans (teq c161).1) (by decide) (by decide) (XS.aload X138.here hx rfl (hb hby at_169) rfl rfl kq)) ?_
      obtain ⟨cq139, kq139, q139a, q139b, q139c⟩ := isOf hZ e138 E129q
      obtain ⟨_, _, ⟨T139, L139, k139, n139⟩, -, X139, ⟨Lc139, hQ139, l139, y139, z139⟩, st139⟩ := X138.virtualBack hx (y := (⟨"com/example/wayline/wayline/HeaderReader", "skipWhiteSpace", "()V"⟩ : MethodName)) (z := (⟨"com/example/wayline/wayline/HeaderReader", "skipWhiteSpace", "()V"⟩ : MethodName)) hown (mvT hZ (own_w hw 53 rfl)) (mvT hZ (own_w hw 54 rfl)) (notFace_of_selects (args := #[]) (mvT hZ (own_w hw 56 rfl))) (mvT hZ (own_w hw 56 rfl)) (mvT hZ (own_w hw 55 rfl)) (by decide) (backOf (W := 0) (rmSkip l Z a0 hw [] b122 b114 t118 0 2 (own_bl ([va, vb] : List Int32)) G1 vF T129.heap n0 Zs129 f130 hG f131 hvF E129q V129q P129q f132 f133 f134 f135 (by omega) (by omega) (Ne.symm ne_b114_b122) (Ne.symm ne_t118_b122) sz122) hZ (own_w hw 57 rfl) (own_w hw 28 rfl) (by decide) (by decide)) q139a q139c (g := (mkF m 171 #[.val (.int i0), .val (.int i1), .val (.int i2), .val (.int i3), .val (.int i4), .val (.int (2 : Int32)), .val (.int va), .val (.int vb), .val (.int vc), .val (.ref b103), .val (.ref b114), .val (.ref b122), .val (.int (0 : Int32)), .unset, .unset, .unset, .unset] [(.ref b122)])) rfl (by rw [hml]; rfl) (Steps.refl _) (argsL := []) (rest := []) (lenOf pd_3 rfl) rfl (by show 2 * 0 + _ ≤ _; exact Nat.le_of_eq rfl) (hb hby at_171) (fun _ _ => ⟨rfl, e138, (by decide : 4 + 0 ≤ _), (by decide : 10 + 0 ≤ _)⟩)
      dsimp only [Pt.U, Pt.locs, Pt.cells, Pt.slots] at X139 l139 y139 z139 st139 hQ139
      have l139y := l139.symm
      clear l139
      subst l139y
      obtain rfl : k139 = 4 := y139
      obtain rfl : n139 = 10 := z139
      obtain ⟨rfl, N139q, K139q, E139q, V139q, q1, hq0, hqn, P139q, hall, hstop⟩ := hQ139
      have N139 := Fr.app N138 N139q
      have f140 := own_staX f130 K139q E129q
      have f141 := own_staX f131 K139q E129q
      have f142 := f132.keep K139q
      have f143 := f133.keep K139q (ninS ne_b114_b122 nin0)
      have f144 := f134.keep K139q (ninS ne_b114_b122 nin0)
      have f145 := f135.keep K139q (ninS ne_t118_b122 nin0)
      have f146 := E129q.keep K139q
      have Zs139 : n0 ≤ T139.heap.size := Nat.le_trans Zs129 K139q.1
      have hk := Nat.le_trans hk K139q.1
      refine own_toW T139 (mkF m 182 #[.val (.int i0), .val (.int i1), .val (.int i2), .val (.int i3), .val (.int i4), .val (.int (2 : Int32)), .val (.int va), .val (.int vb), .val (.int vc), .val (.ref b103), .val (.ref b114), .val (.ref b122), .val (.int (0 : Int32)), .unset, .unset, .unset, .unset] [(.int va)]) (fun tq kq => st139.trans (XS.iload X139.here hx rfl (hb hby at_174) rfl (XS.iconst X139.here hx rfl (hb hby at_176) (XS.icmpNo X139.here hx rfl (hb hby at_177) rfl (flt (by decide : ¬ ((2 : Int32) < (1 : Int32)))).1 (XS.iload X139.here hx rfl (hb hby at_180) rfl kq))))) ?_
      by_cases hw0 : own_ws va
      · skip
        obtain ⟨_, _, ⟨T147, L147, k147, n147⟩, -, X147, ⟨Lc147, hQ147, l147, y147, z147⟩, st147⟩ := Jvm.LawKit.callS X139 hx (y := (⟨"com/example/wayline/wayline/HeaderReaderAtEndPinLaw", "ws", "(C)Z"⟩ : MethodName)) hown (mvT hZ (own_w hw 153 rfl)) (mvT hZ (own_w hw 154 rfl)) (mvT hZ (own_w hw 2 rfl)) (mvT hZ (own_w hw 155 rfl)) (by decide) (backOf (W := 0) (rmWs1 l Z a0 hw [] va T139.heap n0 Zs139 hw0) hZ (own_w hw 155 rfl) (own_w hw 2 rfl) (by decide) (by decide)) (g := (mkF m 182 #[.val (.int i0), .val (.int i1), .val (.int i2), .val (.int i3), .val (.int i4), .val (.int (2 : Int32)), .val (.int va), .val (.int vb), .val (.int vc), .val (.ref b103), .val (.ref b114), .val (.ref b122), .val (.int (0 : Int32)), .unset, .unset, .unset, .unset] [(.int va)])) rfl (by rw [hml]; rfl) (argsL := [(.int va)]) (rest := []) (lenOf pd_25 rfl) rfl (by show 2 * 0 + _ ≤ _; exact Nat.le_of_eq rfl) (hb hby at_182) (fun _ _ => ⟨rfl, rfl, (by decide : 4 + 0 ≤ _), (by decide : 10 + 0 ≤ _)⟩)
        dsimp only [Pt.U, Pt.locs, Pt.cells, Pt.slots] at X147 l147 y147 z147 st147 hQ147
        have l147y := l147.symm
        clear l147
        subst l147y
        obtain rfl : k147 = 4 := y147
        obtain rfl : n147 = 10 := z147
        obtain ⟨rfl, N147q, e147⟩ := hQ147
        have N147 := Fr.app N139 N147q
        refine own_toW T147 (mkF m 203 #[.val (.int i0), .val (.int i1), .val (.int i2), .val (.int i3), .val (.int i4), .val (.int (2 : Int32)), .val (.int va), .val (.int vb), .val (.int vc), .val (.ref b103), .val (.ref b114), .val (.ref b122), .val (.int (0 : Int32)), .unset, .val (.int (1 : Int32)), .unset, .unset] [(.int vb)]) (fun tq kq => st147 _ (XS.ifNo X147.here hx rfl (hb hby at_185) rfl ((if0 _ _).trans (feq (by decide : ¬ ((1 : Int32) = (0 : Int32)))).1) (XS.iconst X147.here hx rfl (hb hby at_188) (XS.goto X147.here hx rfl (pc0 := 189) (pc' := 193) rfl (hb hby at_189) (by decide) (by decide) (XS.istore X147.here hx rfl (hb hby at_193) rfl (l' := #[.val (.int i0), .val (.int i1), .val (.int i2), .val (.int i3), .val (.int i4), .val (.int (2 : Int32)), .val (.int va), .val (.int vb), .val (.int vc), .val (.ref b103), .val (.ref b114), .val (.ref b122), .val (.int (0 : Int32)), .unset, .val (.int (1 : Int32)), .unset, .unset]) rfl (XS.iload X147.here hx rfl (hb hby at_195) rfl (XS.iconst X147.here hx rfl (hb hby at_197) (XS.icmpNo X147.here hx rfl (hb hby at_198) rfl (flt (by decide : ¬ ((2 : Int32) < (2 : Int32)))).1 (XS.iload X147.here hx rfl (hb hby at_201) rfl kq))))))))) ?_
        by_cases hw1 : own_ws vb
        · skip
          obtain ⟨_, _, ⟨T148, L148, k148, n148⟩, -, X148, ⟨Lc148, hQ148, l148, y148, z148⟩, st148⟩ := Jvm.LawKit.callS X147 hx (y := (⟨"com/example/wayline/wayline/HeaderReaderAtEndPinLaw", "ws", "(C)Z"⟩ : MethodName)) hown (mvT hZ (own_w hw 153 rfl)) (mvT hZ (own_w hw 154 rfl)) (mvT hZ (own_w hw 2 rfl)) (mvT hZ (own_w hw 155 rfl)) (by decide) (backOf (W := 0) (rmWs1 l Z a0 hw [] vb T139.heap n0 Zs139 hw1) hZ (own_w hw 155 rfl) (own_w hw 2 rfl) (by decide) (by decide)) (g := (mkF m 203 #[.val (.int i0), .val (.int i1), .val (.int i2), .val (.int i3), .val (.int i4), .val (.int (2 : Int32)), .val (.int va), .val (.int vb), .val (.int vc), .val (.ref b103), .val (.ref b114), .val (.ref b122), .val (.int (0 : Int32)), .unset, .val (.int (1 : Int32)), .unset, .unset] [(.int vb)])) rfl (by rw [hml]; rfl) (argsL := [(.int vb)]) (rest := []) (lenOf pd_25 rfl) rfl (by show 2 * 0 + _ ≤ _; exact Nat.le_of_eq rfl) (hb hby at_203) (fun _ _ => ⟨rfl, e147, (by decide : 4 + 0 ≤ _), (by decide : 10 + 0 ≤ _)⟩)
          dsimp only [Pt.U, Pt.locs, Pt.cells, Pt.slots] at X148 l148 y148 z148 st148 hQ148
          have l148y := l148.symm
          clear l148
          subst l148y
          obtain rfl : k148 = 4 := y148
          obtain rfl : n148 = 10 := z148
          obtain ⟨rfl, N148q, e148⟩ := hQ148
          have N148 := Fr.app N147 N148q
          refine own_toW T148 (mkF m 235 #[.val (.int i0), .val (.int i1), .val (.int i2), .val (.int i3), .val (.int i4), .val (.int (2 : Int32)), .val (.int va), .val (.int vb), .val (.int vc), .val (.ref b103), .val (.ref b114), .val (.ref b122), .val (.int (0 : Int32)), .unset, .val (.int (1 : Int32)), .val (.int (1 : Int32)), .unset] [(.int (1 : Int32))]) (fun tq kq => st148 _ (XS.ifNo X148.here hx rfl (hb hby at_206) rfl ((if0 _ _).trans (feq (by decide : ¬ ((1 : Int32) = (0 : Int32)))).1) (XS.iconst X148.here hx rfl (hb hby at_209) (XS.goto X148.here hx rfl (pc0 := 210) (pc' := 214) rfl (hb hby at_210) (by decide) (by decide) (XS.istore X148.here hx rfl (hb hby at_214) rfl (l' := #[.val (.int i0), .val (.int i1), .val (.int i2), .val (.int i3), .val (.int i4), .val (.int (2 : Int32)), .val (.int va), .val (.int vb), .val (.int vc), .val (.ref b103), .val (.ref b114), .val (.ref b122), .val (.int (0 : Int32)), .unset, .val (.int (1 : Int32)), .val (.int (1 : Int32)), .unset]) rfl (XS.iload X148.here hx rfl (hb hby at_216) rfl (XS.iconst X148.here hx rfl (hb hby at_218) (XS.icmpYes X148.here hx rfl (pc0 := 219) (pc' := 230) rfl (hb hby at_219) rfl (tlt (by decide : (2 : Int32) < (3 : Int32))).1 (by decide) (by decide) (XS.iconst X148.here hx rfl (hb hby at_230) (XS.goto X148.here hx rfl (pc0 := 231) (pc' := 235) rfl (hb hby at_231) (by decide) (by decide) kq)))))))))) ?_
          refine own_toW T148 (mkF m 259 #[.val (.int i0), .val (.int i1), .val (.int i2), .val (.int i3), .val (.int i4), .val (.int (2 : Int32)), .val (.int va), .val (.int vb), .val (.int vc), .val (.ref b103), .val (.ref b114), .val (.ref b122), .val (.int (0 : Int32)), .val (.int (1 : Int32)), .val (.int (1 : Int32)), .val (.int (1 : Int32)), .val (.int (1 : Int32))] []) (fun tq kq => XS.istore X148.here hx rfl (hb hby at_235) rfl (l' := #[.val (.int i0), .val (.int i1), .val (.int i2), .val (.int i3), .val (.int i4), .val (.int (2 : Int32)), .val (.int va), .val (.int vb), .val (.int vc), .val (.ref b103), .val (.ref b114), .val (.ref b122), .val (.int (0 : Int32)), .unset, .val (.int (1 : Int32)), .val (.int (1 : Int32)), .val (.int (1 : Int32))]) rfl (XS.iload X148.here hx rfl (hb hby at_237) rfl (XS.ifNo X148.here hx rfl (hb hby at_239) rfl ((if0 _ _).trans (feq (by decide : ¬ ((1 : Int32) = (0 : Int32)))).1) (XS.iload X148.here hx rfl (hb hby at_242) rfl (XS.ifNo X148.here hx rfl (hb hby at_244) rfl ((if0 _ _).trans (feq (by decide : ¬ ((1 : Int32) = (0 : Int32)))).1) (XS.iload X148.here hx rfl (hb hby at_247) rfl (XS.ifNo X148.here hx rfl (hb hby at_249) rfl ((if0 _ _).trans (feq (by decide : ¬ ((1 : Int32) = (0 : Int32)))).1) (XS.iconst X148.here hx rfl (hb hby at_252) (XS.goto X148.here hx rfl (pc0 := 253) (pc' := 257) rfl (hb hby at_253) (by decide) (by decide) (XS.istore X148.here hx rfl (hb hby at_257) rfl (l' := #[.val (.int i0), .val (.int i1), .val (.int i2), .val (.int i3), .val (.int i4), .val (.int (2 : Int32)), .val (.int va), .val (.int vb), .val (.int vc), .val (.ref b103), .val (.ref b114), .val (.ref b122), .val (.int (0 : Int32)), .val (.int (1 : Int32)), .val (.int (1 : Int32)), .val (.int (1 : Int32)), .val (.int (1 : Int32))]) rfl kq)))))))))) ?_
          refine own_toW T148 (mkF m 350 #[.val (.int i0), .val (.int i1), .val (.int i2), .val (.int i3), .val (.int i4), .val (.int (2 : Int32)), .val (.int va), .val (.int vb), .val (.int vc), .val (.ref b103), .val (.ref b114), .val (.ref b122), .val (.int (0 : Int32)), .val (.int (1 : Int32)), .val (.int (1 : Int32)), .val (.int (1 : Int32)), .val (.int (1 : Int32))] [(.ref b122)]) (fun tq kq => XS.goto X148.here hx rfl (pc0 := 259) (pc' := 348) rfl (hb hby at_259) (by decide) (by decide) (XS.aload X148.here hx rfl (hb hby at_348) rfl rfl kq)) ?_
          obtain ⟨cq149, kq149, q149a, q149b, q149c⟩ := isOf hZ e148 E139q
          obtain ⟨_, _, ⟨T149, L149, k149, n149⟩, -, X149, ⟨Lc149, hQ149, l149, y149, z149⟩, st149⟩ := X148.virtualBack hx (y := (⟨"com/example/wayline/wayline/HeaderReader", "atEnd", "()Z"⟩ : MethodName)) (z := (⟨"com/example/wayline/wayline/HeaderReader", "atEnd", "()Z"⟩ : MethodName)) hown (mvT hZ (own_w hw 35 rfl)) (mvT hZ (own_w hw 36 rfl)) (notFace_of_selects (args := #[]) (mvT hZ (own_w hw 38 rfl))) (mvT hZ (own_w hw 38 rfl)) (mvT hZ (own_w hw 37 rfl)) (by decide) (backOf (W := 0) (rmEnd l Z a0 hw [] b122 b114 t118 q1 2 (own_bl ([va, vb] : List Int32)) G1 T139.heap n0 Zs139 f140 hG V139q P139q f142 f143 f144 f145 (by omega) (by omega)) hZ (own_w hw 39 rfl) (own_w hw 28 rfl) (by decide) (by decide)) q149a q149c (g := (mkF m 350 #[.val (.int i0), .val (.int i1), .val (.int i2), .val (.int i3), .val (.int i4), .val (.int (2 : Int32)), .val (.int va), .val (.int vb), .val (.int vc), .val (.ref b103), .val (.ref b114), .val (.ref b122), .val (.int (0 : Int32)), .val (.int (1 : Int32)), .val (.int (1 : Int32)), .val (.int (1 : Int32)), .val (.int (1 : Int32))] [(.ref b122)])) rfl (by rw [hml]; rfl) (Steps.refl _) (argsL := []) (rest := []) (lenOf pd_5 rfl) rfl (by show 2 * 0 + _ ≤ _; exact Nat.le_of_eq rfl) (hb hby at_350) (fun _ _ => ⟨rfl, e148, (by decide : 4 + 0 ≤ _), (by decide : 10 + 0 ≤ _)⟩)
          dsimp only [Pt.U, Pt.locs, Pt.cells, Pt.slots] at X149 l149 y149 z149 st149 hQ149
          have l149y := l149.symm
          clear l149
          subst l149y
          obtain rfl : k149 = 4 := y149
          obtain rfl : n149 = 10 := z149
          obtain ⟨rfl, N149q, e149⟩ := hQ149
          have N149 := Fr.app N148 N149q
          refine own_toW T149 (mkF m 353 #[.val (.int i0), .val (.int i1), .val (.int i2), .val (.int i3), .val (.int i4), .val (.int (2 : Int32)), .val (.int va), .val (.int vb), .val (.int vc), .val (.ref b103), .val (.ref b114), .val (.ref b122), .val (.int (0 : Int32)), .val (.int (1 : Int32)), .val (.int (1 : Int32)), .val (.int (1 : Int32)), .val (.int (1 : Int32))] [(.int (own_end q1 2))]) (fun tq kq => st149.trans kq) ?_
          rw [show (own_end q1 2) = (1 : Int32) from if_neg (fun hlt => hstop hlt (by have h3 : q1 = 0 ∨ q1 = 1 := (by omega); rcases h3 with rfl | rfl <;> (first | exact (show own_ws (own_ch (va.toInt8.toInt32)) from (own_chb hcva).symm ▸ hw0) | exact (show own_ws (own_ch (vb.toInt8.toInt32)) from (own_chb hcvb).symm ▸ hw1))))]
          refine own_toW T149 (mkF m 363 #[.val (.int i0), .val (.int i1), .val (.int i2), .val (.int i3), .val (.int i4), .val (.int (2 : Int32)), .val (.int va), .val (.int vb), .val (.int vc), .val (.ref b103), .val (.ref b114), .val (.ref b122), .val (.int (0 : Int32)), .val (.int (1 : Int32)), .val (.int (1 : Int32)), .val (.int (1 : Int32)), .val (.int (1 : Int32))] [(.int (1 : Int32))]) (fun tq kq => XS.iload X149.here hx rfl (hb hby at_353) rfl (XS.icmpNo X149.here hx rfl (hb hby at_355) rfl (teq (by decide : (1 : Int32) = (1 : Int32))).2 (XS.iconst X149.here hx rfl (hb hby at_358) (XS.goto X149.here hx rfl (pc0 := 359) (pc' := 363) rfl (hb hby at_359) (by decide) (by decide) kq)))) ?_
          exact own_retZW X149 hS (by rw [e149]; exact hk) hx hret hlk (hb hby at_363) (by decide) (by decide) (Or.inr rfl) ⟨rfl, N149⟩
        · skip
          obtain ⟨_, _, ⟨T150, L150, k150, n150⟩, -, X150, ⟨Lc150, hQ150, l150, y150, z150⟩, st150⟩ := Jvm.LawKit.callS X147 hx (y := (⟨"com/example/wayline/wayline/HeaderReaderAtEndPinLaw", "ws", "(C)Z"⟩ : MethodName)) hown (mvT hZ (own_w hw 153 rfl)) (mvT hZ (own_w hw 154 rfl)) (mvT hZ (own_w hw 2 rfl)) (mvT hZ (own_w hw 155 rfl)) (by decide) (backOf (W := 0) (rmWs0 l Z a0 hw [] vb T139.heap n0 Zs139 hw1) hZ (own_w hw 155 rfl) (own_w hw 2 rfl) (by decide) (by decide)) (g := (mkF m 203 #[.val (.int i0), .val (.int i1), .val (.int i2), .val (.int i3), .val (.int i4), .val (.int (2 : Int32)), .val (.int va), .val (.int vb), .val (.int vc), .val (.ref b103), .val (.ref b114), .val (.ref b122), .val (.int (0 : Int32)), .unset, .val (.int (1 : Int32)), .unset, .unset] [(.int vb)])) rfl (by rw [hml]; rfl) (argsL := [(.int vb)]) (rest := []) (lenOf pd_25 rfl) rfl (by show 2 * 0 + _ ≤ _; exact Nat.le_of_eq rfl) (hb hby at_203) (fun _ _ => ⟨rfl, e147, (by decide : 4 + 0 ≤ _), (by decide : 10 + 0 ≤ _)⟩)
          dsimp only [Pt.U, Pt.locs, Pt.cells, Pt.slots] at X150 l150 y150 z150 st150 hQ150
          have l150y := l150.symm
          clear l150
          subst l150y
          obtain rfl : k150 = 4 := y150
          obtain rfl : n150 = 10 := z150
          obtain ⟨rfl, N150q, e150⟩ := hQ150
          have N150 := Fr.app N147 N150q
          refine own_toW T150 (mkF m 237 #[.val (.int i0), .val (.int i1), .val (.int i2), .val (.int i3), .val (.int i4), .val (.int (2 : Int32)), .val (.int va), .val (.int vb), .val (.int vc), .val (.ref b103), .val (.ref b114), .val (.ref b122), .val (.int (0 : Int32)), .unset, .val (.int (1 : Int32)), .val (.int (0 : Int32)), .val (.int (1 : Int32))] []) (fun tq kq => st150 _ (XS.ifYes X150.here hx rfl (pc0 := 206) (pc' := 213) rfl (hb hby at_206) rfl ((if0 _ _).trans (teq (by decide : (0 : Int32) = (0 : Int32))).1) (by decide) (by decide) (XS.iconst X150.here hx rfl (hb hby at_213) (XS.istore X150.here hx rfl (hb hby at_214) rfl (l' := #[.val (.int i0), .val (.int i1), .val (.int i2), .val (.int i3), .val (.int i4), .val (.int (2 : Int32)), .val (.int va), .val (.int vb), .val (.int vc), .val (.ref b103), .val (.ref b114), .val (.ref b122), .val (.int (0 : Int32)), .unset, .val (.int (1 : Int32)), .val (.int (0 : Int32)), .unset]) rfl (XS.iload X150.here hx rfl (hb hby at_216) rfl (XS.iconst X150.here hx rfl (hb hby at_218) (XS.icmpYes X150.here hx rfl (pc0 := 219) (pc' := 230) rfl (hb hby at_219) rfl (tlt (by decide : (2 : Int32) < (3 : Int32))).1 (by decide) (by decide) (XS.iconst X150.here hx rfl (hb hby at_230) (XS.goto X150.here hx rfl (pc0 := 231) (pc' := 235) rfl (hb hby at_231) (by decide) (by decide) (XS.istore X150.here hx rfl (hb hby at_235) rfl (l' := #[.val (.int i0), .val (.int i1), .val (.int i2), .val (.int i3), .val (.int i4), .val (.int (2 : Int32)), .val (.int va), .val (.int vb), .val (.int vc), .val (.ref b103), .val (.ref b114), .val (.ref b122), .val (.int (0 : Int32)), .unset, .val (.int (1 : Int32)), .val (.int (0 : Int32)), .val (.int (1 : Int32))]) rfl kq)))))))))) ?_
          refine own_toW T150 (mkF m 350 #[.val (.int i0), .val (.int i1), .val (.int i2), .val (.int i3), .val (.int i4), .val (.int (2 : Int32)), .val (.int va), .val (.int vb), .val (.int vc), .val (.ref b103), .val (.ref b114), .val (.ref b122), .val (.int (0 : Int32)), .val (.int (0 : Int32)), .val (.int (1 : Int32)), .val (.int (0 : Int32)), .val (.int (1 : Int32))] [(.ref b122)]) (fun tq kq => XS.iload X150.here hx rfl (hb hby at_237) rfl (XS.ifNo X150.here hx rfl (hb hby at_239) rfl ((if0 _ _).trans (feq (by decide : ¬ ((1 : Int32) = (0 : Int32)))).1) (XS.iload X150.here hx rfl (hb hby at_242) rfl (XS.ifYes X150.here hx rfl (pc0 := 244) (pc' := 256) rfl (hb hby at_244) rfl ((if0 _ _).trans (teq (by decide : (0 : Int32) = (0 : Int32))).1) (by decide) (by decide) (XS.iconst X150.here hx rfl (hb hby at_256) (XS.istore X150.here hx rfl (hb hby at_257) rfl (l' := #[.val (.int i0), .val (.int i1), .val (.int i2), .val (.int i3), .val (.int i4), .val (.int (2 : Int32)), .val (.int va), .val (.int vb), .val (.int vc), .val (.ref b103), .val (.ref b114), .val (.ref b122), .val (.int (0 : Int32)), .val (.int (0 : Int32)), .val (.int (1 : Int32)), .val (.int (0 : Int32)), .val (.int (1 : Int32))]) rfl (XS.goto X150.here hx rfl (pc0 := 259) (pc' := 348) rfl (hb hby at_259) (by decide) (by decide) (XS.aload X150.here hx rfl (hb hby at_348) rfl rfl kq)))))))) ?_
          obtain ⟨cq151, kq151, q151a, q151b, q151c⟩ := isOf hZ e150 E139q
          obtain ⟨_, _, ⟨T151, L151, k151, n151⟩, -, X151, ⟨Lc151, hQ151, l151, y151, z151⟩, st151⟩ := X150.virtualBack hx (y := (⟨"com/example/wayline/wayline/HeaderReader", "atEnd", "()Z"⟩ : MethodName)) (z := (⟨"com/example/wayline/wayline/HeaderReader", "atEnd", "()Z"⟩ : MethodName)) hown (mvT hZ (own_w hw 35 rfl)) (mvT hZ (own_w hw 36 rfl)) (notFace_of_selects (args := #[]) (mvT hZ (own_w hw 38 rfl))) (mvT hZ (own_w hw 38 rfl)) (mvT hZ (own_w hw 37 rfl)) (by decide) (backOf (W := 0) (rmEnd l Z a0 hw [] b122 b114 t118 q1 2 (own_bl ([va, vb] : List Int32)) G1 T139.heap n0 Zs139 f140 hG V139q P139q f142 f143 f144 f145 (by omega) (by omega)) hZ (own_w hw 39 rfl) (own_w hw 28 rfl) (by decide) (by decide)) q151a q151c (g := (mkF m 350 #[.val (.int i0), .val (.int i1), .val (.int i2), .val (.int i3), .val (.int i4), .val (.int (2 : Int32)), .val (.int va), .val (.int vb), .val (.int vc), .val (.ref b103), .val (.ref b114), .val (.ref b122), .val (.int (0 : Int32)), .val (.int (0 : Int32)), .val (.int (1 : Int32)), .val (.int (0 : Int32)), .val (.int (1 : Int32))] [(.ref b122)])) rfl (by rw [hml]; rfl) (Steps.refl _) (argsL := []) (rest := []) (lenOf pd_5 rfl) rfl (by show 2 * 0 + _ ≤ _; exact Nat.le_of_eq rfl) (hb hby at_350) (fun _ _ => ⟨rfl, e150, (by decide : 4 + 0 ≤ _), (by decide : 10 + 0 ≤ _)⟩)
          dsimp only [Pt.U, Pt.locs, Pt.cells, Pt.slots] at X151 l151 y151 z151 st151 hQ151
          have l151y := l151.symm
          clear l151
          subst l151y
          obtain rfl : k151 = 4 := y151
          obtain rfl : n151 = 10 := z151
          obtain ⟨rfl, N151q, e151⟩ := hQ151
          have N151 := Fr.app N150 N151q
          refine own_toW T151 (mkF m 353 #[.val (.int i0), .val (.int i1), .val (.int i2), .val (.int i3), .val (.int i4), .val (.int (2 : Int32)), .val (.int va), .val (.int vb), .val (.int vc), .val (.ref b103), .val (.ref b114), .val (.ref b122), .val (.int (0 : Int32)), .val (.int (0 : Int32)), .val (.int (1 : Int32)), .val (.int (0 : Int32)), .val (.int (1 : Int32))] [(.int (own_end q1 2))]) (fun tq kq => st151.trans kq) ?_
          rw [show (own_end q1 2) = (0 : Int32) from if_pos (Nat.lt_of_not_le fun hle => hw1 (own_chb hcvb ▸ hall 1 (by omega) (by omega)))]
          refine own_toW T151 (mkF m 363 #[.val (.int i0), .val (.int i1), .val (.int i2), .val (.int i3), .val (.int i4), .val (.int (2 : Int32)), .val (.int va), .val (.int vb), .val (.int vc), .val (.ref b103), .val (.ref b114), .val (.ref b122), .val (.int (0 : Int32)), .val (.int (0 : Int32)), .val (.int (1 : Int32)), .val (.int (0 : Int32)), .val (.int (1 : Int32))] [(.int (1 : Int32))]) (fun tq kq => XS.iload X151.here hx rfl (hb hby at_353) rfl (XS.icmpNo X151.here hx rfl (hb hby at_355) rfl (teq (by decide : (0 : Int32) = (0 : Int32))).2 (XS.iconst X151.here hx rfl (hb hby at_358) (XS.goto X151.here hx rfl (pc0 := 359) (pc' := 363) rfl (hb hby at_359) (by decide) (by decide) kq)))) ?_
          exact own_retZW X151 hS (by rw [e151]; exact hk) hx hret hlk (hb hby at_363) (by decide) (by decide) (Or.inr rfl) ⟨rfl, N151⟩
      · skip
        obtain ⟨_, _, ⟨T152, L152, k152, n152⟩, -, X152, ⟨Lc152, hQ152, l152, y152, z152⟩, st152⟩ := Jvm.LawKit.callS X139 hx (y := (⟨"com/example/wayline/wayline/HeaderReaderAtEndPinLaw", "ws", "(C)Z"⟩ : MethodName)) hown (mvT hZ (own_w hw 153 rfl)) (mvT hZ (own_w hw 154 rfl)) (mvT hZ (own_w hw 2 rfl)) (mvT hZ (own_w hw 155 rfl)) (by decide) (backOf (W := 0) (rmWs0 l Z a0 hw [] va T139.heap n0 Zs139 hw0) hZ (own_w hw 155 rfl) (own_w hw 2 rfl) (by decide) (by decide)) (g := (mkF m 182 #[.val (.int i0), .val (.int i1), .val (.int i2), .val (.int i3), .val (.int i4), .val (.int (2 : Int32)), .val (.int va), .val (.int vb), .val (.int vc), .val (.ref b103), .val (.ref b114), .val (.ref b122), .val (.int (0 : Int32)), .unset, .unset, .unset, .unset] [(.int va)])) rfl (by rw [hml]; rfl) (argsL := [(.int va)]) (rest := []) (lenOf pd_25 rfl) rfl (by show 2 * 0 + _ ≤ _; exact Nat.le_of_eq rfl) (hb hby at_182) (fun _ _ => ⟨rfl, rfl, (by decide : 4 + 0 ≤ _), (by decide : 10 + 0 ≤ _)⟩)
        dsimp only [Pt.U, Pt.locs, Pt.cells, Pt.slots] at X152 l152 y152 z152 st152 hQ152
        have l152y := l152.symm
        clear l152
        subst l152y
        obtain rfl : k152 = 4 := y152
        obtain rfl : n152 = 10 := z152
        obtain ⟨rfl, N152q, e152⟩ := hQ152
        have N152 := Fr.app N139 N152q
        refine own_toW T152 (mkF m 203 #[.val (.int i0), .val (.int i1), .val (.int i2), .val (.int i3), .val (.int i4), .val (.int (2 : Int32)), .val (.int va), .val (.int vb), .val (.int vc), .val (.ref b103), .val (.ref b114), .val (.ref b122), .val (.int (0 : Int32)), .unset, .val (.int (0 : Int32)), .unset, .unset] [(.int vb)]) (fun tq kq => st152 _ (XS.ifYes X152.here hx rfl (pc0 := 185) (pc' := 192) rfl (hb hby at_185) rfl ((if0 _ _).trans (teq (by decide : (0 : Int32) = (0 : Int32))).1) (by decide) (by decide) (XS.iconst X152.here hx rfl (hb hby at_192) (XS.istore X152.here hx rfl (hb hby at_193) rfl (l' := #[.val (.int i0), .val (.int i1), .val (.int i2), .val (.int i3), .val (.int i4), .val (.int (2 : Int32)), .val (.int va), .val (.int vb), .val (.int vc), .val (.ref b103), .val (.ref b114), .val (.ref b122), .val (.int (0 : Int32)), .unset, .val (.int (0 : Int32)), .unset, .unset]) rfl (XS.iload X152.here hx rfl (hb hby at_195) rfl (XS.iconst X152.here hx rfl (hb hby at_197) (XS.icmpNo X152.here hx rfl (hb hby at_198) rfl (flt (by decide : ¬ ((2 : Int32) < (2 : Int32)))).1 (XS.iload X152.here hx rfl (hb hby at_201) rfl kq)))))))) ?_
        by_cases hw1 : own_ws vb
        · skip
          obtain ⟨_, _, ⟨T153, L153, k153, n153⟩, -, X153, ⟨Lc153, hQ153, l153, y153, z153⟩, st153⟩ := Jvm.LawKit.callS X152 hx (y := (⟨"com/example/wayline/wayline/HeaderReaderAtEndPinLaw", "ws", "(C)Z"⟩ : MethodName)) hown (mvT hZ (own_w hw 153 rfl)) (mvT hZ (own_w hw 154 rfl)) (mvT hZ (own_w hw 2 rfl)) (mvT hZ (own_w hw 155 rfl)) (by decide) (backOf (W := 0) (rmWs1 l Z a0 hw [] vb T139.heap n0 Zs139 hw1) hZ (own_w hw 155 rfl) (own_w hw 2 rfl) (by decide) (by decide)) (g := (mkF m 203 #[.val (.int i0), .val (.int i1), .val (.int i2), .val (.int i3), .val (.int i4), .val (.int (2 : Int32)), .val (.int va), .val (.int vb), .val (.int vc), .val (.ref b103), .val (.ref b114), .val (.ref b122), .val (.int (0 : Int32)), .unset, .val (.int (0 : Int32)), .unset, .unset] [(.int vb)])) rfl (by rw [hml]; rfl) (argsL := [(.int vb)]) (rest := []) (lenOf pd_25 rfl) rfl (by show 2 * 0 + _ ≤ _; exact Nat.le_of_eq rfl) (hb hby at_203) (fun _ _ => ⟨rfl, e152, (by decide : 4 + 0 ≤ _), (by decide : 10 + 0 ≤ _)⟩)
          dsimp only [Pt.U, Pt.locs, Pt.cells, Pt.slots] at X153 l153 y153 z153 st153 hQ153
          have l153y := l153.symm
          clear l153
          subst l153y
          obtain rfl : k153 = 4 := y153
          obtain rfl : n153 = 10 := z153
          obtain ⟨rfl, N153q, e153⟩ := hQ153
          have N153 := Fr.app N152 N153q
          refine own_toW T153 (mkF m 235 #[.val (.int i0), .val (.int i1), .val (.int i2), .val (.int i3), .val (.int i4), .val (.int (2 : Int32)), .val (.int va), .val (.int vb), .val (.int vc), .val (.ref b103), .val (.ref b114), .val (.ref b122), .val (.int (0 : Int32)), .unset, .val (.int (0 : Int32)), .val (.int (1 : Int32)), .unset] [(.int (1 : Int32))]) (fun tq kq => st153 _ (XS.ifNo X153.here hx rfl (hb hby at_206) rfl ((if0 _ _).trans (feq (by decide : ¬ ((1 : Int32) = (0 : Int32)))).1) (XS.iconst X153.here hx rfl (hb hby at_209) (XS.goto X153.here hx rfl (pc0 := 210) (pc' := 214) rfl (hb hby at_210) (by decide) (by decide) (XS.istore X153.here hx rfl (hb hby at_214) rfl (l' := #[.val (.int i0), .val (.int i1), .val (.int i2), .val (.int i3), .val (.int i4), .val (.int (2 : Int32)), .val (.int va), .val (.int vb), .val (.int vc), .val (.ref b103), .val (.ref b114), .val (.ref b122), .val (.int (0 : Int32)), .unset, .val (.int (0 : Int32)), .val (.int (1 : Int32)), .unset]) rfl (XS.iload X153.here hx rfl (hb hby at_216) rfl (XS.iconst X153.here hx rfl (hb hby at_218) (XS.icmpYes X153.here hx rfl (pc0 := 219) (pc' := 230) rfl (hb hby at_219) rfl (tlt (by decide : (2 : Int32) < (3 : Int32))).1 (by decide) (by decide) (XS.iconst X153.here hx rfl (hb hby at_230) (XS.goto X153.here hx rfl (pc0 := 231) (pc' := 235) rfl (hb hby at_231) (by decide) (by decide) kq)))))))))) ?_
          refine own_toW T153 (mkF m 350 #[.val (.int i0), .val (.int i1), .val (.int i2), .val (.int i3), .val (.int i4), .val (.int (2 : Int32)), .val (.int va), .val (.int vb), .val (.int vc), .val (.ref b103), .val (.ref b114), .val (.ref b122), .val (.int (0 : Int32)), .val (.int (0 : Int32)), .val (.int (0 : Int32)), .val (.int (1 : Int32)), .val (.int (1 : Int32))] [(.ref b122)]) (fun tq kq => XS.istore X153.here hx rfl (hb hby at_235) rfl (l' := #[.val (.int i0), .val (.int i1), .val (.int i2), .val (.int i3), .val (.int i4), .val (.int (2 : Int32)), .val (.int va), .val (.int vb), .val (.int vc), .val (.ref b103), .val (.ref b114), .val (.ref b122), .val (.int (0 : Int32)), .unset, .val (.int (0 : Int32)), .val (.int (1 : Int32)), .val (.int (1 : Int32))]) rfl (XS.iload X153.here hx rfl (hb hby at_237) rfl (XS.ifYes X153.here hx rfl (pc0 := 239) (pc' := 256) rfl (hb hby at_239) rfl ((if0 _ _).trans (teq (by decide : (0 : Int32) = (0 : Int32))).1) (by decide) (by decide) (XS.iconst X153.here hx rfl (hb hby at_256) (XS.istore X153.here hx rfl (hb hby at_257) rfl (l' := #[.val (.int i0), .val (.int i1), .val (.int i2), .val (.int i3), .val (.int i4), .val (.int (2 : Int32)), .val (.int va), .val (.int vb), .val (.int vc), .val (.ref b103), .val (.ref b114), .val (.ref b122), .val (.int (0 : Int32)), .val (.int (0 : Int32)), .val (.int (0 : Int32)), .val (.int (1 : Int32)), .val (.int (1 : Int32))]) rfl (XS.goto X153.here hx rfl (pc0 := 259) (pc' := 348) rfl (hb hby at_259) (by decide) (by decide) (XS.aload X153.here hx rfl (hb hby at_348) rfl rfl kq))))))) ?_
          obtain ⟨cq154, kq154, q154a, q154b, q154c⟩ := isOf hZ e153 E139q
          obtain ⟨_, _, ⟨T154, L154, k154, n154⟩, -, X154, ⟨Lc154, hQ154, l154, y154, z154⟩, st154⟩ := X153.virtualBack hx (y := (⟨"com/example/wayline/wayline/HeaderReader", "atEnd", "()Z"⟩ : MethodName)) (z := (⟨"com/example/wayline/wayline/HeaderReader", "atEnd", "()Z"⟩ : MethodName)) hown (mvT hZ (own_w hw 35 rfl)) (mvT hZ (own_w hw 36 rfl)) (notFace_of_selects (args := #[]) (mvT hZ (own_w hw 38 rfl))) (mvT hZ (own_w hw 38 rfl)) (mvT hZ (own_w hw 37 rfl)) (by decide) (backOf (W := 0) (rmEnd l Z a0 hw [] b122 b114 t118 q1 2 (own_bl ([va, vb] : List Int32)) G1 T139.heap n0 Zs139 f140 hG V139q P139q f142 f143 f144 f145 (by omega) (by omega)) hZ (own_w hw 39 rfl) (own_w hw 28 rfl) (by decide) (by decide)) q154a q154c (g := (mkF m 350 #[.val (.int i0), .val (.int i1), .val (.int i2), .val (.int i3), .val (.int i4), .val (.int (2 : Int32)), .val (.int va), .val (.int vb), .val (.int vc), .val (.ref b103), .val (.ref b114), .val (.ref b122), .val (.int (0 : Int32)), .val (.int (0 : Int32)), .val (.int (0 : Int32)), .val (.int (1 : Int32)), .val (.int (1 : Int32))] [(.ref b122)])) rfl (by rw [hml]; rfl) (Steps.refl _) (argsL := []) (rest := []) (lenOf pd_5 rfl) rfl (by show 2 * 0 + _ ≤ _; exact Nat.le_of_eq rfl) (hb hby at_350) (fun _ _ => ⟨rfl, e153, (by decide : 4 + 0 ≤ _), (by decide : 10 + 0 ≤ _)⟩)
          dsimp only [Pt.U, Pt.locs, Pt.cells, Pt.slots] at X154 l154 y154 z154 st154 hQ154
          have l154y := l154.symm
          clear l154
          subst l154y
          obtain rfl : k154 = 4 := y154
          obtain rfl : n154 = 10 := z154
          obtain ⟨rfl, N154q, e154⟩ := hQ154
          have N154 := Fr.app N153 N154q
          refine own_toW T154 (mkF m 353 #[.val (.int i0), .val (.int i1), .val (.int i2), .val (.int i3), .val (.int i4), .val (.int (2 : Int32)), .val (.int va), .val (.int vb), .val (.int vc), .val (.ref b103), .val (.ref b114), .val (.ref b122), .val (.int (0 : Int32)), .val (.int (0 : Int32)), .val (.int (0 : Int32)), .val (.int (1 : Int32)), .val (.int (1 : Int32))] [(.int (own_end q1 2))]) (fun tq kq => st154.trans kq) ?_
          rw [show (own_end q1 2) = (0 : Int32) from if_pos (Nat.lt_of_not_le fun hle => hw0 (own_chb hcva ▸ hall 0 (by omega) (by omega)))]
          refine own_toW T154 (mkF m 363 #[.val (.int i0), .val (.int i1), .val (.int i2), .val (.int i3), .val (.int i4), .val (.int (2 : Int32)), .val (.int va), .val (.int vb), .val (.int vc), .val (.ref b103), .val (.ref b114), .val (.ref b122), .val (.int (0 : Int32)), .val (.int (0 : Int32)), .val (.int (0 : Int32)), .val (.int (1 : Int32)), .val (.int (1 : Int32))] [(.int (1 : Int32))]) (fun tq kq => XS.iload X154.here hx rfl (hb hby at_353) rfl (XS.icmpNo X154.here hx rfl (hb hby at_355) rfl (teq (by decide : (0 : Int32) = (0 : Int32))).2 (XS.iconst X154.here hx rfl (hb hby at_358) (XS.goto X154.here hx rfl (pc0 := 359) (pc' := 363) rfl (hb hby at_359) (by decide) (by decide) kq)))) ?_
          exact own_retZW X154 hS (by rw [e154]; exact hk) hx hret hlk (hb hby at_363) (by decide) (by decide) (Or.inr rfl) ⟨rfl, N154⟩
        · skip
          obtain ⟨_, _, ⟨T155, L155, k155, n155⟩, -, X155, ⟨Lc155, hQ155, l155, y155, z155⟩, st155⟩ := Jvm.LawKit.callS X152 hx (y := (⟨"com/example/wayline/wayline/HeaderReaderAtEndPinLaw", "ws", "(C)Z"⟩ : MethodName)) hown (mvT hZ (own_w hw 153 rfl)) (mvT hZ (own_w hw 154 rfl)) (mvT hZ (own_w hw 2 rfl)) (mvT hZ (own_w hw 155 rfl)) (by decide) (backOf (W := 0) (rmWs0 l Z a0 hw [] vb T139.heap n0 Zs139 hw1) hZ (own_w hw 155 rfl) (own_w hw 2 rfl) (by decide) (by decide)) (g := (mkF m 203 #[.val (.int i0), .val (.int i1), .val (.int i2), .val (.int i3), .val (.int i4), .val (.int (2 : Int32)), .val (.int va), .val (.int vb), .val (.int vc), .val (.ref b103), .val (.ref b114), .val (.ref b122), .val (.int (0 : Int32)), .unset, .val (.int (0 : Int32)), .unset, .unset] [(.int vb)])) rfl (by rw [hml]; rfl) (argsL := [(.int vb)]) (rest := []) (lenOf pd_25 rfl) rfl (by show 2 * 0 + _ ≤ _; exact Nat.le_of_eq rfl) (hb hby at_203) (fun _ _ => ⟨rfl, e152, (by decide : 4 + 0 ≤ _), (by decide : 10 + 0 ≤ _)⟩)
          dsimp only [Pt.U, Pt.locs, Pt.cells, Pt.slots] at X155 l155 y155 z155 st155 hQ155
          have l155y := l155.symm
          clear l155
          subst l155y
          obtain rfl : k155 = 4 := y155
          obtain rfl : n155 = 10 := z155
          obtain ⟨rfl, N155q, e155⟩ := hQ155
          have N155 := Fr.app N152 N155q
          refine own_toW T155 (mkF m 237 #[.val (.int i0), .val (.int i1), .val (.int i2), .val (.int i3), .val (.int i4), .val (.int (2 : Int32)), .val (.int va), .val (.int vb), .val (.int vc), .val (.ref b103), .val (.ref b114), .val (.ref b122), .val (.int (0 : Int32)), .unset, .val (.int (0 : Int32)), .val (.int (0 : Int32)), .val (.int (1 : Int32))] []) (fun tq kq => st155 _ (XS.ifYes X155.here hx rfl (pc0 := 206) (pc' := 213) rfl (hb hby at_206) rfl ((if0 _ _).trans (teq (by decide : (0 : Int32) = (0 : Int32))).1) (by decide) (by decide) (XS.iconst X155.here hx rfl (hb hby at_213) (XS.istore X155.here hx rfl (hb hby at_214) rfl (l' := #[.val (.int i0), .val (.int i1), .val (.int i2), .val (.int i3), .val (.int i4), .val (.int (2 : Int32)), .val (.int va), .val (.int vb), .val (.int vc), .val (.ref b103), .val (.ref b114), .val (.ref b122), .val (.int (0 : Int32)), .unset, .val (.int (0 : Int32)), .val (.int (0 : Int32)), .unset]) rfl (XS.iload X155.here hx rfl (hb hby at_216) rfl (XS.iconst X155.here hx rfl (hb hby at_218) (XS.icmpYes X155.here hx rfl (pc0 := 219) (pc' := 230) rfl (hb hby at_219) rfl (tlt (by decide : (2 : Int32) < (3 : Int32))).1 (by decide) (by decide) (XS.iconst X155.here hx rfl (hb hby at_230) (XS.goto X155.here hx rfl (pc0 := 231) (pc' := 235) rfl (hb hby at_231) (by decide) (by decide) (XS.istore X155.here hx rfl (hb hby at_235) rfl (l' := #[.val (.int i0), .val (.int i1), .val (.int i2), .val (.int i3), .val (.int i4), .val (.int (2 : Int32)), .val (.int va), .val (.int vb), .val (.int vc), .val (.ref b103), .val (.ref b114), .val (.ref b122), .val (.int (0 : Int32)), .unset, .val (.int (0 : Int32)), .val (.int (0 : Int32)), .val (.int (1 : Int32))]) rfl kq)))))))))) ?_
          refine own_toW T155 (mkF m 350 #[.val (.int i0), .val (.int i1), .val (.int i2), .val (.int i3), .val (.int i4), .val (.int (2 : Int32)), .val (.int va), .val (.int vb), .val (.int vc), .val (.ref b103), .val (.ref b114), .val (.ref b122), .val (.int (0 : Int32)), .val (.int (0 : Int32)), .val (.int (0 : Int32)), .val (.int (0 : Int32)), .val (.int (1 : Int32))] [(.ref b122)]) (fun tq kq => XS.iload X155.here hx rfl (hb hby at_237) rfl (XS.ifYes X155.here hx rfl (pc0 := 239) (pc' := 256) rfl (hb hby at_239) rfl ((if0 _ _).trans (teq (by decide : (0 : Int32) = (0 : Int32))).1) (by decide) (by decide) (XS.iconst X155.here hx rfl (hb hby at_256) (XS.istore X155.here hx rfl (hb hby at_257) rfl (l' := #[.val (.int i0), .val (.int i1), .val (.int i2), .val (.int i3), .val (.int i4), .val (.int (2 : Int32)), .val (.int va), .val (.int vb), .val (.int vc), .val (.ref b103), .val (.ref b114), .val (.ref b122), .val (.int (0 : Int32)), .val (.int (0 : Int32)), .val (.int (0 : Int32)), .val (.int (0 : Int32)), .val (.int (1 : Int32))]) rfl (XS.goto X155.here hx rfl (pc0 := 259) (pc' := 348) rfl (hb hby at_259) (by decide) (by decide) (XS.aload X155.here hx rfl (hb hby at_348) rfl rfl kq)))))) ?_
          obtain ⟨cq156, kq156, q156a, q156b, q156c⟩ := isOf hZ e155 E139q
          obtain ⟨_, _, ⟨T156, L156, k156, n156⟩, -, X156, ⟨Lc156, hQ156, l156, y156, z156⟩, st156⟩ := X155.virtualBack hx (y := (⟨"com/example/wayline/wayline/HeaderReader", "atEnd", "()Z"⟩ : MethodName)) (z := (⟨"com/example/wayline/wayline/HeaderReader", "atEnd", "()Z"⟩ : MethodName)) hown (mvT hZ (own_w hw 35 rfl)) (mvT hZ (own_w hw 36 rfl)) (notFace_of_selects (args := #[]) (mvT hZ (own_w hw 38 rfl))) (mvT hZ (own_w hw 38 rfl)) (mvT hZ (own_w hw 37 rfl)) (by decide) (backOf (W := 0) (rmEnd l Z a0 hw [] b122 b114 t118 q1 2 (own_bl ([va, vb] : List Int32)) G1 T139.heap n0 Zs139 f140 hG V139q P139q f142 f143 f144 f145 (by omega) (by omega)) hZ (own_w hw 39 rfl) (own_w hw 28 rfl) (by decide) (by decide)) q156a q156c (g := (mkF m 350 #[.val (.int i0), .val (.int i1), .val (.int i2), .val (.int i3), .val (.int i4), .val (.int (2 : Int32)), .val (.int va), .val (.int vb), .val (.int vc), .val (.ref b103), .val (.ref b114), .val (.ref b122), .val (.int (0 : Int32)), .val (.int (0 : Int32)), .val (.int (0 : Int32)), .val (.int (0 : Int32)), .val (.int (1 : Int32))] [(.ref b122)])) rfl (by rw [hml]; rfl) (Steps.refl _) (argsL := []) (rest := []) (lenOf pd_5 rfl) rfl (by show 2 * 0 + _ ≤ _; exact Nat.le_of_eq rfl) (hb hby at_350) (fun _ _ => ⟨rfl, e155, (by decide : 4 + 0 ≤ _), (by decide : 10 + 0 ≤ _)⟩)
          dsimp only [Pt.U, Pt.locs, Pt.cells, Pt.slots] at X156 l156 y156 z156 st156 hQ156
          have l156y := l156.symm
          clear l156
          subst l156y
          obtain rfl : k156 = 4 := y156
          obtain rfl : n156 = 10 := z156
          obtain ⟨rfl, N156q, e156⟩ := hQ156
          have N156 := Fr.app N155 N156q
          refine own_toW T156 (mkF m 353 #[.val (.int i0), .val (.int i1), .val (.int i2), .val (.int i3), .val (.int i4), .val (.int (2 : Int32)), .val (.int va), .val (.int vb), .val (.int vc), .val (.ref b103), .val (.ref b114), .val (.ref b122), .val (.int (0 : Int32)), .val (.int (0 : Int32)), .val (.int (0 : Int32)), .val (.int (0 : Int32)), .val (.int (1 : Int32))] [(.int (own_end q1 2))]) (fun tq kq => st156.trans kq) ?_
          rw [show (own_end q1 2) = (0 : Int32) from if_pos (Nat.lt_of_not_le fun hle => hw0 (own_chb hcva ▸ hall 0 (by omega) (by omega)))]
          refine own_toW T156 (mkF m 363 #[.val (.int i0), .val (.int i1), .val (.int i2), .val (.int i3), .val (.int i4), .val (.int (2 : Int32)), .val (.int va), .val (.int vb), .val (.int vc), .val (.ref b103), .val (.ref b114), .val (.ref b122), .val (.int (0 : Int32)), .val (.int (0 : Int32)), .val (.int (0 : Int32)), .val (.int (0 : Int32)), .val (.int (1 : Int32))] [(.int (1 : Int32))]) (fun tq kq => XS.iload X156.here hx rfl (hb hby at_353) rfl (XS.icmpNo X156.here hx rfl (hb hby at_355) rfl (teq (by decide : (0 : Int32) = (0 : Int32))).2 (XS.iconst X156.here hx rfl (hb hby at_358) (XS.goto X156.here hx rfl (pc0 := 359) (pc' := 363) rfl (hb hby at_359) (by decide) (by decide) kq)))) ?_
          exact own_retZW X156 hS (by rw [e156]; exact hk) hx hret hlk (hb hby at_363) (by decide) (by decide) (Or.inr rfl) ⟨rfl, N156⟩
    · skip
      refine own_toW T138 (mkF m 272 #[.val (.int i0), .val (.int i1), .val (.int i2), .val (.int i3), .val (.int i4), .val (.int (2 : Int32)), .val (.int va), .val (.int vb), .val (.int vc), .val (.ref b103), .val (.ref b114), .val (.ref b122), .val (.int (0 : Int32)), .unset, .unset, .unset, .unset] [(.int ((((i4.toUInt32 >>> ((1 : Int32) &&& 31).toUInt32).toInt32) &&& (2147483647 : Int32)) % (2 : Int32)))]) (fun tq kq => XS.ifNo X138.here hx rfl (hb hby at_161) rfl ((if0 _ _).trans (feq c161).1) (XS.iload X138.here hx rfl (hb hby at_164) rfl (XS.ifYes X138.here hx rfl (pc0 := 166) (pc' := 262) rfl (hb hby at_166) rfl ((if0 _ _).trans (feq (by decide : ¬ ((2 : Int32) = (0 : Int32)))).2) (by decide) (by decide) (XS.iload X138.here hx rfl (hb hby at_262) rfl (XS.iconst X138.here hx rfl (hb hby at_264) (XS.iushr X138.here hx rfl (hb hby at_265) rfl (X138.ldcInt hx hown (mvT hZ (own_w hw 69 rfl)) (g := (mkF m 266 #[.val (.int i0), .val (.int i1), .val (.int i2), .val (.int i3), .val (.int i4), .val (.int (2 : Int32)), .val (.int va), .val (.int vb), .val (.int vc), .val (.ref b103), .val (.ref b114), .val (.ref b122), .val (.int (0 : Int32)), .unset, .unset, .unset, .unset] [(.int ((i4.toUInt32 >>> ((1 : Int32) &&& 31).toUInt32).toInt32))])) rfl (hb hby at_266) _ (XS.iand X138.here hx rfl (hb hby at_268) rfl (XS.iload X138.here hx rfl (hb hby at_269) rfl (iremM X138 hx rfl (hb hby at_271) rfl (by decide) kq)))))))))) ?_
      rcases own_mod2 ((i4.toUInt32 >>> ((1 : Int32) &&& 31).toUInt32).toInt32) with hmd | hmd
      · skip
        rw [hmd]
        refine own_toW T138 (mkF m 307 #[.val (.int i0), .val (.int i1), .val (.int i2), .val (.int i3), .val (.int i4), .val (.int (2 : Int32)), .val (.int va), .val (.int vb), .val (.int vc), .val (.ref b103), .val (.ref b114), .val (.ref b122), .val (.int (0 : Int32)), .unset, .val (.int (0 : Int32)), .val (.int va), .unset] [(.int (0 : Int32))]) (fun tq kq => XS.istore X138.here hx rfl (hb hby at_272) rfl (l' := #[.val (.int i0), .val (.int i1), .val (.int i2), .val (.int i3), .val (.int i4), .val (.int (2 : Int32)), .val (.int va), .val (.int vb), .val (.int vc), .val (.ref b103), .val (.ref b114), .val (.ref b122), .val (.int (0 : Int32)), .unset, .val (.int (0 : Int32)), .unset, .unset]) rfl (XS.iload X138.here hx rfl (hb hby at_274) rfl (XS.ifNo X138.here hx rfl (hb hby at_276) rfl ((if0 _ _).trans (teq (by decide : (0 : Int32) = (0 : Int32))).2) (XS.iload X138.here hx rfl (hb hby at_279) rfl (XS.goto X138.here hx rfl (pc0 := 281) (pc' := 297) rfl (hb hby at_281) (by decide) (by decide) (XS.istore X138.here hx rfl (hb hby at_297) rfl (l' := #[.val (.int i0), .val (.int i1), .val (.int i2), .val (.int i3), .val (.int i4), .val (.int (2 : Int32)), .val (.int va), .val (.int vb), .val (.int vc), .val (.ref b103), .val (.ref b114), .val (.ref b122), .val (.int (0 : Int32)), .unset, .val (.int (0 : Int32)), .val (.int va), .unset]) rfl (XS.iload X138.here hx rfl (hb hby at_299) rfl (XS.iload X138.here hx rfl (hb hby at_301) rfl (XS.icmpNo X138.here hx rfl (hb hby at_303) rfl (teq (rfl : va = va)).2 (XS.iconst X138.here hx rfl (hb hby at_306) kq)))))))))) ?_
        refine own_toW T138 (mkF m 328 #[.val (.int i0), .val (.int i1), .val (.int i2), .val (.int i3), .val (.int i4), .val (.int (2 : Int32)), .val (.int va), .val (.int vb), .val (.int vc), .val (.ref b103), .val (.ref b114), .val (.ref b122), .val (.int (0 : Int32)), .unset, .val (.int (0 : Int32)), .val (.int va), .val (.int (0 : Int32))] [(.int va), (.ref b122)]) (fun tq kq => XS.goto X138.here hx rfl (pc0 := 307) (pc' := 322) rfl (hb hby at_307) (by decide) (by decide) (XS.istore X138.here hx rfl (hb hby at_322) rfl (l' := #[.val (.int i0), .val (.int i1), .val (.int i2), .val (.int i3), .val (.int i4), .val (.int (2 : Int32)), .val (.int va), .val (.int vb), .val (.int vc), .val (.ref b103), .val (.ref b114), .val (.ref b122), .val (.int (0 : Int32)), .unset, .val (.int (0 : Int32)), .val (.int va), .val (.int (0 : Int32))]) rfl (XS.aload X138.here hx rfl (hb hby at_324) rfl rfl (XS.iload X138.here hx rfl (hb hby at_326) rfl kq)))) ?_
        obtain ⟨cq157, kq157, q157a, q157b, q157c⟩ := isOf hZ e138 E129q
        obtain ⟨_, _, ⟨T157, L157, k157, n157⟩, -, X157, hS157, hgr157, ⟨Lc157, hQ157, l157, y157, z157⟩, st157⟩ := X138.virtualBackS hx (y := (⟨"com/example/wayline/wayline/HeaderReader", "textBefore", "(C)Ljava/lang/String;"⟩ : MethodName)) (z := (⟨"com/example/wayline/wayline/HeaderReader", "textBefore", "(C)Ljava/lang/String;"⟩ : MethodName)) hown (mvT hZ (own_w hw 70 rfl)) (mvT hZ (own_w hw 71 rfl)) (notFace_of_selects (args := #[]) (mvT hZ (own_w hw 73 rfl))) (mvT hZ (own_w hw 73 rfl)) (mvT hZ (own_w hw 72 rfl)) (by decide) (backOfS (W := 0) (rmTB l Z a0 hw [] b122 b114 t118 0 0 2 (own_bl ([va, vb] : List Int32)) va G1 vF T129.heap n0 Zs129 f130 hG f131 hvF E129q V129q P129q f132 f133 f134 f135 (fun i hi => by have h3 : i = 0 ∨ i = 1 := (by omega); rcases h3 with rfl | rfl <;> exact own_fitb _) hcva.1 hcva.2 (by omega) (by omega) (by omega) rfl (fun i h1 h2 => absurd h2 (by omega)) sz122) hZ (own_w hw 74 rfl) (own_w hw 28 rfl) (by decide) (by decide)) q157a q157c (g := (mkF m 328 #[.val (.int i0), .val (.int i1), .val (.int i2), .val (.int i3), .val (.int i4), .val (.int (2 : Int32)), .val (.int va), .val (.int vb), .val (.int vc), .val (.ref b103), .val (.ref b114), .val (.ref b122), .val (.int (0 : Int32)), .unset, .val (.int (0 : Int32)), .val (.int va), .val (.int (0 : Int32))] [(.int va), (.ref b122)])) rfl (by rw [hml]; rfl) (Steps.refl _) (argsL := [(.int va)]) (rest := []) (lenOf pd_11 rfl) rfl (by show 2 * 0 + _ ≤ _; exact Nat.le_of_eq rfl) (hb hby at_328) (fun _ _ => ⟨rfl, e138, (by decide : 4 + 2 ≤ _), (by decide : 10 + 8 ≤ _)⟩)
        dsimp only [Pt.U, Pt.locs, Pt.cells, Pt.slots] at X157 l157 y157 z157 st157 hQ157
        have l157y := l157.symm
        clear l157
        subst l157y
        obtain rfl : k157 = 6 := y157
        obtain rfl : n157 = 18 := z157
        dsimp only [Pt.U, Pt.locs, Pt.cells, Pt.slots] at hS157 hgr157
        obtain ⟨X157, hS, hZ, hown⟩ := rebS hS hk X157 hS157 (by rw [← e138]; exact hgr157) hZ hown
        have hk := Nat.le_refl T157.heap.size
        obtain ⟨b157, rfl, N157q, K157q, E157q, V157q, P157q⟩ := hQ157
        have N157 := Fr.app N138 N157q
        have f158 := own_staX f130 K157q E129q
        have f159 := own_staX f131 K157q E129q
        have f160 := f132.keep K157q
        have f161 := f133.keep K157q (ninS ne_b114_b122 nin0)
        have f162 := f134.keep K157q (ninS ne_b114_b122 nin0)
        have f163 := f135.keep K157q (ninS ne_t118_b122 nin0)
        have f164 := E129q.keep K157q
        have Zs157 : n0 ≤ T157.heap.size := Nat.le_trans Zs129 K157q.1
        refine own_toW T157 (mkF m 336 #[.val (.int i0), .val (.int i1), .val (.int i2), .val (.int i3), .val (.int i4), .val (.int (2 : Int32)), .val (.int va), .val (.int vb), .val (.int vc), .val (.ref b103), .val (.ref b114), .val (.ref b122), .val (.int (0 : Int32)), .unset, .val (.int (0 : Int32)), .val (.int va), .val (.int (0 : Int32))] [(.int ((0 : Int32) + (1 : Int32)))]) (fun tq kq => st157.trans (XS.pop X157.here hx rfl (hb hby at_331) rfl rfl (XS.iload X157.here hx rfl (hb hby at_332) rfl (XS.iconst X157.here hx rfl (hb hby at_334) (XS.iadd X157.here hx rfl (hb hby at_335) rfl kq))))) ?_
        rw [show ((0 : Int32) + (1 : Int32)) = (1 : Int32) from by decide]
        refine own_toW T157 (mkF m 350 #[.val (.int i0), .val (.int i1), .val (.int i2), .val (.int i3), .val (.int i4), .val (.int (2 : Int32)), .val (.int va), .val (.int vb), .val (.int vc), .val (.ref b103), .val (.ref b114), .val (.ref b122), .val (.int (0 : Int32)), .val (.int (0 : Int32)), .val (.int (0 : Int32)), .val (.int va), .val (.int (0 : Int32))] [(.ref b122)]) (fun tq kq => XS.iload X157.here hx rfl (hb hby at_336) rfl (XS.icmpYes X157.here hx rfl (pc0 := 338) (pc' := 345) rfl (hb hby at_338) rfl (tlt (by decide : (1 : Int32) < (2 : Int32))).1 (by decide) (by decide) (XS.iconst X157.here hx rfl (hb hby at_345) (XS.istore X157.here hx rfl (hb hby at_346) rfl (l' := #[.val (.int i0), .val (.int i1), .val (.int i2), .val (.int i3), .val (.int i4), .val (.int (2 : Int32)), .val (.int va), .val (.int vb), .val (.int vc), .val (.ref b103), .val (.ref b114), .val (.ref b122), .val (.int (0 : Int32)), .val (.int (0 : Int32)), .val (.int (0 : Int32)), .val (.int va), .val (.int (0 : Int32))]) rfl (XS.aload X157.here hx rfl (hb hby at_348) rfl rfl kq))))) ?_
        obtain ⟨cq165, kq165, q165a, q165b, q165c⟩ := isOf hZ rfl E157q
        obtain ⟨_, _, ⟨T165, L165, k165, n165⟩, -, X165, ⟨Lc165, hQ165, l165, y165, z165⟩, st165⟩ := X157.virtualBack hx (y := (⟨"com/example/wayline/wayline/HeaderReader", "atEnd", "()Z"⟩ : MethodName)) (z := (⟨"com/example/wayline/wayline/HeaderReader", "atEnd", "()Z"⟩ : MethodName)) hown (mvT hZ (own_w hw 35 rfl)) (mvT hZ (own_w hw 36 rfl)) (notFace_of_selects (args := #[]) (mvT hZ (own_w hw 38 rfl))) (mvT hZ (own_w hw 38 rfl)) (mvT hZ (own_w hw 37 rfl)) (by decide) (backOf (W := 0) (rmEnd l Z a0 hw [] b122 b114 t118 (0 + 1) 2 (own_bl ([va, vb] : List Int32)) G1 T157.heap n0 Zs157 f158 hG V157q P157q f160 f161 f162 f163 (by omega) (by omega)) hZ (own_w hw 39 rfl) (own_w hw 28 rfl) (by decide) (by decide)) q165a q165c (g := (mkF m 350 #[.val (.int i0), .val (.int i1), .val (.int i2), .val (.int i3), .val (.int i4), .val (.int (2 : Int32)), .val (.int va), .val (.int vb), .val (.int vc), .val (.ref b103), .val (.ref b114), .val (.ref b122), .val (.int (0 : Int32)), .val (.int (0 : Int32)), .val (.int (0 : Int32)), .val (.int va), .val (.int (0 : Int32))] [(.ref b122)])) rfl (by rw [hml]; rfl) (Steps.refl _) (argsL := []) (rest := []) (lenOf pd_5 rfl) rfl (by show 2 * 0 + _ ≤ _; exact Nat.le_of_eq rfl) (hb hby at_350) (fun _ _ => ⟨rfl, rfl, (by decide : 6 + 0 ≤ _), (by decide : 18 + 0 ≤ _)⟩)
        dsimp only [Pt.U, Pt.locs, Pt.cells, Pt.slots] at X165 l165 y165 z165 st165 hQ165
        have l165y := l165.symm
        clear l165
        subst l165y
        obtain rfl : k165 = 6 := y165
        obtain rfl : n165 = 18 := z165
        obtain ⟨rfl, N165q, e165⟩ := hQ165
        have N165 := Fr.app N157 N165q
        refine own_toW T165 (mkF m 353 #[.val (.int i0), .val (.int i1), .val (.int i2), .val (.int i3), .val (.int i4), .val (.int (2 : Int32)), .val (.int va), .val (.int vb), .val (.int vc), .val (.ref b103), .val (.ref b114), .val (.ref b122), .val (.int (0 : Int32)), .val (.int (0 : Int32)), .val (.int (0 : Int32)), .val (.int va), .val (.int (0 : Int32))] [(.int (own_end (0 + 1) 2))]) (fun tq kq => st165.trans kq) ?_
        rw [show (own_end (0 + 1) 2) = (0 : Int32) from if_pos (by omega)]
        refine own_toW T165 (mkF m 363 #[.val (.int i0), .val (.int i1), .val (.int i2), .val (.int i3), .val (.int i4), .val (.int (2 : Int32)), .val (.int va), .val (.int vb), .val (.int vc), .val (.ref b103), .val (.ref b114), .val (.ref b122), .val (.int (0 : Int32)), .val (.int (0 : Int32)), .val (.int (0 : Int32)), .val (.int va), .val (.int (0 : Int32))] [(.int (1 : Int32))]) (fun tq kq => XS.iload X165.here hx rfl (hb hby at_353) rfl (XS.icmpNo X165.here hx rfl (hb hby at_355) rfl (teq (by decide : (0 : Int32) = (0 : Int32))).2 (XS.iconst X165.here hx rfl (hb hby at_358) (XS.goto X165.here hx rfl (pc0 := 359) (pc' := 363) rfl (hb hby at_359) (by decide) (by decide) kq)))) ?_
        exact own_retZW X165 hS (by rw [e165]; exact hk) hx hret hlk (hb hby at_363) (by decide) (by decide) (Or.inr rfl) ⟨rfl, N165⟩
      · skip
        rw [hmd]
        refine own_toW T138 (mkF m 301 #[.val (.int i0), .val (.int i1), .val (.int i2), .val (.int i3), .val (.int i4), .val (.int (2 : Int32)), .val (.int va), .val (.int vb), .val (.int vc), .val (.ref b103), .val (.ref b114), .val (.ref b122), .val (.int (0 : Int32)), .unset, .val (.int (1 : Int32)), .val (.int vb), .unset] [(.int va)]) (fun tq kq => XS.istore X138.here hx rfl (hb hby at_272) rfl (l' := #[.val (.int i0), .val (.int i1), .val (.int i2), .val (.int i3), .val (.int i4), .val (.int (2 : Int32)), .val (.int va), .val (.int vb), .val (.int vc), .val (.ref b103), .val (.ref b114), .val (.ref b122), .val (.int (0 : Int32)), .unset, .val (.int (1 : Int32)), .unset, .unset]) rfl (XS.iload X138.here hx rfl (hb hby at_274) rfl (XS.ifYes X138.here hx rfl (pc0 := 276) (pc' := 284) rfl (hb hby at_276) rfl ((if0 _ _).trans (feq (by decide : ¬ ((1 : Int32) = (0 : Int32)))).2) (by decide) (by decide) (XS.iload X138.here hx rfl (hb hby at_284) rfl (XS.iconst X138.here hx rfl (hb hby at_286) (XS.icmpNo X138.here hx rfl (hb hby at_287) rfl (teq (by decide : (1 : Int32) = (1 : Int32))).2 (XS.iload X138.here hx rfl (hb hby at_290) rfl (XS.goto X138.here hx rfl (pc0 := 292) (pc' := 297) rfl (hb hby at_292) (by decide) (by decide) (XS.istore X138.here hx rfl (hb hby at_297) rfl (l' := #[.val (.int i0), .val (.int i1), .val (.int i2), .val (.int i3), .val (.int i4), .val (.int (2 : Int32)), .val (.int va), .val (.int vb), .val (.int vc), .val (.ref b103), .val (.ref b114), .val (.ref b122), .val (.int (0 : Int32)), .unset, .val (.int (1 : Int32)), .val (.int vb), .unset]) rfl (XS.iload X138.here hx rfl (hb hby at_299) rfl kq)))))))))) ?_
        refine own_toW T138 (mkF m 303 #[.val (.int i0), .val (.int i1), .val (.int i2), .val (.int i3), .val (.int i4), .val (.int (2 : Int32)), .val (.int va), .val (.int vb), .val (.int vc), .val (.ref b103), .val (.ref b114), .val (.ref b122), .val (.int (0 : Int32)), .unset, .val (.int (1 : Int32)), .val (.int vb), .unset] [(.int vb), (.int va)]) (fun tq kq => XS.iload X138.here hx rfl (hb hby at_301) rfl kq) ?_
        by_cases c303 : va = vb
        · skip
          refine own_toW T138 (mkF m 328 #[.val (.int i0), .val (.int i1), .val (.int i2), .val (.int i3), .val (.int i4), .val (.int (2 : Int32)), .val (.int va), .val (.int vb), .val (.int vc), .val (.ref b103), .val (.ref b114), .val (.ref b122), .val (.int (0 : Int32)), .unset, .val (.int (1 : Int32)), .val (.int vb), .val (.int (0 : Int32))] [(.int vb), (.ref b122)]) (fun tq kq => XS.icmpNo X138.here hx rfl (hb hby at_303) rfl (teq c303).2 (XS.iconst X138.here hx rfl (hb hby at_306) (XS.goto X138.here hx rfl (pc0 := 307) (pc' := 322) rfl (hb hby at_307) (by decide) (by decide) (XS.istore X138.here hx rfl (hb hby at_322) rfl (l' := #[.val (.int i0), .val (.int i1), .val (.int i2), .val (.int i3), .val (.int i4), .val (.int (2 : Int32)), .val (.int va), .val (.int vb), .val (.int vc), .val (.ref b103), .val (.ref b114), .val (.ref b122), .val (.int (0 : Int32)), .unset, .val (.int (1 : Int32)), .val (.int vb), .val (.int (0 : Int32))]) rfl (XS.aload X138.here hx rfl (hb hby at_324) rfl rfl (XS.iload X138.here hx rfl (hb hby at_326) rfl kq)))))) ?_
          obtain ⟨cq166, kq166, q166a, q166b, q166c⟩ := isOf hZ e138 E129q
          obtain ⟨_, _, ⟨T166, L166, k166, n166⟩, -, X166, hS166, hgr166, ⟨Lc166, hQ166, l166, y166, z166⟩, st166⟩ := X138.virtualBackS hx (y := (⟨"com/example/wayline/wayline/HeaderReader", "textBefore", "(C)Ljava/lang/String;"⟩ : MethodName)) (z := (⟨"com/example/wayline/wayline/HeaderReader", "textBefore", "(C)Ljava/lang/String;"⟩ : MethodName)) hown (mvT hZ (own_w hw 70 rfl)) (mvT hZ (own_w hw 71 rfl)) (notFace_of_selects (args := #[]) (mvT hZ (own_w hw 73 rfl))) (mvT hZ (own_w hw 73 rfl)) (mvT hZ (own_w hw 72 rfl)) (by decide) (backOfS (W := 0) (rmTB l Z a0 hw [] b122 b114 t118 0 0 2 (own_bl ([va, vb] : List Int32)) vb G1 vF T129.heap n0 Zs129 f130 hG f131 hvF E129q V129q P129q f132 f133 f134 f135 (fun i hi => by have h3 : i = 0 ∨ i = 1 := (by omega); rcases h3 with rfl | rfl <;> exact own_fitb _) hcvb.1 hcvb.2 (by omega) (by omega) (by omega) (congrArg (fun z : Int32 => z.toInt8.toInt32) c303) (fun i h1 h2 => absurd h2 (by omega)) sz122) hZ (own_w hw 74 rfl) (own_w hw 28 rfl) (by decide) (by decide)) q166a q166c (g := (mkF m 328 #[.val (.int i0), .val (.int i1), .val (.int i2), .val (.int i3), .val (.int i4), .val (.int (2 : Int32)), .val (.int va), .val (.int vb), .val (.int vc), .val (.ref b103), .val (.ref b114), .val (.ref b122), .val (.int (0 : Int32)), .unset, .val (.int (1 : Int32)), .val (.int vb), .val (.int (0 : Int32))] [(.int vb), (.ref b122)])) rfl (by rw [hml]; rfl) (Steps.refl _) (argsL := [(.int vb)]) (rest := []) (lenOf pd_11 rfl) rfl (by show 2 * 0 + _ ≤ _; exact Nat.le_of_eq rfl) (hb hby at_328) (fun _ _ => ⟨rfl, e138, (by decide : 4 + 2 ≤ _), (by decide : 10 + 8 ≤ _)⟩)
          dsimp only [Pt.U, Pt.locs, Pt.cells, Pt.slots] at X166 l166 y166 z166 st166 hQ166
          have l166y := l166.symm
          clear l166
          subst l166y
          obtain rfl : k166 = 6 := y166
          obtain rfl : n166 = 18 := z166
          dsimp only [Pt.U, Pt.locs, Pt.cells, Pt.slots] at hS166 hgr166
          obtain ⟨X166, hS, hZ, hown⟩ := rebS hS hk X166 hS166 (by rw [← e138]; exact hgr166) hZ hown
          have hk := Nat.le_refl T166.heap.size
          obtain ⟨b166, rfl, N166q, K166q, E166q, V166q, P166q⟩ := hQ166
          have N166 := Fr.app N138 N166q
          have f167 := own_staX f130 K166q E129q
          have f168 := own_staX f131 K166q E129q
          have f169 := f132.keep K166q
          have f170 := f133.keep K166q (ninS ne_b114_b122 nin0)
          have f171 := f134.keep K166q (ninS ne_b114_b122 nin0)
          have f172 := f135.keep K166q (ninS ne_t118_b122 nin0)
          have f173 := E129q.keep K166q
          have Zs166 : n0 ≤ T166.heap.size := Nat.le_trans Zs129 K166q.1
          refine own_toW T166 (mkF m 336 #[.val (.int i0), .val (.int i1), .val (.int i2), .val (.int i3), .val (.int i4), .val (.int (2 : Int32)), .val (.int va), .val (.int vb), .val (.int vc), .val (.ref b103), .val (.ref b114), .val (.ref b122), .val (.int (0 : Int32)), .unset, .val (.int (1 : Int32)), .val (.int vb), .val (.int (0 : Int32))] [(.int ((0 : Int32) + (1 : Int32)))]) (fun tq kq => st166.trans (XS.pop X166.here hx rfl (hb hby at_331) rfl rfl (XS.iload X166.here hx rfl (hb hby at_332) rfl (XS.iconst X166.here hx rfl (hb hby at_334) (XS.iadd X166.here hx rfl (hb hby at_335) rfl kq))))) ?_
          rw [show ((0 : Int32) + (1 : Int32)) = (1 : Int32) from by decide]
          refine own_toW T166 (mkF m 350 #[.val (.int i0), .val (.int i1), .val (.int i2), .val (.int i3), .val (.int i4), .val (.int (2 : Int32)), .val (.int va), .val (.int vb), .val (.int vc), .val (.ref b103), .val (.ref b114), .val (.ref b122), .val (.int (0 : Int32)), .val (.int (0 : Int32)), .val (.int (1 : Int32)), .val (.int vb), .val (.int (0 : Int32))] [(.ref b122)]) (fun tq kq => XS.iload X166.here hx rfl (hb hby at_336) rfl (XS.icmpYes X166.here hx rfl (pc0 := 338) (pc' := 345) rfl (hb hby at_338) rfl (tlt (by decide : (1 : Int32) < (2 : Int32))).1 (by decide) (by decide) (XS.iconst X166.here hx rfl (hb hby at_345) (XS.istore X166.here hx rfl (hb hby at_346) rfl (l' := #[.val (.int i0), .val (.int i1), .val (.int i2), .val (.int i3), .val (.int i4), .val (.int (2 : Int32)), .val (.int va), .val (.int vb), .val (.int vc), .val (.ref b103), .val (.ref b114), .val (.ref b122), .val (.int (0 : Int32)), .val (.int (0 : Int32)), .val (.int (1 : Int32)), .val (.int vb), .val (.int (0 : Int32))]) rfl (XS.aload X166.here hx rfl (hb hby at_348) rfl rfl kq))))) ?_
          obtain ⟨cq174, kq174, q174a, q174b, q174c⟩ := isOf hZ rfl E166q
          obtain ⟨_, _, ⟨T174, L174, k174, n174⟩, -, X174, ⟨Lc174, hQ174, l174, y174, z174⟩, st174⟩ := X166.virtualBack hx (y := (⟨"com/example/wayline/wayline/HeaderReader", "atEnd", "()Z"⟩ : MethodName)) (z := (⟨"com/example/wayline/wayline/HeaderReader", "atEnd", "()Z"⟩ : MethodName)) hown (mvT hZ (own_w hw 35 rfl)) (mvT hZ (own_w hw 36 rfl)) (notFace_of_selects (args := #[]) (mvT hZ (own_w hw 38 rfl))) (mvT hZ (own_w hw 38 rfl)) (mvT hZ (own_w hw 37 rfl)) (by decide) (backOf (W := 0) (rmEnd l Z a0 hw [] b122 b114 t118 (0 + 1) 2 (own_bl ([va, vb] : List Int32)) G1 T166.heap n0 Zs166 f167 hG V166q P166q f169 f170 f171 f172 (by omega) (by omega)) hZ (own_w hw 39 rfl) (own_w hw 28 rfl) (by decide) (by decide)) q174a q174c (g := (mkF m 350 #[.val (.int i0), .val (.int i1), .val (.int i2), .val (.int i3), .val (.int i4), .val (.int (2 : Int32)), .val (.int va), .val (.int vb), .val (.int vc), .val (.ref b103), .val (.ref b114), .val (.ref b122), .val (.int (0 : Int32)), .val (.int (0 : Int32)), .val (.int (1 : Int32)), .val (.int vb), .val (.int (0 : Int32))] [(.ref b122)])) rfl (by rw [hml]; rfl) (Steps.refl _) (argsL := []) (rest := []) (lenOf pd_5 rfl) rfl (by show 2 * 0 + _ ≤ _; exact Nat.le_of_eq rfl) (hb hby at_350) (fun _ _ => ⟨rfl, rfl, (by decide : 6 + 0 ≤ _), (by decide : 18 + 0 ≤ _)⟩)
          dsimp only [Pt.U, Pt.locs, Pt.cells, Pt.slots] at X174 l174 y174 z174 st174 hQ174
          have l174y := l174.symm
          clear l174
          subst l174y
          obtain rfl : k174 = 6 := y174
          obtain rfl : n174 = 18 := z174
          obtain ⟨rfl, N174q, e174⟩ := hQ174
          have N174 := Fr.app N166 N174q
          refine own_toW T174 (mkF m 353 #[.val (.int i0), .val (.int i1), .val (.int i2), .val (.int i3), .val (.int i4), .val (.int (2 : Int32)), .val (.int va), .val (.int vb), .val (.int vc), .val (.ref b103), .val (.ref b114), .val (.ref b122), .val (.int (0 : Int32)), .val (.int (0 : Int32)), .val (.int (1 : Int32)), .val (.int vb), .val (.int (0 : Int32))] [(.int (own_end (0 + 1) 2))]) (fun tq kq => st174.trans kq) ?_
          rw [show (own_end (0 + 1) 2) = (0 : Int32) from if_pos (by omega)]
          refine own_toW T174 (mkF m 363 #[.val (.int i0), .val (.int i1), .val (.int i2), .val (.int i3), .val (.int i4), .val (.int (2 : Int32)), .val (.int va), .val (.int vb), .val (.int vc), .val (.ref b103), .val (.ref b114), .val (.ref b122), .val (.int (0 : Int32)), .val (.int (0 : Int32)), .val (.int (1 : Int32)), .val (.int vb), .val (.int (0 : Int32))] [(.int (1 : Int32))]) (fun tq kq => XS.iload X174.here hx rfl (hb hby at_353) rfl (XS.icmpNo X174.here hx rfl (hb hby at_355) rfl (teq (by decide : (0 : Int32) = (0 : Int32))).2 (XS.iconst X174.here hx rfl (hb hby at_358) (XS.goto X174.here hx rfl (pc0 := 359) (pc' := 363) rfl (hb hby at_359) (by decide) (by decide) kq)))) ?_
          exact own_retZW X174 hS (by rw [e174]; exact hk) hx hret hlk (hb hby at_363) (by decide) (by decide) (Or.inr rfl) ⟨rfl, N174⟩
        · skip
          refine own_toW T138 (mkF m 328 #[.val (.int i0), .val (.int i1), .val (.int i2), .val (.int i3), .val (.int i4), .val (.int (2 : Int32)), .val (.int va), .val (.int vb), .val (.int vc), .val (.ref b103), .val (.ref b114), .val (.ref b122), .val (.int (0 : Int32)), .unset, .val (.int (1 : Int32)), .val (.int vb), .val (.int (1 : Int32))] [(.int vb), (.ref b122)]) (fun tq kq => XS.icmpYes X138.here hx rfl (pc0 := 303) (pc' := 310) rfl (hb hby at_303) rfl (feq c303).2 (by decide) (by decide) (XS.iload X138.here hx rfl (hb hby at_310) rfl (XS.iload X138.here hx rfl (hb hby at_312) rfl (XS.icmpNo X138.here hx rfl (hb hby at_314) rfl (teq (rfl : vb = vb)).2 (XS.iconst X138.here hx rfl (hb hby at_317) (XS.goto X138.here hx rfl (pc0 := 318) (pc' := 322) rfl (hb hby at_318) (by decide) (by decide) (XS.istore X138.here hx rfl (hb hby at_322) rfl (l' := #[.val (.int i0), .val (.int i1), .val (.int i2), .val (.int i3), .val (.int i4), .val (.int (2 : Int32)), .val (.int va), .val (.int vb), .val (.int vc), .val (.ref b103), .val (.ref b114), .val (.ref b122), .val (.int (0 : Int32)), .unset, .val (.int (1 : Int32)), .val (.int vb), .val (.int (1 : Int32))]) rfl (XS.aload X138.here hx rfl (hb hby at_324) rfl rfl (XS.iload X138.here hx rfl (hb hby at_326) rfl kq))))))))) ?_
          obtain ⟨cq175, kq175, q175a, q175b, q175c⟩ := isOf hZ e138 E129q
          obtain ⟨_, _, ⟨T175, L175, k175, n175⟩, -, X175, hS175, hgr175, ⟨Lc175, hQ175, l175, y175, z175⟩, st175⟩ := X138.virtualBackS hx (y := (⟨"com/example/wayline/wayline/HeaderReader", "textBefore", "(C)Ljava/lang/String;"⟩ : MethodName)) (z := (⟨"com/example/wayline/wayline/HeaderReader", "textBefore", "(C)Ljava/lang/String;"⟩ : MethodName)) hown (mvT hZ (own_w hw 70 rfl)) (mvT hZ (own_w hw 71 rfl)) (notFace_of_selects (args := #[]) (mvT hZ (own_w hw 73 rfl))) (mvT hZ (own_w hw 73 rfl)) (mvT hZ (own_w hw 72 rfl)) (by decide) (backOfS (W := 0) (rmTB l Z a0 hw [] b122 b114 t118 0 1 2 (own_bl ([va, vb] : List Int32)) vb G1 vF T129.heap n0 Zs129 f130 hG f131 hvF E129q V129q P129q f132 f133 f134 f135 (fun i hi => by have h3 : i = 0 ∨ i = 1 := (by omega); rcases h3 with rfl | rfl <;> exact own_fitb _) hcvb.1 hcvb.2 (by omega) (by omega) (by omega) rfl (fun i h1 h2 => by have h3 : i = 0 := (by omega); rcases h3 with rfl; exact fun z => c303 (own_b8 hcva hcvb z)) sz122) hZ (own_w hw 74 rfl) (own_w hw 28 rfl) (by decide) (by decide)) q175a q175c (g := (mkF m 328 #[.val (.int i0), .val (.int i1), .val (.int i2), .val (.int i3), .val (.int i4), .val (.int (2 : Int32)), .val (.int va), .val (.int vb), .val (.int vc), .val (.ref b103), .val (.ref b114), .val (.ref b122), .val (.int (0 : Int32)), .unset, .val (.int (1 : Int32)), .val (.int vb), .val (.int (1 : Int32))] [(.int vb), (.ref b122)])) rfl (by rw [hml]; rfl) (Steps.refl _) (argsL := [(.int vb)]) (rest := []) (lenOf pd_11 rfl) rfl (by show 2 * 0 + _ ≤ _; exact Nat.le_of_eq rfl) (hb hby at_328) (fun _ _ => ⟨rfl, e138, (by decide : 4 + 2 ≤ _), (by decide : 10 + 8 ≤ _)⟩)
          dsimp only [Pt.U, Pt.locs, Pt.cells, Pt.slots] at X175 l175 y175 z175 st175 hQ175
          have l175y := l175.symm
          clear l175
          subst l175y
          obtain rfl : k175 = 6 := y175
          obtain rfl : n175 = 18 := z175
          dsimp only [Pt.U, Pt.locs, Pt.cells, Pt.slots] at hS175 hgr175
          obtain ⟨X175, hS, hZ, hown⟩ := rebS hS hk X175 hS175 (by rw [← e138]; exact hgr175) hZ hown
          have hk := Nat.le_refl T175.heap.size
          obtain ⟨b175, rfl, N175q, K175q, E175q, V175q, P175q⟩ := hQ175
          have N175 := Fr.app N138 N175q
          have f176 := own_staX f130 K175q E129q
          have f177 := own_staX f131 K175q E129q
          have f178 := f132.keep K175q
          have f179 := f133.keep K175q (ninS ne_b114_b122 nin0)
          have f180 := f134.keep K175q (ninS ne_b114_b122 nin0)
          have f181 := f135.keep K175q (ninS ne_t118_b122 nin0)
          have f182 := E129q.keep K175q
          have Zs175 : n0 ≤ T175.heap.size := Nat.le_trans Zs129 K175q.1
          refine own_toW T175 (mkF m 336 #[.val (.int i0), .val (.int i1), .val (.int i2), .val (.int i3), .val (.int i4), .val (.int (2 : Int32)), .val (.int va), .val (.int vb), .val (.int vc), .val (.ref b103), .val (.ref b114), .val (.ref b122), .val (.int (0 : Int32)), .unset, .val (.int (1 : Int32)), .val (.int vb), .val (.int (1 : Int32))] [(.int ((1 : Int32) + (1 : Int32)))]) (fun tq kq => st175.trans (XS.pop X175.here hx rfl (hb hby at_331) rfl rfl (XS.iload X175.here hx rfl (hb hby at_332) rfl (XS.iconst X175.here hx rfl (hb hby at_334) (XS.iadd X175.here hx rfl (hb hby at_335) rfl kq))))) ?_
          rw [show ((1 : Int32) + (1 : Int32)) = (2 : Int32) from by decide]
          refine own_toW T175 (mkF m 350 #[.val (.int i0), .val (.int i1), .val (.int i2), .val (.int i3), .val (.int i4), .val (.int (2 : Int32)), .val (.int va), .val (.int vb), .val (.int vc), .val (.ref b103), .val (.ref b114), .val (.ref b122), .val (.int (0 : Int32)), .val (.int (1 : Int32)), .val (.int (1 : Int32)), .val (.int vb), .val (.int (1 : Int32))] [(.ref b122)]) (fun tq kq => XS.iload X175.here hx rfl (hb hby at_336) rfl (XS.icmpNo X175.here hx rfl (hb hby at_338) rfl (flt (by decide : ¬ ((2 : Int32) < (2 : Int32)))).1 (XS.iconst X175.here hx rfl (hb hby at_341) (XS.goto X175.here hx rfl (pc0 := 342) (pc' := 346) rfl (hb hby at_342) (by decide) (by decide) (XS.istore X175.here hx rfl (hb hby at_346) rfl (l' := #[.val (.int i0), .val (.int i1), .val (.int i2), .val (.int i3), .val (.int i4), .val (.int (2 : Int32)), .val (.int va), .val (.int vb), .val (.int vc), .val (.ref b103), .val (.ref b114), .val (.ref b122), .val (.int (0 : Int32)), .val (.int (1 : Int32)), .val (.int (1 : Int32)), .val (.int vb), .val (.int (1 : Int32))]) rfl (XS.aload X175.here hx rfl (hb hby at_348) rfl rfl kq)))))) ?_
          obtain ⟨cq183, kq183, q183a, q183b, q183c⟩ := isOf hZ rfl E175q
          obtain ⟨_, _, ⟨T183, L183, k183, n183⟩, -, X183, ⟨Lc183, hQ183, l183, y183, z183⟩, st183⟩ := X175.virtualBack hx (y := (⟨"com/example/wayline/wayline/HeaderReader", "atEnd", "()Z"⟩ : MethodName)) (z := (⟨"com/example/wayline/wayline/HeaderReader", "atEnd", "()Z"⟩ : MethodName)) hown (mvT hZ (own_w hw 35 rfl)) (mvT hZ (own_w hw 36 rfl)) (notFace_of_selects (args := #[]) (mvT hZ (own_w hw 38 rfl))) (mvT hZ (own_w hw 38 rfl)) (mvT hZ (own_w hw 37 rfl)) (by decide) (backOf (W := 0) (rmEnd l Z a0 hw [] b122 b114 t118 (1 + 1) 2 (own_bl ([va, vb] : List Int32)) G1 T175.heap n0 Zs175 f176 hG V175q P175q f178 f179 f180 f181 (by omega) (by omega)) hZ (own_w hw 39 rfl) (own_w hw 28 rfl) (by decide) (by decide)) q183a q183c (g := (mkF m 350 #[.val (.int i0), .val (.int i1), .val (.int i2), .val (.int i3), .val (.int i4), .val (.int (2 : Int32)), .val (.int va), .val (.int vb), .val (.int vc), .val (.ref b103), .val (.ref b114), .val (.ref b122), .val (.int (0 : Int32)), .val (.int (1 : Int32)), .val (.int (1 : Int32)), .val (.int vb), .val (.int (1 : Int32))] [(.ref b122)])) rfl (by rw [hml]; rfl) (Steps.refl _) (argsL := []) (rest := []) (lenOf pd_5 rfl) rfl (by show 2 * 0 + _ ≤ _; exact Nat.le_of_eq rfl) (hb hby at_350) (fun _ _ => ⟨rfl, rfl, (by decide : 6 + 0 ≤ _), (by decide : 18 + 0 ≤ _)⟩)
          dsimp only [Pt.U, Pt.locs, Pt.cells, Pt.slots] at X183 l183 y183 z183 st183 hQ183
          have l183y := l183.symm
          clear l183
          subst l183y
          obtain rfl : k183 = 6 := y183
          obtain rfl : n183 = 18 := z183
          obtain ⟨rfl, N183q, e183⟩ := hQ183
          have N183 := Fr.app N175 N183q
          refine own_toW T183 (mkF m 353 #[.val (.int i0), .val (.int i1), .val (.int i2), .val (.int i3), .val (.int i4), .val (.int (2 : Int32)), .val (.int va), .val (.int vb), .val (.int vc), .val (.ref b103), .val (.ref b114), .val (.ref b122), .val (.int (0 : Int32)), .val (.int (1 : Int32)), .val (.int (1 : Int32)), .val (.int vb), .val (.int (1 : Int32))] [(.int (own_end (1 + 1) 2))]) (fun tq kq => st183.trans kq) ?_
          rw [show (own_end (1 + 1) 2) = (1 : Int32) from if_neg (by omega)]
          refine own_toW T183 (mkF m 363 #[.val (.int i0), .val (.int i1), .val (.int i2), .val (.int i3), .val (.int i4), .val (.int (2 : Int32)), .val (.int va), .val (.int vb), .val (.int vc), .val (.ref b103), .val (.ref b114), .val (.ref b122), .val (.int (0 : Int32)), .val (.int (1 : Int32)), .val (.int (1 : Int32)), .val (.int vb), .val (.int (1 : Int32))] [(.int (1 : Int32))]) (fun tq kq => XS.iload X183.here hx rfl (hb hby at_353) rfl (XS.icmpNo X183.here hx rfl (hb hby at_355) rfl (teq (by decide : (1 : Int32) = (1 : Int32))).2 (XS.iconst X183.here hx rfl (hb hby at_358) (XS.goto X183.here hx rfl (pc0 := 359) (pc' := 363) rfl (hb hby at_359) (by decide) (by decide) kq)))) ?_
          exact own_retZW X183 hS (by rw [e183]; exact hk) hx hret hlk (hb hby at_363) (by decide) (by decide) (Or.inr rfl) ⟨rfl, N183⟩
  · skip
    rw [show Int32.ofNat 3 = (3 : Int32) from rfl]
    refine own_toW T3 (mkF m 80 #[.val (.int i0), .val (.int i1), .val (.int i2), .val (.int i3), .val (.int i4), .val (.int (3 : Int32)), .val (.int va), .val (.int vb), .val (.int vc), .unset, .unset, .unset, .unset, .unset, .unset, .unset, .unset] [(.int (3 : Int32))]) (fun tq kq => XS.iload X3.here hx rfl (hb hby at_23) rfl (XS.ifYes X3.here hx rfl (pc0 := 25) (pc' := 36) rfl (hb hby at_25) rfl ((if0 _ _).trans (feq (by decide : ¬ ((3 : Int32) = (0 : Int32)))).2) (by decide) (by decide) (XS.iload X3.here hx rfl (hb hby at_36) rfl (XS.iconst X3.here hx rfl (hb hby at_38) (XS.icmpYes X3.here hx rfl (pc0 := 39) (pc' := 55) rfl (hb hby at_39) rfl (feq (by decide : ¬ ((3 : Int32) = (1 : Int32)))).2 (by decide) (by decide) (XS.iload X3.here hx rfl (hb hby at_55) rfl (XS.iconst X3.here hx rfl (hb hby at_57) (XS.icmpYes X3.here hx rfl (pc0 := 58) (pc' := 79) rfl (hb hby at_58) rfl (feq (by decide : ¬ ((3 : Int32) = (2 : Int32)))).2 (by decide) (by decide) (XS.iconst X3.here hx rfl (hb hby at_79) kq))))))))) ?_
    obtain ⟨T184, h184, k184, X184, e184, E184, A184, st184⟩ := newP X3 hx hZ (own_w hw 4 rfl) e3 (g := (mkF m 80 #[.val (.int i0), .val (.int i1), .val (.int i2), .val (.int i3), .val (.int i4), .val (.int (3 : Int32)), .val (.int va), .val (.int vb), .val (.int vc), .unset, .unset, .unset, .unset, .unset, .unset, .unset, .unset] [(.int (3 : Int32))])) rfl (hb hby at_80) rfl (by decide) (cap := 3) (by decide) (by decide) (by decide) (by decide)
    obtain ⟨b184, g184⟩ : ∃ z, z = h0.size := ⟨_, rfl⟩
    rw [← g184] at A184 st184
    have f185 := O2.ext E184
    have f186 := O4.ext E184
    have sz184 : n0 ≤ b184 := Nat.le_trans Z0 (Nat.le_of_eq g184.symm)
    have Zs184 : n0 ≤ h184.size := Nat.le_trans Z0 E184.1
    have hk := Nat.le_trans hk E184.1
    have V184 : Arv Z h184 b184 k184 .char (3 : Int32) [] (.int (0 : Int32)) := Arv.new A184 (by decide)
    refine own_toW T184 (mkF m 86 #[.val (.int i0), .val (.int i1), .val (.int i2), .val (.int i3), .val (.int i4), .val (.int (3 : Int32)), .val (.int va), .val (.int vb), .val (.int vc), .unset, .unset, .unset, .unset, .unset, .unset, .unset, .unset] [(.int va), (.int (0 : Int32)), (.ref b184), (.ref b184)]) (fun tq kq => st184 _ (XS.dup X184.here hx rfl (hb hby at_82) rfl rfl (XS.iconst X184.here hx rfl (hb hby at_83) (XS.iload X184.here hx rfl (hb hby at_84) rfl kq)))) ?_
    have Po188 := V184.pad (pad_rep [] (.int (0 : Int32)) 1)
    obtain ⟨co188, Aro188, qo188, So188, Mo188, Ho188, Uo188⟩ := Po188
    obtain ⟨T187, h187, X187, e187, W187, st187⟩ := stC X184 hx hZ e184 Aro188 (j := (0 : Int32)) (inb_of So188 ⟨by decide, by decide⟩) (g := (mkF m 86 #[.val (.int i0), .val (.int i1), .val (.int i2), .val (.int i3), .val (.int i4), .val (.int (3 : Int32)), .val (.int va), .val (.int vb), .val (.int vc), .unset, .unset, .unset, .unset, .unset, .unset, .unset, .unset] [(.int va), (.int (0 : Int32)), (.ref b184), (.ref b184)])) rfl rfl (hb hby at_86)
    have f189 := f185.wr W187
    have f190 := f186.wr W187
    have N187 := Fr.snoc X187 N3 sz184
    have Zs187 : n0 ≤ h187.size := by rw [W187.size]; exact Zs184
    have hk := Nat.le_trans hk (Nat.le_of_eq W187.size.symm)
    have V187 := Arv.set Aro188 qo188 So188 Mo188 Ho188 Uo188 (fits_nar_char _) W187 0 rfl (Nat.le_of_ble_eq_true rfl)
    rw [own_nar hcva] at V187
    have V187 : Arv Z h187 b184 k184 .char (3 : Int32) [(.int va)] (.int (0 : Int32)) := V187
    refine own_toW T187 (mkF m 91 #[.val (.int i0), .val (.int i1), .val (.int i2), .val (.int i3), .val (.int i4), .val (.int (3 : Int32)), .val (.int va), .val (.int vb), .val (.int vc), .unset, .unset, .unset, .unset, .unset, .unset, .unset, .unset] [(.int vb), (.int (1 : Int32)), (.ref b184), (.ref b184)]) (fun tq kq => st187 _ (XS.dup X187.here hx rfl (hb hby at_87) rfl rfl (XS.iconst X187.here hx rfl (hb hby at_88) (XS.iload X187.here hx rfl (hb hby at_89) rfl kq)))) ?_
    have Po192 := V187.pad (pad_rep [(.int va)] (.int (0 : Int32)) 1)
    obtain ⟨co192, Aro192, qo192, So192, Mo192, Ho192, Uo192⟩ := Po192
    obtain ⟨T191, h191, X191, e191, W191, st191⟩ := stC X187 hx hZ e187 Aro192 (j := (1 : Int32)) (inb_of So192 ⟨by decide, by decide⟩) (g := (mkF m 91 #[.val (.int i0), .val (.int i1), .val (.int i2), .val (.int i3), .val (.int i4), .val (.int (3 : Int32)), .val (.int va), .val (.int vb), .val (.int vc), .unset, .unset, .unset, .unset, .unset, .unset, .unset, .unset] [(.int vb), (.int (1 : Int32)), (.ref b184), (.ref b184)])) rfl rfl (hb hby at_91)
    have f193 := f189.wr W191
    have f194 := f190.wr W191
    have N191 := Fr.snoc X191 N187 sz184
    have Zs191 : n0 ≤ h191.size := by rw [W191.size]; exact Zs187
    have hk := Nat.le_trans hk (Nat.le_of_eq W191.size.symm)
    have V191 := Arv.set Aro192 qo192 So192 Mo192 Ho192 Uo192 (fits_nar_char _) W191 1 rfl (Nat.le_of_ble_eq_true rfl)
    rw [own_nar hcvb] at V191
    have V191 : Arv Z h191 b184 k184 .char (3 : Int32) [(.int va), (.int vb)] (.int (0 : Int32)) := V191
    refine own_toW T191 (mkF m 96 #[.val (.int i0), .val (.int i1), .val (.int i2), .val (.int i3), .val (.int i4), .val (.int (3 : Int32)), .val (.int va), .val (.int vb), .val (.int vc), .unset, .unset, .unset, .unset, .unset, .unset, .unset, .unset] [(.int vc), (.int (2 : Int32)), (.ref b184), (.ref b184)]) (fun tq kq => st191 _ (XS.dup X191.here hx rfl (hb hby at_92) rfl rfl (XS.iconst X191.here hx rfl (hb hby at_93) (XS.iload X191.here hx rfl (hb hby at_94) rfl kq)))) ?_
    have Po196 := V191.pad (pad_rep [(.int va), (.int vb)] (.int (0 : Int32)) 1)
    obtain ⟨co196, Aro196, qo196, So196, Mo196, Ho196, Uo196⟩ := Po196
    obtain ⟨T195, h195, X195, e195, W195, st195⟩ := stC X191 hx hZ e191 Aro196 (j := (2 : Int32)) (inb_of So196 ⟨by decide, by decide⟩) (g := (mkF m 96 #[.val (.int i0), .val (.int i1), .val (.int i2), .val (.int i3), .val (.int i4), .val (.int (3 : Int32)), .val (.int va), .val (.int vb), .val (.int vc), .unset, .unset, .unset, .unset, .unset, .unset, .unset, .unset] [(.int vc), (.int (2 : Int32)), (.ref b184), (.ref b184)])) rfl rfl (hb hby at_96)
    have f197 := f193.wr W195
    have f198 := f194.wr W195
    have N195 := Fr.snoc X195 N191 sz184
    have Zs195 : n0 ≤ h195.size := by rw [W195.size]; exact Zs191
    have hk := Nat.le_trans hk (Nat.le_of_eq W195.size.symm)
    have V195 := Arv.set Aro196 qo196 So196 Mo196 Ho196 Uo196 (fits_nar_char _) W195 2 rfl (Nat.le_of_ble_eq_true rfl)
    rw [own_nar hcvc] at V195
    have V195 : Arv Z h195 b184 k184 .char (3 : Int32) [(.int va), (.int vb), (.int vc)] (.int (0 : Int32)) := V195
    refine own_toW T195 (mkF m 99 #[.val (.int i0), .val (.int i1), .val (.int i2), .val (.int i3), .val (.int i4), .val (.int (3 : Int32)), .val (.int va), .val (.int vb), .val (.int vc), .val (.ref b184), .unset, .unset, .unset, .unset, .unset, .unset, .unset] []) (fun tq kq => st195 _ (XS.astore X195.here hx rfl (hb hby at_97) rfl rfl (l' := #[.val (.int i0), .val (.int i1), .val (.int i2), .val (.int i3), .val (.int i4), .val (.int (3 : Int32)), .val (.int va), .val (.int vb), .val (.int vc), .val (.ref b184), .unset, .unset, .unset, .unset, .unset, .unset, .unset]) rfl kq)) ?_
    obtain ⟨T199, h199, X199, e199, E199, A199, D199, -, st199⟩ := newO X195 hx hZ hown (own_w hw 5 rfl) (own_w hw 6 rfl) (own_w hw 7 rfl) e195 (g := (mkF m 99 #[.val (.int i0), .val (.int i1), .val (.int i2), .val (.int i3), .val (.int i4), .val (.int (3 : Int32)), .val (.int va), .val (.int vb), .val (.int vc), .val (.ref b184), .unset, .unset, .unset, .unset, .unset, .unset, .unset] [])) rfl (hb hby at_99) (by decide) (by decide)
    obtain ⟨b199, g199⟩ : ∃ z, z = h195.size := ⟨_, rfl⟩
    rw [← g199] at A199 D199 st199
    have ne_b184_b199 : own_ne b184 b199 := Nat.ne_of_lt (Nat.lt_of_lt_of_le V195.lt (Nat.le_of_eq g199.symm))
    have f200 := f197.ext E199
    have f201 := f198.ext E199
    have f202 := V195.ext E199
    have sz199 : n0 ≤ b199 := Nat.le_trans Zs195 (Nat.le_of_eq g199.symm)
    have Zs199 : n0 ≤ h199.size := Nat.le_trans Zs195 E199.1
    have hk := Nat.le_trans hk E199.1
    have F199_value : Fld Z h199 b199 "java/lang/String" "value" "[B" .null := D199 (Or.inr (own_w hw 20 rfl)) (ty := (.array .byte)) (by decide)
    have F199_coder : Fld Z h199 b199 "java/lang/String" "coder" "B" (.int (0 : Int32)) := D199 (Or.inr (own_w hw 21 rfl)) (ty := .byte) (by decide)
    refine own_toW T199 (mkF m 105 #[.val (.int i0), .val (.int i1), .val (.int i2), .val (.int i3), .val (.int i4), .val (.int (3 : Int32)), .val (.int va), .val (.int vb), .val (.int vc), .val (.ref b184), .unset, .unset, .unset, .unset, .unset, .unset, .unset] [(.ref b184), (.ref b199), (.ref b199)]) (fun tq kq => st199 _ (XS.dup X199.here hx rfl (hb hby at_102) rfl rfl (XS.aload X199.here hx rfl (hb hby at_103) rfl rfl kq))) ?_
    have hws : ∀ d ∈ StrChars.Road.words, d.before a0 Z = true := fun d hd => hw d ((by decide +kernel : ∀ d ∈ StrChars.Road.words, d ∈ tables_1) d hd)
    have hpc : ∀ q ∈ ([va, vb, vc] : List Int32), ¬ q < 0 ∧ ¬ (255 : Int32) < q := by
      intro q hq
      simp only [List.mem_cons, List.not_mem_nil, or_false] at hq
      rcases hq with rfl | rfl | rfl
      · exact hcva
      · exact hcvb
      · exact hcvc
    obtain ⟨_, _, ⟨T203, L203, k203, n203⟩, -, X203, ⟨Lc203, hQ203, l203, y203, z203⟩, st203⟩ := X199.specialBack hx (y := (⟨"java/lang/String", "<init>", "([C)V"⟩ : MethodName)) rfl hown (mvT hZ (own_w hw 8 rfl)) (mvT hZ (own_w hw 9 rfl)) (mvT hZ (own_w hw 10 rfl)) (by decide) (StrChars.Road.backV (W := 1) hZ hws (kI := 4) (own_w hw 6 rfl) (cs := ([va, vb, vc] : List Int32)) (bs := (([va, vb, vc] : List Int32)).map (fun c => c.toInt8.toInt32)) (n := 3) sz199 Zs199 A199 F199_value F199_coder f202 f200 hG rfl rfl (by decide) (by decide) hpc rfl (by decide) (by decide)) (g := (mkF m 105 #[.val (.int i0), .val (.int i1), .val (.int i2), .val (.int i3), .val (.int i4), .val (.int (3 : Int32)), .val (.int va), .val (.int vb), .val (.int vc), .val (.ref b184), .unset, .unset, .unset, .unset, .unset, .unset, .unset] [(.ref b184), (.ref b199), (.ref b199)])) rfl (by rw [hml]; rfl) (Steps.refl _) (a := b199) (argsL := [(.ref b184)]) (rest := [(.ref b199)]) (lenOf pd_1 rfl) rfl (by show 2 * 0 + _ ≤ _; exact Nat.le_of_eq rfl) (hb hby at_105) (fun _ _ => ⟨rfl, e199, (by decide : 2 + 1 ≤ _), (by decide : 7 + 3 ≤ _)⟩)
    dsimp only [Pt.U, Pt.locs, Pt.cells, Pt.slots] at X203 l203 y203 z203 st203 hQ203
    have l203y := l203.symm
    clear l203
    subst l203y
    obtain rfl : k203 = 3 := y203
    obtain rfl : n203 = 10 := z203
    obtain ⟨rfl, N203q, K203q, E203q, C203q, t203, kb203, gt203, ht203, ne203, V203q, A203q⟩ := hQ203
    have N203 := Fr.app N195 N203q
    have f204 := own_staX f200 K203q A199
    have f205 := own_staX f201 K203q A199
    have f206 := A199.keep K203q
    have Zs203 : n0 ≤ T203.heap.size := Nat.le_trans Zs199 K203q.1
    have hk := Nat.le_trans hk K203q.1
    have B203 : BArr Z T203.heap t203 3 (own_bl ([va, vb, vc] : List Int32)) := own_barr A203q rfl (by decide)
    refine own_toW T203 (mkF m 110 #[.val (.int i0), .val (.int i1), .val (.int i2), .val (.int i3), .val (.int i4), .val (.int (3 : Int32)), .val (.int va), .val (.int vb), .val (.int vc), .val (.ref b184), .val (.ref b199), .unset, .unset, .unset, .unset, .unset, .unset] []) (fun tq kq => st203.trans (XS.astore X203.here hx rfl (hb hby at_108) rfl rfl (l' := #[.val (.int i0), .val (.int i1), .val (.int i2), .val (.int i3), .val (.int i4), .val (.int (3 : Int32)), .val (.int va), .val (.int vb), .val (.int vc), .val (.ref b184), .val (.ref b199), .unset, .unset, .unset, .unset, .unset, .unset]) rfl kq)) ?_
    obtain ⟨T207, h207, X207, e207, E207, A207, D207, -, st207⟩ := newO X203 hx hZ hown (own_w hw 26 rfl) (own_w hw 27 rfl) (own_w hw 28 rfl) rfl (g := (mkF m 110 #[.val (.int i0), .val (.int i1), .val (.int i2), .val (.int i3), .val (.int i4), .val (.int (3 : Int32)), .val (.int va), .val (.int vb), .val (.int vc), .val (.ref b184), .val (.ref b199), .unset, .unset, .unset, .unset, .unset, .unset] [])) rfl (hb hby at_110) (by decide) (by decide)
    obtain ⟨b207, g207⟩ : ∃ z, z = T203.heap.size := ⟨_, rfl⟩
    rw [← g207] at A207 D207 st207
    have ne_b199_b207 : own_ne b199 b207 := Nat.ne_of_lt (Nat.lt_of_lt_of_le E203q.lt (Nat.le_of_eq g207.symm))
    have ne_t203_b207 : own_ne t203 b207 := Nat.ne_of_lt (Nat.lt_of_lt_of_le B203.lt (Nat.le_of_eq g207.symm))
    have f208 := f204.ext E207
    have f209 := f205.ext E207
    have f210 := E203q.ext E207
    have f211 := V203q.ext E207
    have f212 := C203q.ext E207
    have f213 := B203.ext E207
    have sz207 : n0 ≤ b207 := Nat.le_trans Zs203 (Nat.le_of_eq g207.symm)
    have Zs207 : n0 ≤ h207.size := Nat.le_trans Zs203 E207.1
    have hk := Nat.le_trans hk E207.1
    have F207_value : Fld Z h207 b207 "com/example/wayline/wayline/HeaderReader" "value" "Ljava/lang/String;" .null := D207 (Or.inr (own_w hw 34 rfl)) (ty := (.object "java/lang/String")) (by decide)
    have F207_position : Fld Z h207 b207 "com/example/wayline/wayline/HeaderReader" "position" "I" (.int (0 : Int32)) := D207 (Or.inl (own_w hw 41 rfl)) (ty := .int) (by decide)
    refine own_toW T207 (mkF m 116 #[.val (.int i0), .val (.int i1), .val (.int i2), .val (.int i3), .val (.int i4), .val (.int (3 : Int32)), .val (.int va), .val (.int vb), .val (.int vc), .val (.ref b184), .val (.ref b199), .unset, .unset, .unset, .unset, .unset, .unset] [(.ref b199), (.ref b207), (.ref b207)]) (fun tq kq => st207 _ (XS.dup X207.here hx rfl (hb hby at_113) rfl rfl (XS.aload X207.here hx rfl (hb hby at_114) rfl rfl kq))) ?_
    obtain ⟨_, _, ⟨T214, L214, k214, n214⟩, -, X214, ⟨Lc214, hQ214, l214, y214, z214⟩, st214⟩ := X207.specialBack hx (y := (⟨"com/example/wayline/wayline/HeaderReader", "<init>", "(Ljava/lang/String;)V"⟩ : MethodName)) rfl hown (mvT hZ (own_w hw 29 rfl)) (mvT hZ (own_w hw 30 rfl)) (mvT hZ (own_w hw 31 rfl)) (by decide) (backOf (W := 1) (rmHI l Z a0 hw [] b207 b199 h207 n0 Zs207 A207 F207_value F207_position sz207) hZ (own_w hw 31 rfl) (own_w hw 28 rfl) (by decide) (by decide)) (g := (mkF m 116 #[.val (.int i0), .val (.int i1), .val (.int i2), .val (.int i3), .val (.int i4), .val (.int (3 : Int32)), .val (.int va), .val (.int vb), .val (.int vc), .val (.ref b184), .val (.ref b199), .unset, .unset, .unset, .unset, .unset, .unset] [(.ref b199), (.ref b207), (.ref b207)])) rfl (by rw [hml]; rfl) (Steps.refl _) (a := b207) (argsL := [(.ref b199)]) (rest := [(.ref b207)]) (lenOf pd_4 rfl) rfl (by show 2 * 0 + _ ≤ _; exact Nat.le_of_eq rfl) (hb hby at_116) (fun _ _ => ⟨rfl, e207, (by decide : 4 + 0 ≤ _), (by decide : 12 + 0 ≤ _)⟩)
    dsimp only [Pt.U, Pt.locs, Pt.cells, Pt.slots] at X214 l214 y214 z214 st214 hQ214
    have l214y := l214.symm
    clear l214
    subst l214y
    obtain rfl : k214 = 4 := y214
    obtain rfl : n214 = 12 := z214
    obtain ⟨rfl, N214q, K214q, E214q, V214q, P214q⟩ := hQ214
    have N214 := Fr.app N203 N214q
    have f215 := own_staX f208 K214q A207
    have f216 := own_staX f209 K214q A207
    have f217 := f210.keep K214q
    have f218 := f211.keep K214q (ninS ne_b199_b207 nin0)
    have f219 := f212.keep K214q (ninS ne_b199_b207 nin0)
    have f220 := f213.keep K214q (ninS ne_t203_b207 nin0)
    have f221 := A207.keep K214q
    have Zs214 : n0 ≤ T214.heap.size := Nat.le_trans Zs207 K214q.1
    have hk := Nat.le_trans hk K214q.1
    refine own_toW T214 (mkF m 123 #[.val (.int i0), .val (.int i1), .val (.int i2), .val (.int i3), .val (.int i4), .val (.int (3 : Int32)), .val (.int va), .val (.int vb), .val (.int vc), .val (.ref b184), .val (.ref b199), .val (.ref b207), .unset, .unset, .unset, .unset, .unset] [(.ref b207)]) (fun tq kq => st214.trans (XS.astore X214.here hx rfl (hb hby at_119) rfl rfl (l' := #[.val (.int i0), .val (.int i1), .val (.int i2), .val (.int i3), .val (.int i4), .val (.int (3 : Int32)), .val (.int va), .val (.int vb), .val (.int vc), .val (.ref b184), .val (.ref b199), .val (.ref b207), .unset, .unset, .unset, .unset, .unset]) rfl (XS.aload X214.here hx rfl (hb hby at_121) rfl rfl kq))) ?_
    obtain ⟨cq222, kq222, q222a, q222b, q222c⟩ := isOf hZ rfl E214q
    obtain ⟨_, _, ⟨T222, L222, k222, n222⟩, -, X222, ⟨Lc222, hQ222, l222, y222, z222⟩, st222⟩ := X214.virtualBack hx (y := (⟨"com/example/wayline/wayline/HeaderReader", "atEnd", "()Z"⟩ : MethodName)) (z := (⟨"com/example/wayline/wayline/HeaderReader", "atEnd", "()Z"⟩ : MethodName)) hown (mvT hZ (own_w hw 35 rfl)) (mvT hZ (own_w hw 36 rfl)) (notFace_of_selects (args := #[]) (mvT hZ (own_w hw 38 rfl))) (mvT hZ (own_w hw 38 rfl)) (mvT hZ (own_w hw 37 rfl)) (by decide) (backOf (W := 0) (rmEnd l Z a0 hw [] b207 b199 t203 0 3 (own_bl ([va, vb, vc] : List Int32)) G1 T214.heap n0 Zs214 f215 hG V214q P214q f217 f218 f219 f220 (by omega) (by omega)) hZ (own_w hw 39 rfl) (own_w hw 28 rfl) (by decide) (by decide)) q222a q222c (g := (mkF m 123 #[.val (.int i0), .val (.int i1), .val (.int i2), .val (.int i3), .val (.int i4), .val (.int (3 : Int32)), .val (.int va), .val (.int vb), .val (.int vc), .val (.ref b184), .val (.ref b199), .val (.ref b207), .unset, .unset, .unset, .unset, .unset] [(.ref b207)])) rfl (by rw [hml]; rfl) (Steps.refl _) (argsL := []) (rest := []) (lenOf pd_5 rfl) rfl (by show 2 * 0 + _ ≤ _; exact Nat.le_of_eq rfl) (hb hby at_123) (fun _ _ => ⟨rfl, rfl, (by decide : 4 + 0 ≤ _), (by decide : 12 + 0 ≤ _)⟩)
    dsimp only [Pt.U, Pt.locs, Pt.cells, Pt.slots] at X222 l222 y222 z222 st222 hQ222
    have l222y := l222.symm
    clear l222
    subst l222y
    obtain rfl : k222 = 4 := y222
    obtain rfl : n222 = 12 := z222
    obtain ⟨rfl, N222q, e222⟩ := hQ222
    have N222 := Fr.app N214 N222q
    refine own_toW T222 (mkF m 126 #[.val (.int i0), .val (.int i1), .val (.int i2), .val (.int i3), .val (.int i4), .val (.int (3 : Int32)), .val (.int va), .val (.int vb), .val (.int vc), .val (.ref b184), .val (.ref b199), .val (.ref b207), .unset, .unset, .unset, .unset, .unset] [(.int (own_end 0 3))]) (fun tq kq => st222.trans kq) ?_
    rw [show (own_end 0 3) = (0 : Int32) from by decide]
    refine own_toW T222 (mkF m 147 #[.val (.int i0), .val (.int i1), .val (.int i2), .val (.int i3), .val (.int i4), .val (.int (3 : Int32)), .val (.int va), .val (.int vb), .val (.int vc), .val (.ref b184), .val (.ref b199), .val (.ref b207), .val (.int (0 : Int32)), .unset, .unset, .unset, .unset] [(.ref b207)]) (fun tq kq => XS.istore X222.here hx rfl (hb hby at_126) rfl (l' := #[.val (.int i0), .val (.int i1), .val (.int i2), .val (.int i3), .val (.int i4), .val (.int (3 : Int32)), .val (.int va), .val (.int vb), .val (.int vc), .val (.ref b184), .val (.ref b199), .val (.ref b207), .val (.int (0 : Int32)), .unset, .unset, .unset, .unset]) rfl (XS.iload X222.here hx rfl (hb hby at_128) rfl (XS.iload X222.here hx rfl (hb hby at_130) rfl (XS.ifYes X222.here hx rfl (pc0 := 132) (pc' := 139) rfl (hb hby at_132) rfl ((if0 _ _).trans (feq (by decide : ¬ ((3 : Int32) = (0 : Int32)))).2) (by decide) (by decide) (XS.iconst X222.here hx rfl (hb hby at_139) (XS.icmpYes X222.here hx rfl (pc0 := 140) (pc' := 145) rfl (hb hby at_140) rfl (teq (by decide : (0 : Int32) = (0 : Int32))).1 (by decide) (by decide) (XS.aload X222.here hx rfl (hb hby at_145) rfl rfl kq))))))) ?_
    obtain ⟨cq223, kq223, q223a, q223b, q223c⟩ := isOf hZ e222 E214q
    obtain ⟨_, _, ⟨T223, L223, k223, n223⟩, -, X223, ⟨Lc223, hQ223, l223, y223, z223⟩, st223⟩ := X222.virtualBack hx (y := (⟨"com/example/wayline/wayline/HeaderReader", "atEnd", "()Z"⟩ : MethodName)) (z := (⟨"com/example/wayline/wayline/HeaderReader", "atEnd", "()Z"⟩ : MethodName)) hown (mvT hZ (own_w hw 35 rfl)) (mvT hZ (own_w hw 36 rfl)) (notFace_of_selects (args := #[]) (mvT hZ (own_w hw 38 rfl))) (mvT hZ (own_w hw 38 rfl)) (mvT hZ (own_w hw 37 rfl)) (by decide) (backOf (W := 0) (rmEnd l Z a0 hw [] b207 b199 t203 0 3 (own_bl ([va, vb, vc] : List Int32)) G1 T214.heap n0 Zs214 f215 hG V214q P214q f217 f218 f219 f220 (by omega) (by omega)) hZ (own_w hw 39 rfl) (own_w hw 28 rfl) (by decide) (by decide)) q223a q223c (g := (mkF m 147 #[.val (.int i0), .val (.int i1), .val (.int i2), .val (.int i3), .val (.int i4), .val (.int (3 : Int32)), .val (.int va), .val (.int vb), .val (.int vc), .val (.ref b184), .val (.ref b199), .val (.ref b207), .val (.int (0 : Int32)), .unset, .unset, .unset, .unset] [(.ref b207)])) rfl (by rw [hml]; rfl) (Steps.refl _) (argsL := []) (rest := []) (lenOf pd_5 rfl) rfl (by show 2 * 0 + _ ≤ _; exact Nat.le_of_eq rfl) (hb hby at_147) (fun _ _ => ⟨rfl, e222, (by decide : 4 + 0 ≤ _), (by decide : 12 + 0 ≤ _)⟩)
    dsimp only [Pt.U, Pt.locs, Pt.cells, Pt.slots] at X223 l223 y223 z223 st223 hQ223
    have l223y := l223.symm
    clear l223
    subst l223y
    obtain rfl : k223 = 4 := y223
    obtain rfl : n223 = 12 := z223
    obtain ⟨rfl, N223q, e223⟩ := hQ223
    have N223 := Fr.app N222 N223q
    refine own_toW T223 (mkF m 150 #[.val (.int i0), .val (.int i1), .val (.int i2), .val (.int i3), .val (.int i4), .val (.int (3 : Int32)), .val (.int va), .val (.int vb), .val (.int vc), .val (.ref b184), .val (.ref b199), .val (.ref b207), .val (.int (0 : Int32)), .unset, .unset, .unset, .unset] [(.int (own_end 0 3))]) (fun tq kq => st223.trans kq) ?_
    rw [show (own_end 0 3) = (0 : Int32) from by decide]
    refine own_toW T223 (mkF m 161 #[.val (.int i0), .val (.int i1), .val (.int i2), .val (.int i3), .val (.int i4), .val (.int (3 : Int32)), .val (.int va), .val (.int vb), .val (.int vc), .val (.ref b184), .val (.ref b199), .val (.ref b207), .val (.int (0 : Int32)), .unset, .unset, .unset, .unset] [(.int (i4 &&& (1 : Int32)))]) (fun tq kq => XS.iload X223.here hx rfl (hb hby at_150) rfl (XS.icmpYes X223.here hx rfl (pc0 := 152) (pc' := 157) rfl (hb hby at_152) rfl (teq (by decide : (0 : Int32) = (0 : Int32))).1 (by decide) (by decide) (XS.iload X223.here hx rfl (hb hby at_157) rfl (XS.iconst X223.here hx rfl (hb hby at_159) (XS.iand X223.here hx rfl (hb hby at_160) rfl kq))))) ?_
    by_cases c161 : (i4 &&& (1 : Int32)) = (0 : Int32)
    · skip
      refine own_toW T223 (mkF m 171 #[.val (.int i0), .val (.int i1), .val (.int i2), .val (.int i3), .val (.int i4), .val (.int (3 : Int32)), .val (.int va), .val (.int vb), .val (.int vc), .val (.ref b184), .val (.ref b199), .val (.ref b207), .val (.int (0 : Int32)), .unset, .unset, .unset, .unset] [(.ref b207)]) (fun tq kq => XS.ifYes X223.here hx rfl (pc0 := 161) (pc' := 169) rfl (hb hby at_161) rfl ((if0 _ _).trans (teq c161).1) (by decide) (by decide) (XS.aload X223.here hx rfl (hb hby at_169) rfl rfl kq)) ?_
      obtain ⟨cq224, kq224, q224a, q224b, q224c⟩ := isOf hZ e223 E214q
      obtain ⟨_, _, ⟨T224, L224, k224, n224⟩, -, X224, ⟨Lc224, hQ224, l224, y224, z224⟩, st224⟩ := X223.virtualBack hx (y := (⟨"com/example/wayline/wayline/HeaderReader", "skipWhiteSpace", "()V"⟩ : MethodName)) (z := (⟨"com/example/wayline/wayline/HeaderReader", "skipWhiteSpace", "()V"⟩ : MethodName)) hown (mvT hZ (own_w hw 53 rfl)) (mvT hZ (own_w hw 54 rfl)) (notFace_of_selects (args := #[]) (mvT hZ (own_w hw 56 rfl))) (mvT hZ (own_w hw 56 rfl)) (mvT hZ (own_w hw 55 rfl)) (by decide) (backOf (W := 0) (rmSkip l Z a0 hw [] b207 b199 t203 0 3 (own_bl ([va, vb, vc] : List Int32)) G1 vF T214.heap n0 Zs214 f215 hG f216 hvF E214q V214q P214q f217 f218 f219 f220 (by omega) (by omega) (Ne.symm ne_b199_b207) (Ne.symm ne_t203_b207) sz207) hZ (own_w hw 57 rfl) (own_w hw 28 rfl) (by decide) (by decide)) q224a q224c (g := (mkF m 171 #[.val (.int i0), .val (.int i1), .val (.int i2), .val (.int i3), .val (.int i4), .val (.int (3 : Int32)), .val (.int va), .val (.int vb), .val (.int vc), .val (.ref b184), .val (.ref b199), .val (.ref b207), .val (.int (0 : Int32)), .unset, .unset, .unset, .unset] [(.ref b207)])) rfl (by rw [hml]; rfl) (Steps.refl _) (argsL := []) (rest := []) (lenOf pd_3 rfl) rfl (by show 2 * 0 + _ ≤ _; exact Nat.le_of_eq rfl) (hb hby at_171) (fun _ _ => ⟨rfl, e223, (by decide : 4 + 0 ≤ _), (by decide : 12 + 0 ≤ _)⟩)
      dsimp only [Pt.U, Pt.locs, Pt.cells, Pt.slots] at X224 l224 y224 z224 st224 hQ224
      have l224y := l224.symm
      clear l224
      subst l224y
      obtain rfl : k224 = 4 := y224
      obtain rfl : n224 = 12 := z224
      obtain ⟨rfl, N224q, K224q, E224q, V224q, q1, hq0, hqn, P224q, hall, hstop⟩ := hQ224
      have N224 := Fr.app N223 N224q
      have f225 := own_staX f215 K224q E214q
      have f226 := own_staX f216 K224q E214q
      have f227 := f217.keep K224q
      have f228 := f218.keep K224q (ninS ne_b199_b207 nin0)
      have f229 := f219.keep K224q (ninS ne_b199_b207 nin0)
      have f230 := f220.keep K224q (ninS ne_t203_b207 nin0)
      have f231 := E214q.keep K224q
      have Zs224 : n0 ≤ T224.heap.size := Nat.le_trans Zs214 K224q.1
      have hk := Nat.le_trans hk K224q.1
      refine own_toW T224 (mkF m 182 #[.val (.int i0), .val (.int i1), .val (.int i2), .val (.int i3), .val (.int i4), .val (.int (3 : Int32)), .val (.int va), .val (.int vb), .val (.int vc), .val (.ref b184), .val (.ref b199), .val (.ref b207), .val (.int (0 : Int32)), .unset, .unset, .unset, .unset] [(.int va)]) (fun tq kq => st224.trans (XS.iload X224.here hx rfl (hb hby at_174) rfl (XS.iconst X224.here hx rfl (hb hby at_176) (XS.icmpNo X224.here hx rfl (hb hby at_177) rfl (flt (by decide : ¬ ((3 : Int32) < (1 : Int32)))).1 (XS.iload X224.here hx rfl (hb hby at_180) rfl kq))))) ?_
      by_cases hw0 : own_ws va
      · skip
        obtain ⟨_, _, ⟨T232, L232, k232, n232⟩, -, X232, ⟨Lc232, hQ232, l232, y232, z232⟩, st232⟩ := Jvm.LawKit.callS X224 hx (y := (⟨"com/example/wayline/wayline/HeaderReaderAtEndPinLaw", "ws", "(C)Z"⟩ : MethodName)) hown (mvT hZ (own_w hw 153 rfl)) (mvT hZ (own_w hw 154 rfl)) (mvT hZ (own_w hw 2 rfl)) (mvT hZ (own_w hw 155 rfl)) (by decide) (backOf (W := 0) (rmWs1 l Z a0 hw [] va T224.heap n0 Zs224 hw0) hZ (own_w hw 155 rfl) (own_w hw 2 rfl) (by decide) (by decide)) (g := (mkF m 182 #[.val (.int i0), .val (.int i1), .val (.int i2), .val (.int i3), .val (.int i4), .val (.int (3 : Int32)), .val (.int va), .val (.int vb), .val (.int vc), .val (.ref b184), .val (.ref b199), .val (.ref b207), .val (.int (0 : Int32)), .unset, .unset, .unset, .unset] [(.int va)])) rfl (by rw [hml]; rfl) (argsL := [(.int va)]) (rest := []) (lenOf pd_25 rfl) rfl (by show 2 * 0 + _ ≤ _; exact Nat.le_of_eq rfl) (hb hby at_182) (fun _ _ => ⟨rfl, rfl, (by decide : 4 + 0 ≤ _), (by decide : 12 + 0 ≤ _)⟩)
        dsimp only [Pt.U, Pt.locs, Pt.cells, Pt.slots] at X232 l232 y232 z232 st232 hQ232
        have l232y := l232.symm
        clear l232
        subst l232y
        obtain rfl : k232 = 4 := y232
        obtain rfl : n232 = 12 := z232
        obtain ⟨rfl, N232q, e232⟩ := hQ232
        have N232 := Fr.app N224 N232q
        refine own_toW T232 (mkF m 203 #[.val (.int i0), .val (.int i1), .val (.int i2), .val (.int i3), .val (.int i4), .val (.int (3 : Int32)), .val (.int va), .val (.int vb), .val (.int vc), .val (.ref b184), .val (.ref b199), .val (.ref b207), .val (.int (0 : Int32)), .unset, .val (.int (1 : Int32)), .unset, .unset] [(.int vb)]) (fun tq kq => st232 _ (XS.ifNo X232.here hx rfl (hb hby at_185) rfl ((if0 _ _).trans (feq (by decide : ¬ ((1 : Int32) = (0 : Int32)))).1) (XS.iconst X232.here hx rfl (hb hby at_188) (XS.goto X232.here hx rfl (pc0 := 189) (pc' := 193) rfl (hb hby at_189) (by decide) (by decide) (XS.istore X232.here hx rfl (hb hby at_193) rfl (l' := #[.val (.int i0), .val (.int i1), .val (.int i2), .val (.int i3), .val (.int i4), .val (.int (3 : Int32)), .val (.int va), .val (.int vb), .val (.int vc), .val (.ref b184), .val (.ref b199), .val (.ref b207), .val (.int (0 : Int32)), .unset, .val (.int (1 : Int32)), .unset, .unset]) rfl (XS.iload X232.here hx rfl (hb hby at_195) rfl (XS.iconst X232.here hx rfl (hb hby at_197) (XS.icmpNo X232.here hx rfl (hb hby at_198) rfl (flt (by decide : ¬ ((3 : Int32) < (2 : Int32)))).1 (XS.iload X232.here hx rfl (hb hby at_201) rfl kq))))))))) ?_
        by_cases hw1 : own_ws vb
        · skip
          obtain ⟨_, _, ⟨T233, L233, k233, n233⟩, -, X233, ⟨Lc233, hQ233, l233, y233, z233⟩, st233⟩ := Jvm.LawKit.callS X232 hx (y := (⟨"com/example/wayline/wayline/HeaderReaderAtEndPinLaw", "ws", "(C)Z"⟩ : MethodName)) hown (mvT hZ (own_w hw 153 rfl)) (mvT hZ (own_w hw 154 rfl)) (mvT hZ (own_w hw 2 rfl)) (mvT hZ (own_w hw 155 rfl)) (by decide) (backOf (W := 0) (rmWs1 l Z a0 hw [] vb T224.heap n0 Zs224 hw1) hZ (own_w hw 155 rfl) (own_w hw 2 rfl) (by decide) (by decide)) (g := (mkF m 203 #[.val (.int i0), .val (.int i1), .val (.int i2), .val (.int i3), .val (.int i4), .val (.int (3 : Int32)), .val (.int va), .val (.int vb), .val (.int vc), .val (.ref b184), .val (.ref b199), .val (.ref b207), .val (.int (0 : Int32)), .unset, .val (.int (1 : Int32)), .unset, .unset] [(.int vb)])) rfl (by rw [hml]; rfl) (argsL := [(.int vb)]) (rest := []) (lenOf pd_25 rfl) rfl (by show 2 * 0 + _ ≤ _; exact Nat.le_of_eq rfl) (hb hby at_203) (fun _ _ => ⟨rfl, e232, (by decide : 4 + 0 ≤ _), (by decide : 12 + 0 ≤ _)⟩)
          dsimp only [Pt.U, Pt.locs, Pt.cells, Pt.slots] at X233 l233 y233 z233 st233 hQ233
          have l233y := l233.symm
          clear l233
          subst l233y
          obtain rfl : k233 = 4 := y233
          obtain rfl : n233 = 12 := z233
          obtain ⟨rfl, N233q, e233⟩ := hQ233
          have N233 := Fr.app N232 N233q
          refine own_toW T233 (mkF m 224 #[.val (.int i0), .val (.int i1), .val (.int i2), .val (.int i3), .val (.int i4), .val (.int (3 : Int32)), .val (.int va), .val (.int vb), .val (.int vc), .val (.ref b184), .val (.ref b199), .val (.ref b207), .val (.int (0 : Int32)), .unset, .val (.int (1 : Int32)), .val (.int (1 : Int32)), .unset] [(.int vc)]) (fun tq kq => st233 _ (XS.ifNo X233.here hx rfl (hb hby at_206) rfl ((if0 _ _).trans (feq (by decide : ¬ ((1 : Int32) = (0 : Int32)))).1) (XS.iconst X233.here hx rfl (hb hby at_209) (XS.goto X233.here hx rfl (pc0 := 210) (pc' := 214) rfl (hb hby at_210) (by decide) (by decide) (XS.istore X233.here hx rfl (hb hby at_214) rfl (l' := #[.val (.int i0), .val (.int i1), .val (.int i2), .val (.int i3), .val (.int i4), .val (.int (3 : Int32)), .val (.int va), .val (.int vb), .val (.int vc), .val (.ref b184), .val (.ref b199), .val (.ref b207), .val (.int (0 : Int32)), .unset, .val (.int (1 : Int32)), .val (.int (1 : Int32)), .unset]) rfl (XS.iload X233.here hx rfl (hb hby at_216) rfl (XS.iconst X233.here hx rfl (hb hby at_218) (XS.icmpNo X233.here hx rfl (hb hby at_219) rfl (flt (by decide : ¬ ((3 : Int32) < (3 : Int32)))).1 (XS.iload X233.here hx rfl (hb hby at_222) rfl kq))))))))) ?_
          by_cases hw2 : own_ws vc
          · skip
            obtain ⟨_, _, ⟨T234, L234, k234, n234⟩, -, X234, ⟨Lc234, hQ234, l234, y234, z234⟩, st234⟩ := Jvm.LawKit.callS X233 hx (y := (⟨"com/example/wayline/wayline/HeaderReaderAtEndPinLaw", "ws", "(C)Z"⟩ : MethodName)) hown (mvT hZ (own_w hw 153 rfl)) (mvT hZ (own_w hw 154 rfl)) (mvT hZ (own_w hw 2 rfl)) (mvT hZ (own_w hw 155 rfl)) (by decide) (backOf (W := 0) (rmWs1 l Z a0 hw [] vc T224.heap n0 Zs224 hw2) hZ (own_w hw 155 rfl) (own_w hw 2 rfl) (by decide) (by decide)) (g := (mkF m 224 #[.val (.int i0), .val (.int i1), .val (.int i2), .val (.int i3), .val (.int i4), .val (.int (3 : Int32)), .val (.int va), .val (.int vb), .val (.int vc), .val (.ref b184), .val (.ref b199), .val (.ref b207), .val (.int (0 : Int32)), .unset, .val (.int (1 : Int32)), .val (.int (1 : Int32)), .unset] [(.int vc)])) rfl (by rw [hml]; rfl) (argsL := [(.int vc)]) (rest := []) (lenOf pd_25 rfl) rfl (by show 2 * 0 + _ ≤ _; exact Nat.le_of_eq rfl) (hb hby at_224) (fun _ _ => ⟨rfl, e233, (by decide : 4 + 0 ≤ _), (by decide : 12 + 0 ≤ _)⟩)
            dsimp only [Pt.U, Pt.locs, Pt.cells, Pt.slots] at X234 l234 y234 z234 st234 hQ234
            have l234y := l234.symm
            clear l234
            subst l234y
            obtain rfl : k234 = 4 := y234
            obtain rfl : n234 = 12 := z234
            obtain ⟨rfl, N234q, e234⟩ := hQ234
            have N234 := Fr.app N233 N234q
            refine own_toW T234 (mkF m 249 #[.val (.int i0), .val (.int i1), .val (.int i2), .val (.int i3), .val (.int i4), .val (.int (3 : Int32)), .val (.int va), .val (.int vb), .val (.int vc), .val (.ref b184), .val (.ref b199), .val (.ref b207), .val (.int (0 : Int32)), .unset, .val (.int (1 : Int32)), .val (.int (1 : Int32)), .val (.int (1 : Int32))] [(.int (1 : Int32))]) (fun tq kq => st234 _ (XS.ifNo X234.here hx rfl (hb hby at_227) rfl ((if0 _ _).trans (feq (by decide : ¬ ((1 : Int32) = (0 : Int32)))).1) (XS.iconst X234.here hx rfl (hb hby at_230) (XS.goto X234.here hx rfl (pc0 := 231) (pc' := 235) rfl (hb hby at_231) (by decide) (by decide) (XS.istore X234.here hx rfl (hb hby at_235) rfl (l' := #[.val (.int i0), .val (.int i1), .val (.int i2), .val (.int i3), .val (.int i4), .val (.int (3 : Int32)), .val (.int va), .val (.int vb), .val (.int vc), .val (.ref b184), .val (.ref b199), .val (.ref b207), .val (.int (0 : Int32)), .unset, .val (.int (1 : Int32)), .val (.int (1 : Int32)), .val (.int (1 : Int32))]) rfl (XS.iload X234.here hx rfl (hb hby at_237) rfl (XS.ifNo X234.here hx rfl (hb hby at_239) rfl ((if0 _ _).trans (feq (by decide : ¬ ((1 : Int32) = (0 : Int32)))).1) (XS.iload X234.here hx rfl (hb hby at_242) rfl (XS.ifNo X234.here hx rfl (hb hby at_244) rfl ((if0 _ _).trans (feq (by decide : ¬ ((1 : Int32) = (0 : Int32)))).1) (XS.iload X234.here hx rfl (hb hby at_247) rfl kq)))))))))) ?_
            refine own_toW T234 (mkF m 350 #[.val (.int i0), .val (.int i1), .val (.int i2), .val (.int i3), .val (.int i4), .val (.int (3 : Int32)), .val (.int va), .val (.int vb), .val (.int vc), .val (.ref b184), .val (.ref b199), .val (.ref b207), .val (.int (0 : Int32)), .val (.int (1 : Int32)), .val (.int (1 : Int32)), .val (.int (1 : Int32)), .val (.int (1 : Int32))] [(.ref b207)]) (fun tq kq => XS.ifNo X234.here hx rfl (hb hby at_249) rfl ((if0 _ _).trans (feq (by decide : ¬ ((1 : Int32) = (0 : Int32)))).1) (XS.iconst X234.here hx rfl (hb hby at_252) (XS.goto X234.here hx rfl (pc0 := 253) (pc' := 257) rfl (hb hby at_253) (by decide) (by decide) (XS.istore X234.here hx rfl (hb hby at_257) rfl (l' := #[.val (.int i0), .val (.int i1), .val (.int i2), .val (.int i3), .val (.int i4), .val (.int (3 : Int32)), .val (.int va), .val (.int vb), .val (.int vc), .val (.ref b184), .val (.ref b199), .val (.ref b207), .val (.int (0 : Int32)), .val (.int (1 : Int32)), .val (.int (1 : Int32)), .val (.int (1 : Int32)), .val (.int (1 : Int32))]) rfl (XS.goto X234.here hx rfl (pc0 := 259) (pc' := 348) rfl (hb hby at_259) (by decide) (by decide) (XS.aload X234.here hx rfl (hb hby at_348) rfl rfl kq)))))) ?_
            obtain ⟨cq235, kq235, q235a, q235b, q235c⟩ := isOf hZ e234 E224q
            obtain ⟨_, _, ⟨T235, L235, k235, n235⟩, -, X235, ⟨Lc235, hQ235, l235, y235, z235⟩, st235⟩ := X234.virtualBack hx (y := (⟨"com/example/wayline/wayline/HeaderReader", "atEnd", "()Z"⟩ : MethodName)) (z := (⟨"com/example/wayline/wayline/HeaderReader", "atEnd", "()Z"⟩ : MethodName)) hown (mvT hZ (own_w hw 35 rfl)) (mvT hZ (own_w hw 36 rfl)) (notFace_of_selects (args := #[]) (mvT hZ (own_w hw 38 rfl))) (mvT hZ (own_w hw 38 rfl)) (mvT hZ (own_w hw 37 rfl)) (by decide) (backOf (W := 0) (rmEnd l Z a0 hw [] b207 b199 t203 q1 3 (own_bl ([va, vb, vc] : List Int32)) G1 T224.heap n0 Zs224 f225 hG V224q P224q f227 f228 f229 f230 (by omega) (by omega)) hZ (own_w hw 39 rfl) (own_w hw 28 rfl) (by decide) (by decide)) q235a q235c (g := (mkF m 350 #[.val (.int i0), .val (.int i1), .val (.int i2), .val (.int i3), .val (.int i4), .val (.int (3 : Int32)), .val (.int va), .val (.int vb), .val (.int vc), .val (.ref b184), .val (.ref b199), .val (.ref b207), .val (.int (0 : Int32)), .val (.int (1 : Int32)), .val (.int (1 : Int32)), .val (.int (1 : Int32)), .val (.int (1 : Int32))] [(.ref b207)])) rfl (by rw [hml]; rfl) (Steps.refl _) (argsL := []) (rest := []) (lenOf pd_5 rfl) rfl (by show 2 * 0 + _ ≤ _; exact Nat.le_of_eq rfl) (hb hby at_350) (fun _ _ => ⟨rfl, e234, (by decide : 4 + 0 ≤ _), (by decide : 12 + 0 ≤ _)⟩)
            dsimp only [Pt.U, Pt.locs, Pt.cells, Pt.slots] at X235 l235 y235 z235 st235 hQ235
            have l235y := l235.symm
            clear l235
            subst l235y
            obtain rfl : k235 = 4 := y235
            obtain rfl : n235 = 12 := z235
            obtain ⟨rfl, N235q, e235⟩ := hQ235
            have N235 := Fr.app N234 N235q
            refine own_toW T235 (mkF m 353 #[.val (.int i0), .val (.int i1), .val (.int i2), .val (.int i3), .val (.int i4), .val (.int (3 : Int32)), .val (.int va), .val (.int vb), .val (.int vc), .val (.ref b184), .val (.ref b199), .val (.ref b207), .val (.int (0 : Int32)), .val (.int (1 : Int32)), .val (.int (1 : Int32)), .val (.int (1 : Int32)), .val (.int (1 : Int32))] [(.int (own_end q1 3))]) (fun tq kq => st235.trans kq) ?_
            rw [show (own_end q1 3) = (1 : Int32) from if_neg (fun hlt => hstop hlt (by have h3 : q1 = 0 ∨ q1 = 1 ∨ q1 = 2 := (by omega); rcases h3 with rfl | rfl | rfl <;> (first | exact (show own_ws (own_ch (va.toInt8.toInt32)) from (own_chb hcva).symm ▸ hw0) | exact (show own_ws (own_ch (vb.toInt8.toInt32)) from (own_chb hcvb).symm ▸ hw1) | exact (show own_ws (own_ch (vc.toInt8.toInt32)) from (own_chb hcvc).symm ▸ hw2))))]
            refine own_toW T235 (mkF m 363 #[.val (.int i0), .val (.int i1), .val (.int i2), .val (.int i3), .val (.int i4), .val (.int (3 : Int32)), .val (.int va), .val (.int vb), .val (.int vc), .val (.ref b184), .val (.ref b199), .val (.ref b207), .val (.int (0 : Int32)), .val (.int (1 : Int32)), .val (.int (1 : Int32)), .val (.int (1 : Int32)), .val (.int (1 : Int32))] [(.int (1 : Int32))]) (fun tq kq => XS.iload X235.here hx rfl (hb hby at_353) rfl (XS.icmpNo X235.here hx rfl (hb hby at_355) rfl (teq (by decide : (1 : Int32) = (1 : Int32))).2 (XS.iconst X235.here hx rfl (hb hby at_358) (XS.goto X235.here hx rfl (pc0 := 359) (pc' := 363) rfl (hb hby at_359) (by decide) (by decide) kq)))) ?_
            exact own_retZW X235 hS (by rw [e235]; exact hk) hx hret hlk (hb hby at_363) (by decide) (by decide) (Or.inr rfl) ⟨rfl, N235⟩
          · skip
            obtain ⟨_, _, ⟨T236, L236, k236, n236⟩, -, X236, ⟨Lc236, hQ236, l236, y236, z236⟩, st236⟩ := Jvm.LawKit.callS X233 hx (y := (⟨"com/example/wayline/wayline/HeaderReaderAtEndPinLaw", "ws", "(C)Z"⟩ : MethodName)) hown (mvT hZ (own_w hw 153 rfl)) (mvT hZ (own_w hw 154 rfl)) (mvT hZ (own_w hw 2 rfl)) (mvT hZ (own_w hw 155 rfl)) (by decide) (backOf (W := 0) (rmWs0 l Z a0 hw [] vc T224.heap n0 Zs224 hw2) hZ (own_w hw 155 rfl) (own_w hw 2 rfl) (by decide) (by decide)) (g := (mkF m 224 #[.val (.int i0), .val (.int i1), .val (.int i2), .val (.int i3), .val (.int i4), .val (.int (3 : Int32)), .val (.int va), .val (.int vb), .val (.int vc), .val (.ref b184), .val (.ref b199), .val (.ref b207), .val (.int (0 : Int32)), .unset, .val (.int (1 : Int32)), .val (.int (1 : Int32)), .unset] [(.int vc)])) rfl (by rw [hml]; rfl) (argsL := [(.int vc)]) (rest := []) (lenOf pd_25 rfl) rfl (by show 2 * 0 + _ ≤ _; exact Nat.le_of_eq rfl) (hb hby at_224) (fun _ _ => ⟨rfl, e233, (by decide : 4 + 0 ≤ _), (by decide : 12 + 0 ≤ _)⟩)
            dsimp only [Pt.U, Pt.locs, Pt.cells, Pt.slots] at X236 l236 y236 z236 st236 hQ236
            have l236y := l236.symm
            clear l236
            subst l236y
            obtain rfl : k236 = 4 := y236
            obtain rfl : n236 = 12 := z236
            obtain ⟨rfl, N236q, e236⟩ := hQ236
            have N236 := Fr.app N233 N236q
            refine own_toW T236 (mkF m 256 #[.val (.int i0), .val (.int i1), .val (.int i2), .val (.int i3), .val (.int i4), .val (.int (3 : Int32)), .val (.int va), .val (.int vb), .val (.int vc), .val (.ref b184), .val (.ref b199), .val (.ref b207), .val (.int (0 : Int32)), .unset, .val (.int (1 : Int32)), .val (.int (1 : Int32)), .val (.int (0 : Int32))] []) (fun tq kq => st236 _ (XS.ifYes X236.here hx rfl (pc0 := 227) (pc' := 234) rfl (hb hby at_227) rfl ((if0 _ _).trans (teq (by decide : (0 : Int32) = (0 : Int32))).1) (by decide) (by decide) (XS.iconst X236.here hx rfl (hb hby at_234) (XS.istore X236.here hx rfl (hb hby at_235) rfl (l' := #[.val (.int i0), .val (.int i1), .val (.int i2), .val (.int i3), .val (.int i4), .val (.int (3 : Int32)), .val (.int va), .val (.int vb), .val (.int vc), .val (.ref b184), .val (.ref b199), .val (.ref b207), .val (.int (0 : Int32)), .unset, .val (.int (1 : Int32)), .val (.int (1 : Int32)), .val (.int (0 : Int32))]) rfl (XS.iload X236.here hx rfl (hb hby at_237) rfl (XS.ifNo X236.here hx rfl (hb hby at_239) rfl ((if0 _ _).trans (feq (by decide : ¬ ((1 : Int32) = (0 : Int32)))).1) (XS.iload X236.here hx rfl (hb hby at_242) rfl (XS.ifNo X236.here hx rfl (hb hby at_244) rfl ((if0 _ _).trans (feq (by decide : ¬ ((1 : Int32) = (0 : Int32)))).1) (XS.iload X236.here hx rfl (hb hby at_247) rfl (XS.ifYes X236.here hx rfl (pc0 := 249) (pc' := 256) rfl (hb hby at_249) rfl ((if0 _ _).trans (teq (by decide : (0 : Int32) = (0 : Int32))).1) (by decide) (by decide) kq)))))))))) ?_
            refine own_toW T236 (mkF m 350 #[.val (.int i0), .val (.int i1), .val (.int i2), .val (.int i3), .val (.int i4), .val (.int (3 : Int32)), .val (.int va), .val (.int vb), .val (.int vc), .val (.ref b184), .val (.ref b199), .val (.ref b207), .val (.int (0 : Int32)), .val (.int (0 : Int32)), .val (.int (1 : Int32)), .val (.int (1 : Int32)), .val (.int (0 : Int32))] [(.ref b207)]) (fun tq kq => XS.iconst X236.here hx rfl (hb hby at_256) (XS.istore X236.here hx rfl (hb hby at_257) rfl (l' := #[.val (.int i0), .val (.int i1), .val (.int i2), .val (.int i3), .val (.int i4), .val (.int (3 : Int32)), .val (.int va), .val (.int vb), .val (.int vc), .val (.ref b184), .val (.ref b199), .val (.ref b207), .val (.int (0 : Int32)), .val (.int (0 : Int32)), .val (.int (1 : Int32)), .val (.int (1 : Int32)), .val (.int (0 : Int32))]) rfl (XS.goto X236.here hx rfl (pc0 := 259) (pc' := 348) rfl (hb hby at_259) (by decide) (by decide) (XS.aload X236.here hx rfl (hb hby at_348) rfl rfl kq)))) ?_
            obtain ⟨cq237, kq237, q237a, q237b, q237c⟩ := isOf hZ e236 E224q
            obtain ⟨_, _, ⟨T237, L237, k237, n237⟩, -, X237, ⟨Lc237, hQ237, l237, y237, z237⟩, st237⟩ := X236.virtualBack hx (y := (⟨"com/example/wayline/wayline/HeaderReader", "atEnd", "()Z"⟩ : MethodName)) (z := (⟨"com/example/wayline/wayline/HeaderReader", "atEnd", "()Z"⟩ : MethodName)) hown (mvT hZ (own_w hw 35 rfl)) (mvT hZ (own_w hw 36 rfl)) (notFace_of_selects (args := #[]) (mvT hZ (own_w hw 38 rfl))) (mvT hZ (own_w hw 38 rfl)) (mvT hZ (own_w hw 37 rfl)) (by decide) (backOf (W := 0) (rmEnd l Z a0 hw [] b207 b199 t203 q1 3 (own_bl ([va, vb, vc] : List Int32)) G1 T224.heap n0 Zs224 f225 hG V224q P224q f227 f228 f229 f230 (by omega) (by omega)) hZ (own_w hw 39 rfl) (own_w hw 28 rfl) (by decide) (by decide)) q237a q237c (g := (mkF m 350 #[.val (.int i0), .val (.int i1), .val (.int i2), .val (.int i3), .val (.int i4), .val (.int (3 : Int32)), .val (.int va), .val (.int vb), .val (.int vc), .val (.ref b184), .val (.ref b199), .val (.ref b207), .val (.int (0 : Int32)), .val (.int (0 : Int32)), .val (.int (1 : Int32)), .val (.int (1 : Int32)), .val (.int (0 : Int32))] [(.ref b207)])) rfl (by rw [hml]; rfl) (Steps.refl _) (argsL := []) (rest := []) (lenOf pd_5 rfl) rfl (by show 2 * 0 + _ ≤ _; exact Nat.le_of_eq rfl) (hb hby at_350) (fun _ _ => ⟨rfl, e236, (by decide : 4 + 0 ≤ _), (by decide : 12 + 0 ≤ _)⟩)
            dsimp only [Pt.U, Pt.locs, Pt.cells, Pt.slots] at X237 l237 y237 z237 st237 hQ237
            have l237y := l237.symm
            clear l237
            subst l237y
            obtain rfl : k237 = 4 := y237
            obtain rfl : n237 = 12 := z237
            obtain ⟨rfl, N237q, e237⟩ := hQ237
            have N237 := Fr.app N236 N237q
            refine own_toW T237 (mkF m 353 #[.val (.int i0), .val (.int i1), .val (.int i2), .val (.int i3), .val (.int i4), .val (.int (3 : Int32)), .val (.int va), .val (.int vb), .val (.int vc), .val (.ref b184), .val (.ref b199), .val (.ref b207), .val (.int (0 : Int32)), .val (.int (0 : Int32)), .val (.int (1 : Int32)), .val (.int (1 : Int32)), .val (.int (0 : Int32))] [(.int (own_end q1 3))]) (fun tq kq => st237.trans kq) ?_
            rw [show (own_end q1 3) = (0 : Int32) from if_pos (Nat.lt_of_not_le fun hle => hw2 (own_chb hcvc ▸ hall 2 (by omega) (by omega)))]
            refine own_toW T237 (mkF m 363 #[.val (.int i0), .val (.int i1), .val (.int i2), .val (.int i3), .val (.int i4), .val (.int (3 : Int32)), .val (.int va), .val (.int vb), .val (.int vc), .val (.ref b184), .val (.ref b199), .val (.ref b207), .val (.int (0 : Int32)), .val (.int (0 : Int32)), .val (.int (1 : Int32)), .val (.int (1 : Int32)), .val (.int (0 : Int32))] [(.int (1 : Int32))]) (fun tq kq => XS.iload X237.here hx rfl (hb hby at_353) rfl (XS.icmpNo X237.here hx rfl (hb hby at_355) rfl (teq (by decide : (0 : Int32) = (0 : Int32))).2 (XS.iconst X237.here hx rfl (hb hby at_358) (XS.goto X237.here hx rfl (pc0 := 359) (pc' := 363) rfl (hb hby at_359) (by decide) (by decide) kq)))) ?_
            exact own_retZW X237 hS (by rw [e237]; exact hk) hx hret hlk (hb hby at_363) (by decide) (by decide) (Or.inr rfl) ⟨rfl, N237⟩
        · skip
          obtain ⟨_, _, ⟨T238, L238, k238, n238⟩, -, X238, ⟨Lc238, hQ238, l238, y238, z238⟩, st238⟩ := Jvm.LawKit.callS X232 hx (y := (⟨"com/example/wayline/wayline/HeaderReaderAtEndPinLaw", "ws", "(C)Z"⟩ : MethodName)) hown (mvT hZ (own_w hw 153 rfl)) (mvT hZ (own_w hw 154 rfl)) (mvT hZ (own_w hw 2 rfl)) (mvT hZ (own_w hw 155 rfl)) (by decide) (backOf (W := 0) (rmWs0 l Z a0 hw [] vb T224.heap n0 Zs224 hw1) hZ (own_w hw 155 rfl) (own_w hw 2 rfl) (by decide) (by decide)) (g := (mkF m 203 #[.val (.int i0), .val (.int i1), .val (.int i2), .val (.int i3), .val (.int i4), .val (.int (3 : Int32)), .val (.int va), .val (.int vb), .val (.int vc), .val (.ref b184), .val (.ref b199), .val (.ref b207), .val (.int (0 : Int32)), .unset, .val (.int (1 : Int32)), .unset, .unset] [(.int vb)])) rfl (by rw [hml]; rfl) (argsL := [(.int vb)]) (rest := []) (lenOf pd_25 rfl) rfl (by show 2 * 0 + _ ≤ _; exact Nat.le_of_eq rfl) (hb hby at_203) (fun _ _ => ⟨rfl, e232, (by decide : 4 + 0 ≤ _), (by decide : 12 + 0 ≤ _)⟩)
          dsimp only [Pt.U, Pt.locs, Pt.cells, Pt.slots] at X238 l238 y238 z238 st238 hQ238
          have l238y := l238.symm
          clear l238
          subst l238y
          obtain rfl : k238 = 4 := y238
          obtain rfl : n238 = 12 := z238
          obtain ⟨rfl, N238q, e238⟩ := hQ238
          have N238 := Fr.app N232 N238q
          refine own_toW T238 (mkF m 224 #[.val (.int i0), .val (.int i1), .val (.int i2), .val (.int i3), .val (.int i4), .val (.int (3 : Int32)), .val (.int va), .val (.int vb), .val (.int vc), .val (.ref b184), .val (.ref b199), .val (.ref b207), .val (.int (0 : Int32)), .unset, .val (.int (1 : Int32)), .val (.int (0 : Int32)), .unset] [(.int vc)]) (fun tq kq => st238 _ (XS.ifYes X238.here hx rfl (pc0 := 206) (pc' := 213) rfl (hb hby at_206) rfl ((if0 _ _).trans (teq (by decide : (0 : Int32) = (0 : Int32))).1) (by decide) (by decide) (XS.iconst X238.here hx rfl (hb hby at_213) (XS.istore X238.here hx rfl (hb hby at_214) rfl (l' := #[.val (.int i0), .val (.int i1), .val (.int i2), .val (.int i3), .val (.int i4), .val (.int (3 : Int32)), .val (.int va), .val (.int vb), .val (.int vc), .val (.ref b184), .val (.ref b199), .val (.ref b207), .val (.int (0 : Int32)), .unset, .val (.int (1 : Int32)), .val (.int (0 : Int32)), .unset]) rfl (XS.iload X238.here hx rfl (hb hby at_216) rfl (XS.iconst X238.here hx rfl (hb hby at_218) (XS.icmpNo X238.here hx rfl (hb hby at_219) rfl (flt (by decide : ¬ ((3 : Int32) < (3 : Int32)))).1 (XS.iload X238.here hx rfl (hb hby at_222) rfl kq)))))))) ?_
          by_cases hw2 : own_ws vc
          · skip
            obtain ⟨_, _, ⟨T239, L239, k239, n239⟩, -, X239, ⟨Lc239, hQ239, l239, y239, z239⟩, st239⟩ := Jvm.LawKit.callS X238 hx (y := (⟨"com/example/wayline/wayline/HeaderReaderAtEndPinLaw", "ws", "(C)Z"⟩ : MethodName)) hown (mvT hZ (own_w hw 153 rfl)) (mvT hZ (own_w hw 154 rfl)) (mvT hZ (own_w hw 2 rfl)) (mvT hZ (own_w hw 155 rfl)) (by decide) (backOf (W := 0) (rmWs1 l Z a0 hw [] vc T224.heap n0 Zs224 hw2) hZ (own_w hw 155 rfl) (own_w hw 2 rfl) (by decide) (by decide)) (g := (mkF m 224 #[.val (.int i0), .val (.int i1), .val (.int i2), .val (.int i3), .val (.int i4), .val (.int (3 : Int32)), .val (.int va), .val (.int vb), .val (.int vc), .val (.ref b184), .val (.ref b199), .val (.ref b207), .val (.int (0 : Int32)), .unset, .val (.int (1 : Int32)), .val (.int (0 : Int32)), .unset] [(.int vc)])) rfl (by rw [hml]; rfl) (argsL := [(.int vc)]) (rest := []) (lenOf pd_25 rfl) rfl (by show 2 * 0 + _ ≤ _; exact Nat.le_of_eq rfl) (hb hby at_224) (fun _ _ => ⟨rfl, e238, (by decide : 4 + 0 ≤ _), (by decide : 12 + 0 ≤ _)⟩)
            dsimp only [Pt.U, Pt.locs, Pt.cells, Pt.slots] at X239 l239 y239 z239 st239 hQ239
            have l239y := l239.symm
            clear l239
            subst l239y
            obtain rfl : k239 = 4 := y239
            obtain rfl : n239 = 12 := z239
            obtain ⟨rfl, N239q, e239⟩ := hQ239
            have N239 := Fr.app N238 N239q
            refine own_toW T239 (mkF m 257 #[.val (.int i0), .val (.int i1), .val (.int i2), .val (.int i3), .val (.int i4), .val (.int (3 : Int32)), .val (.int va), .val (.int vb), .val (.int vc), .val (.ref b184), .val (.ref b199), .val (.ref b207), .val (.int (0 : Int32)), .unset, .val (.int (1 : Int32)), .val (.int (0 : Int32)), .val (.int (1 : Int32))] [(.int (0 : Int32))]) (fun tq kq => st239 _ (XS.ifNo X239.here hx rfl (hb hby at_227) rfl ((if0 _ _).trans (feq (by decide : ¬ ((1 : Int32) = (0 : Int32)))).1) (XS.iconst X239.here hx rfl (hb hby at_230) (XS.goto X239.here hx rfl (pc0 := 231) (pc' := 235) rfl (hb hby at_231) (by decide) (by decide) (XS.istore X239.here hx rfl (hb hby at_235) rfl (l' := #[.val (.int i0), .val (.int i1), .val (.int i2), .val (.int i3), .val (.int i4), .val (.int (3 : Int32)), .val (.int va), .val (.int vb), .val (.int vc), .val (.ref b184), .val (.ref b199), .val (.ref b207), .val (.int (0 : Int32)), .unset, .val (.int (1 : Int32)), .val (.int (0 : Int32)), .val (.int (1 : Int32))]) rfl (XS.iload X239.here hx rfl (hb hby at_237) rfl (XS.ifNo X239.here hx rfl (hb hby at_239) rfl ((if0 _ _).trans (feq (by decide : ¬ ((1 : Int32) = (0 : Int32)))).1) (XS.iload X239.here hx rfl (hb hby at_242) rfl (XS.ifYes X239.here hx rfl (pc0 := 244) (pc' := 256) rfl (hb hby at_244) rfl ((if0 _ _).trans (teq (by decide : (0 : Int32) = (0 : Int32))).1) (by decide) (by decide) (XS.iconst X239.here hx rfl (hb hby at_256) kq)))))))))) ?_
            refine own_toW T239 (mkF m 350 #[.val (.int i0), .val (.int i1), .val (.int i2), .val (.int i3), .val (.int i4), .val (.int (3 : Int32)), .val (.int va), .val (.int vb), .val (.int vc), .val (.ref b184), .val (.ref b199), .val (.ref b207), .val (.int (0 : Int32)), .val (.int (0 : Int32)), .val (.int (1 : Int32)), .val (.int (0 : Int32)), .val (.int (1 : Int32))] [(.ref b207)]) (fun tq kq => XS.istore X239.here hx rfl (hb hby at_257) rfl (l' := #[.val (.int i0), .val (.int i1), .val (.int i2), .val (.int i3), .val (.int i4), .val (.int (3 : Int32)), .val (.int va), .val (.int vb), .val (.int vc), .val (.ref b184), .val (.ref b199), .val (.ref b207), .val (.int (0 : Int32)), .val (.int (0 : Int32)), .val (.int (1 : Int32)), .val (.int (0 : Int32)), .val (.int (1 : Int32))]) rfl (XS.goto X239.here hx rfl (pc0 := 259) (pc' := 348) rfl (hb hby at_259) (by decide) (by decide) (XS.aload X239.here hx rfl (hb hby at_348) rfl rfl kq))) ?_
            obtain ⟨cq240, kq240, q240a, q240b, q240c⟩ := isOf hZ e239 E224q
            obtain ⟨_, _, ⟨T240, L240, k240, n240⟩, -, X240, ⟨Lc240, hQ240, l240, y240, z240⟩, st240⟩ := X239.virtualBack hx (y := (⟨"com/example/wayline/wayline/HeaderReader", "atEnd", "()Z"⟩ : MethodName)) (z := (⟨"com/example/wayline/wayline/HeaderReader", "atEnd", "()Z"⟩ : MethodName)) hown (mvT hZ (own_w hw 35 rfl)) (mvT hZ (own_w hw 36 rfl)) (notFace_of_selects (args := #[]) (mvT hZ (own_w hw 38 rfl))) (mvT hZ (own_w hw 38 rfl)) (mvT hZ (own_w hw 37 rfl)) (by decide) (backOf (W := 0) (rmEnd l Z a0 hw [] b207 b199 t203 q1 3 (own_bl ([va, vb, vc] : List Int32)) G1 T224.heap n0 Zs224 f225 hG V224q P224q f227 f228 f229 f230 (by omega) (by omega)) hZ (own_w hw 39 rfl) (own_w hw 28 rfl) (by decide) (by decide)) q240a q240c (g := (mkF m 350 #[.val (.int i0), .val (.int i1), .val (.int i2), .val (.int i3), .val (.int i4), .val (.int (3 : Int32)), .val (.int va), .val (.int vb), .val (.int vc), .val (.ref b184), .val (.ref b199), .val (.ref b207), .val (.int (0 : Int32)), .val (.int (0 : Int32)), .val (.int (1 : Int32)), .val (.int (0 : Int32)), .val (.int (1 : Int32))] [(.ref b207)])) rfl (by rw [hml]; rfl) (Steps.refl _) (argsL := []) (rest := []) (lenOf pd_5 rfl) rfl (by show 2 * 0 + _ ≤ _; exact Nat.le_of_eq rfl) (hb hby at_350) (fun _ _ => ⟨rfl, e239, (by decide : 4 + 0 ≤ _), (by decide : 12 + 0 ≤ _)⟩)
            dsimp only [Pt.U, Pt.locs, Pt.cells, Pt.slots] at X240 l240 y240 z240 st240 hQ240
            have l240y := l240.symm
            clear l240
            subst l240y
            obtain rfl : k240 = 4 := y240
            obtain rfl : n240 = 12 := z240
            obtain ⟨rfl, N240q, e240⟩ := hQ240
            have N240 := Fr.app N239 N240q
            refine own_toW T240 (mkF m 353 #[.val (.int i0), .val (.int i1), .val (.int i2), .val (.int i3), .val (.int i4), .val (.int (3 : Int32)), .val (.int va), .val (.int vb), .val (.int vc), .val (.ref b184), .val (.ref b199), .val (.ref b207), .val (.int (0 : Int32)), .val (.int (0 : Int32)), .val (.int (1 : Int32)), .val (.int (0 : Int32)), .val (.int (1 : Int32))] [(.int (own_end q1 3))]) (fun tq kq => st240.trans kq) ?_
            rw [show (own_end q1 3) = (0 : Int32) from if_pos (Nat.lt_of_not_le fun hle => hw1 (own_chb hcvb ▸ hall 1 (by omega) (by omega)))]
            refine own_toW T240 (mkF m 363 #[.val (.int i0), .val (.int i1), .val (.int i2), .val (.int i3), .val (.int i4), .val (.int (3 : Int32)), .val (.int va), .val (.int vb), .val (.int vc), .val (.ref b184), .val (.ref b199), .val (.ref b207), .val (.int (0 : Int32)), .val (.int (0 : Int32)), .val (.int (1 : Int32)), .val (.int (0 : Int32)), .val (.int (1 : Int32))] [(.int (1 : Int32))]) (fun tq kq => XS.iload X240.here hx rfl (hb hby at_353) rfl (XS.icmpNo X240.here hx rfl (hb hby at_355) rfl (teq (by decide : (0 : Int32) = (0 : Int32))).2 (XS.iconst X240.here hx rfl (hb hby at_358) (XS.goto X240.here hx rfl (pc0 := 359) (pc' := 363) rfl (hb hby at_359) (by decide) (by decide) kq)))) ?_
            exact own_retZW X240 hS (by rw [e240]; exact hk) hx hret hlk (hb hby at_363) (by decide) (by decide) (Or.inr rfl) ⟨rfl, N240⟩
          · skip
            obtain ⟨_, _, ⟨T241, L241, k241, n241⟩, -, X241, ⟨Lc241, hQ241, l241, y241, z241⟩, st241⟩ := Jvm.LawKit.callS X238 hx (y := (⟨"com/example/wayline/wayline/HeaderReaderAtEndPinLaw", "ws", "(C)Z"⟩ : MethodName)) hown (mvT hZ (own_w hw 153 rfl)) (mvT hZ (own_w hw 154 rfl)) (mvT hZ (own_w hw 2 rfl)) (mvT hZ (own_w hw 155 rfl)) (by decide) (backOf (W := 0) (rmWs0 l Z a0 hw [] vc T224.heap n0 Zs224 hw2) hZ (own_w hw 155 rfl) (own_w hw 2 rfl) (by decide) (by decide)) (g := (mkF m 224 #[.val (.int i0), .val (.int i1), .val (.int i2), .val (.int i3), .val (.int i4), .val (.int (3 : Int32)), .val (.int va), .val (.int vb), .val (.int vc), .val (.ref b184), .val (.ref b199), .val (.ref b207), .val (.int (0 : Int32)), .unset, .val (.int (1 : Int32)), .val (.int (0 : Int32)), .unset] [(.int vc)])) rfl (by rw [hml]; rfl) (argsL := [(.int vc)]) (rest := []) (lenOf pd_25 rfl) rfl (by show 2 * 0 + _ ≤ _; exact Nat.le_of_eq rfl) (hb hby at_224) (fun _ _ => ⟨rfl, e238, (by decide : 4 + 0 ≤ _), (by decide : 12 + 0 ≤ _)⟩)
            dsimp only [Pt.U, Pt.locs, Pt.cells, Pt.slots] at X241 l241 y241 z241 st241 hQ241
            have l241y := l241.symm
            clear l241
            subst l241y
            obtain rfl : k241 = 4 := y241
            obtain rfl : n241 = 12 := z241
            obtain ⟨rfl, N241q, e241⟩ := hQ241
            have N241 := Fr.app N238 N241q
            refine own_toW T241 (mkF m 259 #[.val (.int i0), .val (.int i1), .val (.int i2), .val (.int i3), .val (.int i4), .val (.int (3 : Int32)), .val (.int va), .val (.int vb), .val (.int vc), .val (.ref b184), .val (.ref b199), .val (.ref b207), .val (.int (0 : Int32)), .val (.int (0 : Int32)), .val (.int (1 : Int32)), .val (.int (0 : Int32)), .val (.int (0 : Int32))] []) (fun tq kq => st241 _ (XS.ifYes X241.here hx rfl (pc0 := 227) (pc' := 234) rfl (hb hby at_227) rfl ((if0 _ _).trans (teq (by decide : (0 : Int32) = (0 : Int32))).1) (by decide) (by decide) (XS.iconst X241.here hx rfl (hb hby at_234) (XS.istore X241.here hx rfl (hb hby at_235) rfl (l' := #[.val (.int i0), .val (.int i1), .val (.int i2), .val (.int i3), .val (.int i4), .val (.int (3 : Int32)), .val (.int va), .val (.int vb), .val (.int vc), .val (.ref b184), .val (.ref b199), .val (.ref b207), .val (.int (0 : Int32)), .unset, .val (.int (1 : Int32)), .val (.int (0 : Int32)), .val (.int (0 : Int32))]) rfl (XS.iload X241.here hx rfl (hb hby at_237) rfl (XS.ifNo X241.here hx rfl (hb hby at_239) rfl ((if0 _ _).trans (feq (by decide : ¬ ((1 : Int32) = (0 : Int32)))).1) (XS.iload X241.here hx rfl (hb hby at_242) rfl (XS.ifYes X241.here hx rfl (pc0 := 244) (pc' := 256) rfl (hb hby at_244) rfl ((if0 _ _).trans (teq (by decide : (0 : Int32) = (0 : Int32))).1) (by decide) (by decide) (XS.iconst X241.here hx rfl (hb hby at_256) (XS.istore X241.here hx rfl (hb hby at_257) rfl (l' := #[.val (.int i0), .val (.int i1), .val (.int i2), .val (.int i3), .val (.int i4), .val (.int (3 : Int32)), .val (.int va), .val (.int vb), .val (.int vc), .val (.ref b184), .val (.ref b199), .val (.ref b207), .val (.int (0 : Int32)), .val (.int (0 : Int32)), .val (.int (1 : Int32)), .val (.int (0 : Int32)), .val (.int (0 : Int32))]) rfl kq)))))))))) ?_
            refine own_toW T241 (mkF m 350 #[.val (.int i0), .val (.int i1), .val (.int i2), .val (.int i3), .val (.int i4), .val (.int (3 : Int32)), .val (.int va), .val (.int vb), .val (.int vc), .val (.ref b184), .val (.ref b199), .val (.ref b207), .val (.int (0 : Int32)), .val (.int (0 : Int32)), .val (.int (1 : Int32)), .val (.int (0 : Int32)), .val (.int (0 : Int32))] [(.ref b207)]) (fun tq kq => XS.goto X241.here hx rfl (pc0 := 259) (pc' := 348) rfl (hb hby at_259) (by decide) (by decide) (XS.aload X241.here hx rfl (hb hby at_348) rfl rfl kq)) ?_
            obtain ⟨cq242, kq242, q242a, q242b, q242c⟩ := isOf hZ e241 E224q
            obtain ⟨_, _, ⟨T242, L242, k242, n242⟩, -, X242, ⟨Lc242, hQ242, l242, y242, z242⟩, st242⟩ := X241.virtualBack hx (y := (⟨"com/example/wayline/wayline/HeaderReader", "atEnd", "()Z"⟩ : MethodName)) (z := (⟨"com/example/wayline/wayline/HeaderReader", "atEnd", "()Z"⟩ : MethodName)) hown (mvT hZ (own_w hw 35 rfl)) (mvT hZ (own_w hw 36 rfl)) (notFace_of_selects (args := #[]) (mvT hZ (own_w hw 38 rfl))) (mvT hZ (own_w hw 38 rfl)) (mvT hZ (own_w hw 37 rfl)) (by decide) (backOf (W := 0) (rmEnd l Z a0 hw [] b207 b199 t203 q1 3 (own_bl ([va, vb, vc] : List Int32)) G1 T224.heap n0 Zs224 f225 hG V224q P224q f227 f228 f229 f230 (by omega) (by omega)) hZ (own_w hw 39 rfl) (own_w hw 28 rfl) (by decide) (by decide)) q242a q242c (g := (mkF m 350 #[.val (.int i0), .val (.int i1), .val (.int i2), .val (.int i3), .val (.int i4), .val (.int (3 : Int32)), .val (.int va), .val (.int vb), .val (.int vc), .val (.ref b184), .val (.ref b199), .val (.ref b207), .val (.int (0 : Int32)), .val (.int (0 : Int32)), .val (.int (1 : Int32)), .val (.int (0 : Int32)), .val (.int (0 : Int32))] [(.ref b207)])) rfl (by rw [hml]; rfl) (Steps.refl _) (argsL := []) (rest := []) (lenOf pd_5 rfl) rfl (by show 2 * 0 + _ ≤ _; exact Nat.le_of_eq rfl) (hb hby at_350) (fun _ _ => ⟨rfl, e241, (by decide : 4 + 0 ≤ _), (by decide : 12 + 0 ≤ _)⟩)
            dsimp only [Pt.U, Pt.locs, Pt.cells, Pt.slots] at X242 l242 y242 z242 st242 hQ242
            have l242y := l242.symm
            clear l242
            subst l242y
            obtain rfl : k242 = 4 := y242
            obtain rfl : n242 = 12 := z242
            obtain ⟨rfl, N242q, e242⟩ := hQ242
            have N242 := Fr.app N241 N242q
            refine own_toW T242 (mkF m 353 #[.val (.int i0), .val (.int i1), .val (.int i2), .val (.int i3), .val (.int i4), .val (.int (3 : Int32)), .val (.int va), .val (.int vb), .val (.int vc), .val (.ref b184), .val (.ref b199), .val (.ref b207), .val (.int (0 : Int32)), .val (.int (0 : Int32)), .val (.int (1 : Int32)), .val (.int (0 : Int32)), .val (.int (0 : Int32))] [(.int (own_end q1 3))]) (fun tq kq => st242.trans kq) ?_
            rw [show (own_end q1 3) = (0 : Int32) from if_pos (Nat.lt_of_not_le fun hle => hw1 (own_chb hcvb ▸ hall 1 (by omega) (by omega)))]
            refine own_toW T242 (mkF m 363 #[.val (.int i0), .val (.int i1), .val (.int i2), .val (.int i3), .val (.int i4), .val (.int (3 : Int32)), .val (.int va), .val (.int vb), .val (.int vc), .val (.ref b184), .val (.ref b199), .val (.ref b207), .val (.int (0 : Int32)), .val (.int (0 : Int32)), .val (.int (1 : Int32)), .val (.int (0 : Int32)), .val (.int (0 : Int32))] [(.int (1 : Int32))]) (fun tq kq => XS.iload X242.here hx rfl (hb hby at_353) rfl (XS.icmpNo X242.here hx rfl (hb hby at_355) rfl (teq (by decide : (0 : Int32) = (0 : Int32))).2 (XS.iconst X242.here hx rfl (hb hby at_358) (XS.goto X242.here hx rfl (pc0 := 359) (pc' := 363) rfl (hb hby at_359) (by decide) (by decide) kq)))) ?_
            exact own_retZW X242 hS (by rw [e242]; exact hk) hx hret hlk (hb hby at_363) (by decide) (by decide) (Or.inr rfl) ⟨rfl, N242⟩
      · skip
        obtain ⟨_, _, ⟨T243, L243, k243, n243⟩, -, X243, ⟨Lc243, hQ243, l243, y243, z243⟩, st243⟩ := Jvm.LawKit.callS X224 hx (y := (⟨"com/example/wayline/wayline/HeaderReaderAtEndPinLaw", "ws", "(C)Z"⟩ : MethodName)) hown (mvT hZ (own_w hw 153 rfl)) (mvT hZ (own_w hw 154 rfl)) (mvT hZ (own_w hw 2 rfl)) (mvT hZ (own_w hw 155 rfl)) (by decide) (backOf (W := 0) (rmWs0 l Z a0 hw [] va T224.heap n0 Zs224 hw0) hZ (own_w hw 155 rfl) (own_w hw 2 rfl) (by decide) (by decide)) (g := (mkF m 182 #[.val (.int i0), .val (.int i1), .val (.int i2), .val (.int i3), .val (.int i4), .val (.int (3 : Int32)), .val (.int va), .val (.int vb), .val (.int vc), .val (.ref b184), .val (.ref b199), .val (.ref b207), .val (.int (0 : Int32)), .unset, .unset, .unset, .unset] [(.int va)])) rfl (by rw [hml]; rfl) (argsL := [(.int va)]) (rest := []) (lenOf pd_25 rfl) rfl (by show 2 * 0 + _ ≤ _; exact Nat.le_of_eq rfl) (hb hby at_182) (fun _ _ => ⟨rfl, rfl, (by decide : 4 + 0 ≤ _), (by decide : 12 + 0 ≤ _)⟩)
        dsimp only [Pt.U, Pt.locs, Pt.cells, Pt.slots] at X243 l243 y243 z243 st243 hQ243
        have l243y := l243.symm
        clear l243
        subst l243y
        obtain rfl : k243 = 4 := y243
        obtain rfl : n243 = 12 := z243
        obtain ⟨rfl, N243q, e243⟩ := hQ243
        have N243 := Fr.app N224 N243q
        refine own_toW T243 (mkF m 203 #[.val (.int i0), .val (.int i1), .val (.int i2), .val (.int i3), .val (.int i4), .val (.int (3 : Int32)), .val (.int va), .val (.int vb), .val (.int vc), .val (.ref b184), .val (.ref b199), .val (.ref b207), .val (.int (0 : Int32)), .unset, .val (.int (0 : Int32)), .unset, .unset] [(.int vb)]) (fun tq kq => st243 _ (XS.ifYes X243.here hx rfl (pc0 := 185) (pc' := 192) rfl (hb hby at_185) rfl ((if0 _ _).trans (teq (by decide : (0 : Int32) = (0 : Int32))).1) (by decide) (by decide) (XS.iconst X243.here hx rfl (hb hby at_192) (XS.istore X243.here hx rfl (hb hby at_193) rfl (l' := #[.val (.int i0), .val (.int i1), .val (.int i2), .val (.int i3), .val (.int i4), .val (.int (3 : Int32)), .val (.int va), .val (.int vb), .val (.int vc), .val (.ref b184), .val (.ref b199), .val (.ref b207), .val (.int (0 : Int32)), .unset, .val (.int (0 : Int32)), .unset, .unset]) rfl (XS.iload X243.here hx rfl (hb hby at_195) rfl (XS.iconst X243.here hx rfl (hb hby at_197) (XS.icmpNo X243.here hx rfl (hb hby at_198) rfl (flt (by decide : ¬ ((3 : Int32) < (2 : Int32)))).1 (XS.iload X243.here hx rfl (hb hby at_201) rfl kq)))))))) ?_
        by_cases hw1 : own_ws vb
        · skip
          obtain ⟨_, _, ⟨T244, L244, k244, n244⟩, -, X244, ⟨Lc244, hQ244, l244, y244, z244⟩, st244⟩ := Jvm.LawKit.callS X243 hx (y := (⟨"com/example/wayline/wayline/HeaderReaderAtEndPinLaw", "ws", "(C)Z"⟩ : MethodName)) hown (mvT hZ (own_w hw 153 rfl)) (mvT hZ (own_w hw 154 rfl)) (mvT hZ (own_w hw 2 rfl)) (mvT hZ (own_w hw 155 rfl)) (by decide) (backOf (W := 0) (rmWs1 l Z a0 hw [] vb T224.heap n0 Zs224 hw1) hZ (own_w hw 155 rfl) (own_w hw 2 rfl) (by decide) (by decide)) (g := (mkF m 203 #[.val (.int i0), .val (.int i1), .val (.int i2), .val (.int i3), .val (.int i4), .val (.int (3 : Int32)), .val (.int va), .val (.int vb), .val (.int vc), .val (.ref b184), .val (.ref b199), .val (.ref b207), .val (.int (0 : Int32)), .unset, .val (.int (0 : Int32)), .unset, .unset] [(.int vb)])) rfl (by rw [hml]; rfl) (argsL := [(.int vb)]) (rest := []) (lenOf pd_25 rfl) rfl (by show 2 * 0 + _ ≤ _; exact Nat.le_of_eq rfl) (hb hby at_203) (fun _ _ => ⟨rfl, e243, (by decide : 4 + 0 ≤ _), (by decide : 12 + 0 ≤ _)⟩)
          dsimp only [Pt.U, Pt.locs, Pt.cells, Pt.slots] at X244 l244 y244 z244 st244 hQ244
          have l244y := l244.symm
          clear l244
          subst l244y
          obtain rfl : k244 = 4 := y244
          obtain rfl : n244 = 12 := z244
          obtain ⟨rfl, N244q, e244⟩ := hQ244
          have N244 := Fr.app N243 N244q
          refine own_toW T244 (mkF m 224 #[.val (.int i0), .val (.int i1), .val (.int i2), .val (.int i3), .val (.int i4), .val (.int (3 : Int32)), .val (.int va), .val (.int vb), .val (.int vc), .val (.ref b184), .val (.ref b199), .val (.ref b207), .val (.int (0 : Int32)), .unset, .val (.int (0 : Int32)), .val (.int (1 : Int32)), .unset] [(.int vc)]) (fun tq kq => st244 _ (XS.ifNo X244.here hx rfl (hb hby at_206) rfl ((if0 _ _).trans (feq (by decide : ¬ ((1 : Int32) = (0 : Int32)))).1) (XS.iconst X244.here hx rfl (hb hby at_209) (XS.goto X244.here hx rfl (pc0 := 210) (pc' := 214) rfl (hb hby at_210) (by decide) (by decide) (XS.istore X244.here hx rfl (hb hby at_214) rfl (l' := #[.val (.int i0), .val (.int i1), .val (.int i2), .val (.int i3), .val (.int i4), .val (.int (3 : Int32)), .val (.int va), .val (.int vb), .val (.int vc), .val (.ref b184), .val (.ref b199), .val (.ref b207), .val (.int (0 : Int32)), .unset, .val (.int (0 : Int32)), .val (.int (1 : Int32)), .unset]) rfl (XS.iload X244.here hx rfl (hb hby at_216) rfl (XS.iconst X244.here hx rfl (hb hby at_218) (XS.icmpNo X244.here hx rfl (hb hby at_219) rfl (flt (by decide : ¬ ((3 : Int32) < (3 : Int32)))).1 (XS.iload X244.here hx rfl (hb hby at_222) rfl kq))))))))) ?_
          by_cases hw2 : own_ws vc
          · skip
            obtain ⟨_, _, ⟨T245, L245, k245, n245⟩, -, X245, ⟨Lc245, hQ245, l245, y245, z245⟩, st245⟩ := Jvm.LawKit.callS X244 hx (y := (⟨"com/example/wayline/wayline/HeaderReaderAtEndPinLaw", "ws", "(C)Z"⟩ : MethodName)) hown (mvT hZ (own_w hw 153 rfl)) (mvT hZ (own_w hw 154 rfl)) (mvT hZ (own_w hw 2 rfl)) (mvT hZ (own_w hw 155 rfl)) (by decide) (backOf (W := 0) (rmWs1 l Z a0 hw [] vc T224.heap n0 Zs224 hw2) hZ (own_w hw 155 rfl) (own_w hw 2 rfl) (by decide) (by decide)) (g := (mkF m 224 #[.val (.int i0), .val (.int i1), .val (.int i2), .val (.int i3), .val (.int i4), .val (.int (3 : Int32)), .val (.int va), .val (.int vb), .val (.int vc), .val (.ref b184), .val (.ref b199), .val (.ref b207), .val (.int (0 : Int32)), .unset, .val (.int (0 : Int32)), .val (.int (1 : Int32)), .unset] [(.int vc)])) rfl (by rw [hml]; rfl) (argsL := [(.int vc)]) (rest := []) (lenOf pd_25 rfl) rfl (by show 2 * 0 + _ ≤ _; exact Nat.le_of_eq rfl) (hb hby at_224) (fun _ _ => ⟨rfl, e244, (by decide : 4 + 0 ≤ _), (by decide : 12 + 0 ≤ _)⟩)
            dsimp only [Pt.U, Pt.locs, Pt.cells, Pt.slots] at X245 l245 y245 z245 st245 hQ245
            have l245y := l245.symm
            clear l245
            subst l245y
            obtain rfl : k245 = 4 := y245
            obtain rfl : n245 = 12 := z245
            obtain ⟨rfl, N245q, e245⟩ := hQ245
            have N245 := Fr.app N244 N245q
            refine own_toW T245 (mkF m 348 #[.val (.int i0), .val (.int i1), .val (.int i2), .val (.int i3), .val (.int i4), .val (.int (3 : Int32)), .val (.int va), .val (.int vb), .val (.int vc), .val (.ref b184), .val (.ref b199), .val (.ref b207), .val (.int (0 : Int32)), .val (.int (0 : Int32)), .val (.int (0 : Int32)), .val (.int (1 : Int32)), .val (.int (1 : Int32))] []) (fun tq kq => st245 _ (XS.ifNo X245.here hx rfl (hb hby at_227) rfl ((if0 _ _).trans (feq (by decide : ¬ ((1 : Int32) = (0 : Int32)))).1) (XS.iconst X245.here hx rfl (hb hby at_230) (XS.goto X245.here hx rfl (pc0 := 231) (pc' := 235) rfl (hb hby at_231) (by decide) (by decide) (XS.istore X245.here hx rfl (hb hby at_235) rfl (l' := #[.val (.int i0), .val (.int i1), .val (.int i2), .val (.int i3), .val (.int i4), .val (.int (3 : Int32)), .val (.int va), .val (.int vb), .val (.int vc), .val (.ref b184), .val (.ref b199), .val (.ref b207), .val (.int (0 : Int32)), .unset, .val (.int (0 : Int32)), .val (.int (1 : Int32)), .val (.int (1 : Int32))]) rfl (XS.iload X245.here hx rfl (hb hby at_237) rfl (XS.ifYes X245.here hx rfl (pc0 := 239) (pc' := 256) rfl (hb hby at_239) rfl ((if0 _ _).trans (teq (by decide : (0 : Int32) = (0 : Int32))).1) (by decide) (by decide) (XS.iconst X245.here hx rfl (hb hby at_256) (XS.istore X245.here hx rfl (hb hby at_257) rfl (l' := #[.val (.int i0), .val (.int i1), .val (.int i2), .val (.int i3), .val (.int i4), .val (.int (3 : Int32)), .val (.int va), .val (.int vb), .val (.int vc), .val (.ref b184), .val (.ref b199), .val (.ref b207), .val (.int (0 : Int32)), .val (.int (0 : Int32)), .val (.int (0 : Int32)), .val (.int (1 : Int32)), .val (.int (1 : Int32))]) rfl (XS.goto X245.here hx rfl (pc0 := 259) (pc' := 348) rfl (hb hby at_259) (by decide) (by decide) kq)))))))))) ?_
            refine own_toW T245 (mkF m 350 #[.val (.int i0), .val (.int i1), .val (.int i2), .val (.int i3), .val (.int i4), .val (.int (3 : Int32)), .val (.int va), .val (.int vb), .val (.int vc), .val (.ref b184), .val (.ref b199), .val (.ref b207), .val (.int (0 : Int32)), .val (.int (0 : Int32)), .val (.int (0 : Int32)), .val (.int (1 : Int32)), .val (.int (1 : Int32))] [(.ref b207)]) (fun tq kq => XS.aload X245.here hx rfl (hb hby at_348) rfl rfl kq) ?_
            obtain ⟨cq246, kq246, q246a, q246b, q246c⟩ := isOf hZ e245 E224q
            obtain ⟨_, _, ⟨T246, L246, k246, n246⟩, -, X246, ⟨Lc246, hQ246, l246, y246, z246⟩, st246⟩ := X245.virtualBack hx (y := (⟨"com/example/wayline/wayline/HeaderReader", "atEnd", "()Z"⟩ : MethodName)) (z := (⟨"com/example/wayline/wayline/HeaderReader", "atEnd", "()Z"⟩ : MethodName)) hown (mvT hZ (own_w hw 35 rfl)) (mvT hZ (own_w hw 36 rfl)) (notFace_of_selects (args := #[]) (mvT hZ (own_w hw 38 rfl))) (mvT hZ (own_w hw 38 rfl)) (mvT hZ (own_w hw 37 rfl)) (by decide) (backOf (W := 0) (rmEnd l Z a0 hw [] b207 b199 t203 q1 3 (own_bl ([va, vb, vc] : List Int32)) G1 T224.heap n0 Zs224 f225 hG V224q P224q f227 f228 f229 f230 (by omega) (by omega)) hZ (own_w hw 39 rfl) (own_w hw 28 rfl) (by decide) (by decide)) q246a q246c (g := (mkF m 350 #[.val (.int i0), .val (.int i1), .val (.int i2), .val (.int i3), .val (.int i4), .val (.int (3 : Int32)), .val (.int va), .val (.int vb), .val (.int vc), .val (.ref b184), .val (.ref b199), .val (.ref b207), .val (.int (0 : Int32)), .val (.int (0 : Int32)), .val (.int (0 : Int32)), .val (.int (1 : Int32)), .val (.int (1 : Int32))] [(.ref b207)])) rfl (by rw [hml]; rfl) (Steps.refl _) (argsL := []) (rest := []) (lenOf pd_5 rfl) rfl (by show 2 * 0 + _ ≤ _; exact Nat.le_of_eq rfl) (hb hby at_350) (fun _ _ => ⟨rfl, e245, (by decide : 4 + 0 ≤ _), (by decide : 12 + 0 ≤ _)⟩)
            dsimp only [Pt.U, Pt.locs, Pt.cells, Pt.slots] at X246 l246 y246 z246 st246 hQ246
            have l246y := l246.symm
            clear l246
            subst l246y
            obtain rfl : k246 = 4 := y246
            obtain rfl : n246 = 12 := z246
            obtain ⟨rfl, N246q, e246⟩ := hQ246
            have N246 := Fr.app N245 N246q
            refine own_toW T246 (mkF m 353 #[.val (.int i0), .val (.int i1), .val (.int i2), .val (.int i3), .val (.int i4), .val (.int (3 : Int32)), .val (.int va), .val (.int vb), .val (.int vc), .val (.ref b184), .val (.ref b199), .val (.ref b207), .val (.int (0 : Int32)), .val (.int (0 : Int32)), .val (.int (0 : Int32)), .val (.int (1 : Int32)), .val (.int (1 : Int32))] [(.int (own_end q1 3))]) (fun tq kq => st246.trans kq) ?_
            rw [show (own_end q1 3) = (0 : Int32) from if_pos (Nat.lt_of_not_le fun hle => hw0 (own_chb hcva ▸ hall 0 (by omega) (by omega)))]
            refine own_toW T246 (mkF m 363 #[.val (.int i0), .val (.int i1), .val (.int i2), .val (.int i3), .val (.int i4), .val (.int (3 : Int32)), .val (.int va), .val (.int vb), .val (.int vc), .val (.ref b184), .val (.ref b199), .val (.ref b207), .val (.int (0 : Int32)), .val (.int (0 : Int32)), .val (.int (0 : Int32)), .val (.int (1 : Int32)), .val (.int (1 : Int32))] [(.int (1 : Int32))]) (fun tq kq => XS.iload X246.here hx rfl (hb hby at_353) rfl (XS.icmpNo X246.here hx rfl (hb hby at_355) rfl (teq (by decide : (0 : Int32) = (0 : Int32))).2 (XS.iconst X246.here hx rfl (hb hby at_358) (XS.goto X246.here hx rfl (pc0 := 359) (pc' := 363) rfl (hb hby at_359) (by decide) (by decide) kq)))) ?_
            exact own_retZW X246 hS (by rw [e246]; exact hk) hx hret hlk (hb hby at_363) (by decide) (by decide) (Or.inr rfl) ⟨rfl, N246⟩
          · skip
            obtain ⟨_, _, ⟨T247, L247, k247, n247⟩, -, X247, ⟨Lc247, hQ247, l247, y247, z247⟩, st247⟩ := Jvm.LawKit.callS X244 hx (y := (⟨"com/example/wayline/wayline/HeaderReaderAtEndPinLaw", "ws", "(C)Z"⟩ : MethodName)) hown (mvT hZ (own_w hw 153 rfl)) (mvT hZ (own_w hw 154 rfl)) (mvT hZ (own_w hw 2 rfl)) (mvT hZ (own_w hw 155 rfl)) (by decide) (backOf (W := 0) (rmWs0 l Z a0 hw [] vc T224.heap n0 Zs224 hw2) hZ (own_w hw 155 rfl) (own_w hw 2 rfl) (by decide) (by decide)) (g := (mkF m 224 #[.val (.int i0), .val (.int i1), .val (.int i2), .val (.int i3), .val (.int i4), .val (.int (3 : Int32)), .val (.int va), .val (.int vb), .val (.int vc), .val (.ref b184), .val (.ref b199), .val (.ref b207), .val (.int (0 : Int32)), .unset, .val (.int (0 : Int32)), .val (.int (1 : Int32)), .unset] [(.int vc)])) rfl (by rw [hml]; rfl) (argsL := [(.int vc)]) (rest := []) (lenOf pd_25 rfl) rfl (by show 2 * 0 + _ ≤ _; exact Nat.le_of_eq rfl) (hb hby at_224) (fun _ _ => ⟨rfl, e244, (by decide : 4 + 0 ≤ _), (by decide : 12 + 0 ≤ _)⟩)
            dsimp only [Pt.U, Pt.locs, Pt.cells, Pt.slots] at X247 l247 y247 z247 st247 hQ247
            have l247y := l247.symm
            clear l247
            subst l247y
            obtain rfl : k247 = 4 := y247
            obtain rfl : n247 = 12 := z247
            obtain ⟨rfl, N247q, e247⟩ := hQ247
            have N247 := Fr.app N244 N247q
            refine own_toW T247 (mkF m 350 #[.val (.int i0), .val (.int i1), .val (.int i2), .val (.int i3), .val (.int i4), .val (.int (3 : Int32)), .val (.int va), .val (.int vb), .val (.int vc), .val (.ref b184), .val (.ref b199), .val (.ref b207), .val (.int (0 : Int32)), .val (.int (0 : Int32)), .val (.int (0 : Int32)), .val (.int (1 : Int32)), .val (.int (0 : Int32))] [(.ref b207)]) (fun tq kq => st247 _ (XS.ifYes X247.here hx rfl (pc0 := 227) (pc' := 234) rfl (hb hby at_227) rfl ((if0 _ _).trans (teq (by decide : (0 : Int32) = (0 : Int32))).1) (by decide) (by decide) (XS.iconst X247.here hx rfl (hb hby at_234) (XS.istore X247.here hx rfl (hb hby at_235) rfl (l' := #[.val (.int i0), .val (.int i1), .val (.int i2), .val (.int i3), .val (.int i4), .val (.int (3 : Int32)), .val (.int va), .val (.int vb), .val (.int vc), .val (.ref b184), .val (.ref b199), .val (.ref b207), .val (.int (0 : Int32)), .unset, .val (.int (0 : Int32)), .val (.int (1 : Int32)), .val (.int (0 : Int32))]) rfl (XS.iload X247.here hx rfl (hb hby at_237) rfl (XS.ifYes X247.here hx rfl (pc0 := 239) (pc' := 256) rfl (hb hby at_239) rfl ((if0 _ _).trans (teq (by decide : (0 : Int32) = (0 : Int32))).1) (by decide) (by decide) (XS.iconst X247.here hx rfl (hb hby at_256) (XS.istore X247.here hx rfl (hb hby at_257) rfl (l' := #[.val (.int i0), .val (.int i1), .val (.int i2), .val (.int i3), .val (.int i4), .val (.int (3 : Int32)), .val (.int va), .val (.int vb), .val (.int vc), .val (.ref b184), .val (.ref b199), .val (.ref b207), .val (.int (0 : Int32)), .val (.int (0 : Int32)), .val (.int (0 : Int32)), .val (.int (1 : Int32)), .val (.int (0 : Int32))]) rfl (XS.goto X247.here hx rfl (pc0 := 259) (pc' := 348) rfl (hb hby at_259) (by decide) (by decide) (XS.aload X247.here hx rfl (hb hby at_348) rfl rfl kq)))))))))) ?_
            obtain ⟨cq248, kq248, q248a, q248b, q248c⟩ := isOf hZ e247 E224q
            obtain ⟨_, _, ⟨T248, L248, k248, n248⟩, -, X248, ⟨Lc248, hQ248, l248, y248, z248⟩, st248⟩ := X247.virtualBack hx (y := (⟨"com/example/wayline/wayline/HeaderReader", "atEnd", "()Z"⟩ : MethodName)) (z := (⟨"com/example/wayline/wayline/HeaderReader", "atEnd", "()Z"⟩ : MethodName)) hown (mvT hZ (own_w hw 35 rfl)) (mvT hZ (own_w hw 36 rfl)) (notFace_of_selects (args := #[]) (mvT hZ (own_w hw 38 rfl))) (mvT hZ (own_w hw 38 rfl)) (mvT hZ (own_w hw 37 rfl)) (by decide) (backOf (W := 0) (rmEnd l Z a0 hw [] b207 b199 t203 q1 3 (own_bl ([va, vb, vc] : List Int32)) G1 T224.heap n0 Zs224 f225 hG V224q P224q f227 f228 f229 f230 (by omega) (by omega)) hZ (own_w hw 39 rfl) (own_w hw 28 rfl) (by decide) (by decide)) q248a q248c (g := (mkF m 350 #[.val (.int i0), .val (.int i1), .val (.int i2), .val (.int i3), .val (.int i4), .val (.int (3 : Int32)), .val (.int va), .val (.int vb), .val (.int vc), .val (.ref b184), .val (.ref b199), .val (.ref b207), .val (.int (0 : Int32)), .val (.int (0 : Int32)), .val (.int (0 : Int32)), .val (.int (1 : Int32)), .val (.int (0 : Int32))] [(.ref b207)])) rfl (by rw [hml]; rfl) (Steps.refl _) (argsL := []) (rest := []) (lenOf pd_5 rfl) rfl (by show 2 * 0 + _ ≤ _; exact Nat.le_of_eq rfl) (hb hby at_350) (fun _ _ => ⟨rfl, e247, (by decide : 4 + 0 ≤ _), (by decide : 12 + 0 ≤ _)⟩)
            dsimp only [Pt.U, Pt.locs, Pt.cells, Pt.slots] at X248 l248 y248 z248 st248 hQ248
            have l248y := l248.symm
            clear l248
            subst l248y
            obtain rfl : k248 = 4 := y248
            obtain rfl : n248 = 12 := z248
            obtain ⟨rfl, N248q, e248⟩ := hQ248
            have N248 := Fr.app N247 N248q
            refine own_toW T248 (mkF m 353 #[.val (.int i0), .val (.int i1), .val (.int i2), .val (.int i3), .val (.int i4), .val (.int (3 : Int32)), .val (.int va), .val (.int vb), .val (.int vc), .val (.ref b184), .val (.ref b199), .val (.ref b207), .val (.int (0 : Int32)), .val (.int (0 : Int32)), .val (.int (0 : Int32)), .val (.int (1 : Int32)), .val (.int (0 : Int32))] [(.int (own_end q1 3))]) (fun tq kq => st248.trans kq) ?_
            rw [show (own_end q1 3) = (0 : Int32) from if_pos (Nat.lt_of_not_le fun hle => hw0 (own_chb hcva ▸ hall 0 (by omega) (by omega)))]
            refine own_toW T248 (mkF m 363 #[.val (.int i0), .val (.int i1), .val (.int i2), .val (.int i3), .val (.int i4), .val (.int (3 : Int32)), .val (.int va), .val (.int vb), .val (.int vc), .val (.ref b184), .val (.ref b199), .val (.ref b207), .val (.int (0 : Int32)), .val (.int (0 : Int32)), .val (.int (0 : Int32)), .val (.int (1 : Int32)), .val (.int (0 : Int32))] [(.int (1 : Int32))]) (fun tq kq => XS.iload X248.here hx rfl (hb hby at_353) rfl (XS.icmpNo X248.here hx rfl (hb hby at_355) rfl (teq (by decide : (0 : Int32) = (0 : Int32))).2 (XS.iconst X248.here hx rfl (hb hby at_358) (XS.goto X248.here hx rfl (pc0 := 359) (pc' := 363) rfl (hb hby at_359) (by decide) (by decide) kq)))) ?_
            exact own_retZW X248 hS (by rw [e248]; exact hk) hx hret hlk (hb hby at_363) (by decide) (by decide) (Or.inr rfl) ⟨rfl, N248⟩
        · skip
          obtain ⟨_, _, ⟨T249, L249, k249, n249⟩, -, X249, ⟨Lc249, hQ249, l249, y249, z249⟩, st249⟩ := Jvm.LawKit.callS X243 hx (y := (⟨"com/example/wayline/wayline/HeaderReaderAtEndPinLaw", "ws", "(C)Z"⟩ : MethodName)) hown (mvT hZ (own_w hw 153 rfl)) (mvT hZ (own_w hw 154 rfl)) (mvT hZ (own_w hw 2 rfl)) (mvT hZ (own_w hw 155 rfl)) (by decide) (backOf (W := 0) (rmWs0 l Z a0 hw [] vb T224.heap n0 Zs224 hw1) hZ (own_w hw 155 rfl) (own_w hw 2 rfl) (by decide) (by decide)) (g := (mkF m 203 #[.val (.int i0), .val (.int i1), .val (.int i2), .val (.int i3), .val (.int i4), .val (.int (3 : Int32)), .val (.int va), .val (.int vb), .val (.int vc), .val (.ref b184), .val (.ref b199), .val (.ref b207), .val (.int (0 : Int32)), .unset, .val (.int (0 : Int32)), .unset, .unset] [(.int vb)])) rfl (by rw [hml]; rfl) (argsL := [(.int vb)]) (rest := []) (lenOf pd_25 rfl) rfl (by show 2 * 0 + _ ≤ _; exact Nat.le_of_eq rfl) (hb hby at_203) (fun _ _ => ⟨rfl, e243, (by decide : 4 + 0 ≤ _), (by decide : 12 + 0 ≤ _)⟩)
          dsimp only [Pt.U, Pt.locs, Pt.cells, Pt.slots] at X249 l249 y249 z249 st249 hQ249
          have l249y := l249.symm
          clear l249
          subst l249y
          obtain rfl : k249 = 4 := y249
          obtain rfl : n249 = 12 := z249
          obtain ⟨rfl, N249q, e249⟩ := hQ249
          have N249 := Fr.app N243 N249q
          refine own_toW T249 (mkF m 224 #[.val (.int i0), .val (.int i1), .val (.int i2), .val (.int i3), .val (.int i4), .val (.int (3 : Int32)), .val (.int va), .val (.int vb), .val (.int vc), .val (.ref b184), .val (.ref b199), .val (.ref b207), .val (.int (0 : Int32)), .unset, .val (.int (0 : Int32)), .val (.int (0 : Int32)), .unset] [(.int vc)]) (fun tq kq => st249 _ (XS.ifYes X249.here hx rfl (pc0 := 206) (pc' := 213) rfl (hb hby at_206) rfl ((if0 _ _).trans (teq (by decide : (0 : Int32) = (0 : Int32))).1) (by decide) (by decide) (XS.iconst X249.here hx rfl (hb hby at_213) (XS.istore X249.here hx rfl (hb hby at_214) rfl (l' := #[.val (.int i0), .val (.int i1), .val (.int i2), .val (.int i3), .val (.int i4), .val (.int (3 : Int32)), .val (.int va), .val (.int vb), .val (.int vc), .val (.ref b184), .val (.ref b199), .val (.ref b207), .val (.int (0 : Int32)), .unset, .val (.int (0 : Int32)), .val (.int (0 : Int32)), .unset]) rfl (XS.iload X249.here hx rfl (hb hby at_216) rfl (XS.iconst X249.here hx rfl (hb hby at_218) (XS.icmpNo X249.here hx rfl (hb hby at_219) rfl (flt (by decide : ¬ ((3 : Int32) < (3 : Int32)))).1 (XS.iload X249.here hx rfl (hb hby at_222) rfl kq)))))))) ?_
          by_cases hw2 : own_ws vc
          · skip
            obtain ⟨_, _, ⟨T250, L250, k250, n250⟩, -, X250, ⟨Lc250, hQ250, l250, y250, z250⟩, st250⟩ := Jvm.LawKit.callS X249 hx (y := (⟨"com/example/wayline/wayline/HeaderReaderAtEndPinLaw", "ws", "(C)Z"⟩ : MethodName)) hown (mvT hZ (own_w hw 153 rfl)) (mvT hZ (own_w hw 154 rfl)) (mvT hZ (own_w hw 2 rfl)) (mvT hZ (own_w hw 155 rfl)) (by decide) (backOf (W := 0) (rmWs1 l Z a0 hw [] vc T224.heap n0 Zs224 hw2) hZ (own_w hw 155 rfl) (own_w hw 2 rfl) (by decide) (by decide)) (g := (mkF m 224 #[.val (.int i0), .val (.int i1), .val (.int i2), .val (.int i3), .val (.int i4), .val (.int (3 : Int32)), .val (.int va), .val (.int vb), .val (.int vc), .val (.ref b184), .val (.ref b199), .val (.ref b207), .val (.int (0 : Int32)), .unset, .val (.int (0 : Int32)), .val (.int (0 : Int32)), .unset] [(.int vc)])) rfl (by rw [hml]; rfl) (argsL := [(.int vc)]) (rest := []) (lenOf pd_25 rfl) rfl (by show 2 * 0 + _ ≤ _; exact Nat.le_of_eq rfl) (hb hby at_224) (fun _ _ => ⟨rfl, e249, (by decide : 4 + 0 ≤ _), (by decide : 12 + 0 ≤ _)⟩)
            dsimp only [Pt.U, Pt.locs, Pt.cells, Pt.slots] at X250 l250 y250 z250 st250 hQ250
            have l250y := l250.symm
            clear l250
            subst l250y
            obtain rfl : k250 = 4 := y250
            obtain rfl : n250 = 12 := z250
            obtain ⟨rfl, N250q, e250⟩ := hQ250
            have N250 := Fr.app N249 N250q
            refine own_toW T250 (mkF m 348 #[.val (.int i0), .val (.int i1), .val (.int i2), .val (.int i3), .val (.int i4), .val (.int (3 : Int32)), .val (.int va), .val (.int vb), .val (.int vc), .val (.ref b184), .val (.ref b199), .val (.ref b207), .val (.int (0 : Int32)), .val (.int (0 : Int32)), .val (.int (0 : Int32)), .val (.int (0 : Int32)), .val (.int (1 : Int32))] []) (fun tq kq => st250 _ (XS.ifNo X250.here hx rfl (hb hby at_227) rfl ((if0 _ _).trans (feq (by decide : ¬ ((1 : Int32) = (0 : Int32)))).1) (XS.iconst X250.here hx rfl (hb hby at_230) (XS.goto X250.here hx rfl (pc0 := 231) (pc' := 235) rfl (hb hby at_231) (by decide) (by decide) (XS.istore X250.here hx rfl (hb hby at_235) rfl (l' := #[.val (.int i0), .val (.int i1), .val (.int i2), .val (.int i3), .val (.int i4), .val (.int (3 : Int32)), .val (.int va), .val (.int vb), .val (.int vc), .val (.ref b184), .val (.ref b199), .val (.ref b207), .val (.int (0 : Int32)), .unset, .val (.int (0 : Int32)), .val (.int (0 : Int32)), .val (.int (1 : Int32))]) rfl (XS.iload X250.here hx rfl (hb hby at_237) rfl (XS.ifYes X250.here hx rfl (pc0 := 239) (pc' := 256) rfl (hb hby at_239) rfl ((if0 _ _).trans (teq (by decide : (0 : Int32) = (0 : Int32))).1) (by decide) (by decide) (XS.iconst X250.here hx rfl (hb hby at_256) (XS.istore X250.here hx rfl (hb hby at_257) rfl (l' := #[.val (.int i0), .val (.int i1), .val (.int i2), .val (.int i3), .val (.int i4), .val (.int (3 : Int32)), .val (.int va), .val (.int vb), .val (.int vc), .val (.ref b184), .val (.ref b199), .val (.ref b207), .val (.int (0 : Int32)), .val (.int (0 : Int32)), .val (.int (0 : Int32)), .val (.int (0 : Int32)), .val (.int (1 : Int32))]) rfl (XS.goto X250.here hx rfl (pc0 := 259) (pc' := 348) rfl (hb hby at_259) (by decide) (by decide) kq)))))))))) ?_
            refine own_toW T250 (mkF m 350 #[.val (.int i0), .val (.int i1), .val (.int i2), .val (.int i3), .val (.int i4), .val (.int (3 : Int32)), .val (.int va), .val (.int vb), .val (.int vc), .val (.ref b184), .val (.ref b199), .val (.ref b207), .val (.int (0 : Int32)), .val (.int (0 : Int32)), .val (.int (0 : Int32)), .val (.int (0 : Int32)), .val (.int (1 : Int32))] [(.ref b207)]) (fun tq kq => XS.aload X250.here hx rfl (hb hby at_348) rfl rfl kq) ?_
            obtain ⟨cq251, kq251, q251a, q251b, q251c⟩ := isOf hZ e250 E224q
            obtain ⟨_, _, ⟨T251, L251, k251, n251⟩, -, X251, ⟨Lc251, hQ251, l251, y251, z251⟩, st251⟩ := X250.virtualBack hx (y := (⟨"com/example/wayline/wayline/HeaderReader", "atEnd", "()Z"⟩ : MethodName)) (z := (⟨"com/example/wayline/wayline/HeaderReader", "atEnd", "()Z"⟩ : MethodName)) hown (mvT hZ (own_w hw 35 rfl)) (mvT hZ (own_w hw 36 rfl)) (notFace_of_selects (args := #[]) (mvT hZ (own_w hw 38 rfl))) (mvT hZ (own_w hw 38 rfl)) (mvT hZ (own_w hw 37 rfl)) (by decide) (backOf (W := 0) (rmEnd l Z a0 hw [] b207 b199 t203 q1 3 (own_bl ([va, vb, vc] : List Int32)) G1 T224.heap n0 Zs224 f225 hG V224q P224q f227 f228 f229 f230 (by omega) (by omega)) hZ (own_w hw 39 rfl) (own_w hw 28 rfl) (by decide) (by decide)) q251a q251c (g := (mkF m 350 #[.val (.int i0), .val (.int i1), .val (.int i2), .val (.int i3), .val (.int i4), .val (.int (3 : Int32)), .val (.int va), .val (.int vb), .val (.int vc), .val (.ref b184), .val (.ref b199), .val (.ref b207), .val (.int (0 : Int32)), .val (.int (0 : Int32)), .val (.int (0 : Int32)), .val (.int (0 : Int32)), .val (.int (1 : Int32))] [(.ref b207)])) rfl (by rw [hml]; rfl) (Steps.refl _) (argsL := []) (rest := []) (lenOf pd_5 rfl) rfl (by show 2 * 0 + _ ≤ _; exact Nat.le_of_eq rfl) (hb hby at_350) (fun _ _ => ⟨rfl, e250, (by decide : 4 + 0 ≤ _), (by decide : 12 + 0 ≤ _)⟩)
            dsimp only [Pt.U, Pt.locs, Pt.cells, Pt.slots] at X251 l251 y251 z251 st251 hQ251
            have l251y := l251.symm
            clear l251
            subst l251y
            obtain rfl : k251 = 4 := y251
            obtain rfl : n251 = 12 := z251
            obtain ⟨rfl, N251q, e251⟩ := hQ251
            have N251 := Fr.app N250 N251q
            refine own_toW T251 (mkF m 353 #[.val (.int i0), .val (.int i1), .val (.int i2), .val (.int i3), .val (.int i4), .val (.int (3 : Int32)), .val (.int va), .val (.int vb), .val (.int vc), .val (.ref b184), .val (.ref b199), .val (.ref b207), .val (.int (0 : Int32)), .val (.int (0 : Int32)), .val (.int (0 : Int32)), .val (.int (0 : Int32)), .val (.int (1 : Int32))] [(.int (own_end q1 3))]) (fun tq kq => st251.trans kq) ?_
            rw [show (own_end q1 3) = (0 : Int32) from if_pos (Nat.lt_of_not_le fun hle => hw0 (own_chb hcva ▸ hall 0 (by omega) (by omega)))]
            refine own_toW T251 (mkF m 363 #[.val (.int i0), .val (.int i1), .val (.int i2), .val (.int i3), .val (.int i4), .val (.int (3 : Int32)), .val (.int va), .val (.int vb), .val (.int vc), .val (.ref b184), .val (.ref b199), .val (.ref b207), .val (.int (0 : Int32)), .val (.int (0 : Int32)), .val (.int (0 : Int32)), .val (.int (0 : Int32)), .val (.int (1 : Int32))] [(.int (1 : Int32))]) (fun tq kq => XS.iload X251.here hx rfl (hb hby at_353) rfl (XS.icmpNo X251.here hx rfl (hb hby at_355) rfl (teq (by decide : (0 : Int32) = (0 : Int32))).2 (XS.iconst X251.here hx rfl (hb hby at_358) (XS.goto X251.here hx rfl (pc0 := 359) (pc' := 363) rfl (hb hby at_359) (by decide) (by decide) kq)))) ?_
            exact own_retZW X251 hS (by rw [e251]; exact hk) hx hret hlk (hb hby at_363) (by decide) (by decide) (Or.inr rfl) ⟨rfl, N251⟩
          · skip
            obtain ⟨_, _, ⟨T252, L252, k252, n252⟩, -, X252, ⟨Lc252, hQ252, l252, y252, z252⟩, st252⟩ := Jvm.LawKit.callS X249 hx (y := (⟨"com/example/wayline/wayline/HeaderReaderAtEndPinLaw", "ws", "(C)Z"⟩ : MethodName)) hown (mvT hZ (own_w hw 153 rfl)) (mvT hZ (own_w hw 154 rfl)) (mvT hZ (own_w hw 2 rfl)) (mvT hZ (own_w hw 155 rfl)) (by decide) (backOf (W := 0) (rmWs0 l Z a0 hw [] vc T224.heap n0 Zs224 hw2) hZ (own_w hw 155 rfl) (own_w hw 2 rfl) (by decide) (by decide)) (g := (mkF m 224 #[.val (.int i0), .val (.int i1), .val (.int i2), .val (.int i3), .val (.int i4), .val (.int (3 : Int32)), .val (.int va), .val (.int vb), .val (.int vc), .val (.ref b184), .val (.ref b199), .val (.ref b207), .val (.int (0 : Int32)), .unset, .val (.int (0 : Int32)), .val (.int (0 : Int32)), .unset] [(.int vc)])) rfl (by rw [hml]; rfl) (argsL := [(.int vc)]) (rest := []) (lenOf pd_25 rfl) rfl (by show 2 * 0 + _ ≤ _; exact Nat.le_of_eq rfl) (hb hby at_224) (fun _ _ => ⟨rfl, e249, (by decide : 4 + 0 ≤ _), (by decide : 12 + 0 ≤ _)⟩)
            dsimp only [Pt.U, Pt.locs, Pt.cells, Pt.slots] at X252 l252 y252 z252 st252 hQ252
            have l252y := l252.symm
            clear l252
            subst l252y
            obtain rfl : k252 = 4 := y252
            obtain rfl : n252 = 12 := z252
            obtain ⟨rfl, N252q, e252⟩ := hQ252
            have N252 := Fr.app N249 N252q
            refine own_toW T252 (mkF m 350 #[.val (.int i0), .val (.int i1), .val (.int i2), .val (.int i3), .val (.int i4), .val (.int (3 : Int32)), .val (.int va), .val (.int vb), .val (.int vc), .val (.ref b184), .val (.ref b199), .val (.ref b207), .val (.int (0 : Int32)), .val (.int (0 : Int32)), .val (.int (0 : Int32)), .val (.int (0 : Int32)), .val (.int (0 : Int32))] [(.ref b207)]) (fun tq kq => st252 _ (XS.ifYes X252.here hx rfl (pc0 := 227) (pc' := 234) rfl (hb hby at_227) rfl ((if0 _ _).trans (teq (by decide : (0 : Int32) = (0 : Int32))).1) (by decide) (by decide) (XS.iconst X252.here hx rfl (hb hby at_234) (XS.istore X252.here hx rfl (hb hby at_235) rfl (l' := #[.val (.int i0), .val (.int i1), .val (.int i2), .val (.int i3), .val (.int i4), .val (.int (3 : Int32)), .val (.int va), .val (.int vb), .val (.int vc), .val (.ref b184), .val (.ref b199), .val (.ref b207), .val (.int (0 : Int32)), .unset, .val (.int (0 : Int32)), .val (.int (0 : Int32)), .val (.int (0 : Int32))]) rfl (XS.iload X252.here hx rfl (hb hby at_237) rfl (XS.ifYes X252.here hx rfl (pc0 := 239) (pc' := 256) rfl (hb hby at_239) rfl ((if0 _ _).trans (teq (by decide : (0 : Int32) = (0 : Int32))).1) (by decide) (by decide) (XS.iconst X252.here hx rfl (hb hby at_256) (XS.istore X252.here hx rfl (hb hby at_257) rfl (l' := #[.val (.int i0), .val (.int i1), .val (.int i2), .val (.int i3), .val (.int i4), .val (.int (3 : Int32)), .val (.int va), .val (.int vb), .val (.int vc), .val (.ref b184), .val (.ref b199), .val (.ref b207), .val (.int (0 : Int32)), .val (.int (0 : Int32)), .val (.int (0 : Int32)), .val (.int (0 : Int32)), .val (.int (0 : Int32))]) rfl (XS.goto X252.here hx rfl (pc0 := 259) (pc' := 348) rfl (hb hby at_259) (by decide) (by decide) (XS.aload X252.here hx rfl (hb hby at_348) rfl rfl kq)))))))))) ?_
            obtain ⟨cq253, kq253, q253a, q253b, q253c⟩ := isOf hZ e252 E224q
            obtain ⟨_, _, ⟨T253, L253, k253, n253⟩, -, X253, ⟨Lc253, hQ253, l253, y253, z253⟩, st253⟩ := X252.virtualBack hx (y := (⟨"com/example/wayline/wayline/HeaderReader", "atEnd", "()Z"⟩ : MethodName)) (z := (⟨"com/example/wayline/wayline/HeaderReader", "atEnd", "()Z"⟩ : MethodName)) hown (mvT hZ (own_w hw 35 rfl)) (mvT hZ (own_w hw 36 rfl)) (notFace_of_selects (args := #[]) (mvT hZ (own_w hw 38 rfl))) (mvT hZ (own_w hw 38 rfl)) (mvT hZ (own_w hw 37 rfl)) (by decide) (backOf (W := 0) (rmEnd l Z a0 hw [] b207 b199 t203 q1 3 (own_bl ([va, vb, vc] : List Int32)) G1 T224.heap n0 Zs224 f225 hG V224q P224q f227 f228 f229 f230 (by omega) (by omega)) hZ (own_w hw 39 rfl) (own_w hw 28 rfl) (by decide) (by decide)) q253a q253c (g := (mkF m 350 #[.val (.int i0), .val (.int i1), .val (.int i2), .val (.int i3), .val (.int i4), .val (.int (3 : Int32)), .val (.int va), .val (.int vb), .val (.int vc), .val (.ref b184), .val (.ref b199), .val (.ref b207), .val (.int (0 : Int32)), .val (.int (0 : Int32)), .val (.int (0 : Int32)), .val (.int (0 : Int32)), .val (.int (0 : Int32))] [(.ref b207)])) rfl (by rw [hml]; rfl) (Steps.refl _) (argsL := []) (rest := []) (lenOf pd_5 rfl) rfl (by show 2 * 0 + _ ≤ _; exact Nat.le_of_eq rfl) (hb hby at_350) (fun _ _ => ⟨rfl, e252, (by decide : 4 + 0 ≤ _), (by decide : 12 + 0 ≤ _)⟩)
            dsimp only [Pt.U, Pt.locs, Pt.cells, Pt.slots] at X253 l253 y253 z253 st253 hQ253
            have l253y := l253.symm
            clear l253
            subst l253y
            obtain rfl : k253 = 4 := y253
            obtain rfl : n253 = 12 := z253
            obtain ⟨rfl, N253q, e253⟩ := hQ253
            have N253 := Fr.app N252 N253q
            refine own_toW T253 (mkF m 353 #[.val (.int i0), .val (.int i1), .val (.int i2), .val (.int i3), .val (.int i4), .val (.int (3 : Int32)), .val (.int va), .val (.int vb), .val (.int vc), .val (.ref b184), .val (.ref b199), .val (.ref b207), .val (.int (0 : Int32)), .val (.int (0 : Int32)), .val (.int (0 : Int32)), .val (.int (0 : Int32)), .val (.int (0 : Int32))] [(.int (own_end q1 3))]) (fun tq kq => st253.trans kq) ?_
            rw [show (own_end q1 3) = (0 : Int32) from if_pos (Nat.lt_of_not_le fun hle => hw0 (own_chb hcva ▸ hall 0 (by omega) (by omega)))]
            refine own_toW T253 (mkF m 363 #[.val (.int i0), .val (.int i1), .val (.int i2), .val (.int i3), .val (.int i4), .val (.int (3 : Int32)), .val (.int va), .val (.int vb), .val (.int vc), .val (.ref b184), .val (.ref b199), .val (.ref b207), .val (.int (0 : Int32)), .val (.int (0 : Int32)), .val (.int (0 : Int32)), .val (.int (0 : Int32)), .val (.int (0 : Int32))] [(.int (1 : Int32))]) (fun tq kq => XS.iload X253.here hx rfl (hb hby at_353) rfl (XS.icmpNo X253.here hx rfl (hb hby at_355) rfl (teq (by decide : (0 : Int32) = (0 : Int32))).2 (XS.iconst X253.here hx rfl (hb hby at_358) (XS.goto X253.here hx rfl (pc0 := 359) (pc' := 363) rfl (hb hby at_359) (by decide) (by decide) kq)))) ?_
            exact own_retZW X253 hS (by rw [e253]; exact hk) hx hret hlk (hb hby at_363) (by decide) (by decide) (Or.inr rfl) ⟨rfl, N253⟩
    · skip
      refine own_toW T223 (mkF m 272 #[.val (.int i0), .val (.int i1), .val (.int i2), .val (.int i3), .val (.int i4), .val (.int (3 : Int32)), .val (.int va), .val (.int vb), .val (.int vc), .val (.ref b184), .val (.ref b199), .val (.ref b207), .val (.int (0 : Int32)), .unset, .unset, .unset, .unset] [(.int ((((i4.toUInt32 >>> ((1 : Int32) &&& 31).toUInt32).toInt32) &&& (2147483647 : Int32)) % (3 : Int32)))]) (fun tq kq => XS.ifNo X223.here hx rfl (hb hby at_161) rfl ((if0 _ _).trans (feq c161).1) (XS.iload X223.here hx rfl (hb hby at_164) rfl (XS.ifYes X223.here hx rfl (pc0 := 166) (pc' := 262) rfl (hb hby at_166) rfl ((if0 _ _).trans (feq (by decide : ¬ ((3 : Int32) = (0 : Int32)))).2) (by decide) (by decide) (XS.iload X223.here hx rfl (hb hby at_262) rfl (XS.iconst X223.here hx rfl (hb hby at_264) (XS.iushr X223.here hx rfl (hb hby at_265) rfl (X223.ldcInt hx hown (mvT hZ (own_w hw 69 rfl)) (g := (mkF m 266 #[.val (.int i0), .val (.int i1), .val (.int i2), .val (.int i3), .val (.int i4), .val (.int (3 : Int32)), .val (.int va), .val (.int vb), .val (.int vc), .val (.ref b184), .val (.ref b199), .val (.ref b207), .val (.int (0 : Int32)), .unset, .unset, .unset, .unset] [(.int ((i4.toUInt32 >>> ((1 : Int32) &&& 31).toUInt32).toInt32))])) rfl (hb hby at_266) _ (XS.iand X223.here hx rfl (hb hby at_268) rfl (XS.iload X223.here hx rfl (hb hby at_269) rfl (iremM X223 hx rfl (hb hby at_271) rfl (by decide) kq)))))))))) ?_
      rcases own_mod3 ((i4.toUInt32 >>> ((1 : Int32) &&& 31).toUInt32).toInt32) with hmd | hmd | hmd
      · skip
        rw [hmd]
        refine own_toW T223 (mkF m 307 #[.val (.int i0), .val (.int i1), .val (.int i2), .val (.int i3), .val (.int i4), .val (.int (3 : Int32)), .val (.int va), .val (.int vb), .val (.int vc), .val (.ref b184), .val (.ref b199), .val (.ref b207), .val (.int (0 : Int32)), .unset, .val (.int (0 : Int32)), .val (.int va), .unset] [(.int (0 : Int32))]) (fun tq kq => XS.istore X223.here hx rfl (hb hby at_272) rfl (l' := #[.val (.int i0), .val (.int i1), .val (.int i2), .val (.int i3), .val (.int i4), .val (.int (3 : Int32)), .val (.int va), .val (.int vb), .val (.int vc), .val (.ref b184), .val (.ref b199), .val (.ref b207), .val (.int (0 : Int32)), .unset, .val (.int (0 : Int32)), .unset, .unset]) rfl (XS.iload X223.here hx rfl (hb hby at_274) rfl (XS.ifNo X223.here hx rfl (hb hby at_276) rfl ((if0 _ _).trans (teq (by decide : (0 : Int32) = (0 : Int32))).2) (XS.iload X223.here hx rfl (hb hby at_279) rfl (XS.goto X223.here hx rfl (pc0 := 281) (pc' := 297) rfl (hb hby at_281) (by decide) (by decide) (XS.istore X223.here hx rfl (hb hby at_297) rfl (l' := #[.val (.int i0), .val (.int i1), .val (.int i2), .val (.int i3), .val (.int i4), .val (.int (3 : Int32)), .val (.int va), .val (.int vb), .val (.int vc), .val (.ref b184), .val (.ref b199), .val (.ref b207), .val (.int (0 : Int32)), .unset, .val (.int (0 : Int32)), .val (.int va), .unset]) rfl (XS.iload X223.here hx rfl (hb hby at_299) rfl (XS.iload X223.here hx rfl (hb hby at_301) rfl (XS.icmpNo X223.here hx rfl (hb hby at_303) rfl (teq (rfl : va = va)).2 (XS.iconst X223.here hx rfl (hb hby at_306) kq)))))))))) ?_
        refine own_toW T223 (mkF m 328 #[.val (.int i0), .val (.int i1), .val (.int i2), .val (.int i3), .val (.int i4), .val (.int (3 : Int32)), .val (.int va), .val (.int vb), .val (.int vc), .val (.ref b184), .val (.ref b199), .val (.ref b207), .val (.int (0 : Int32)), .unset, .val (.int (0 : Int32)), .val (.int va), .val (.int (0 : Int32))] [(.int va), (.ref b207)]) (fun tq kq => XS.goto X223.here hx rfl (pc0 := 307) (pc' := 322) rfl (hb hby at_307) (by decide) (by decide) (XS.istore X223.here hx rfl (hb hby at_322) rfl (l' := #[.val (.int i0), .val (.int i1), .val (.int i2), .val (.int i3), .val (.int i4), .val (.int (3 : Int32)), .val (.int va), .val (.int vb), .val (.int vc), .val (.ref b184), .val (.ref b199), .val (.ref b207), .val (.int (0 : Int32)), .unset, .val (.int (0 : Int32)), .val (.int va), .val (.int (0 : Int32))]) rfl (XS.aload X223.here hx rfl (hb hby at_324) rfl rfl (XS.iload X223.here hx rfl (hb hby at_326) rfl kq)))) ?_
        obtain ⟨cq254, kq254, q254a, q254b, q254c⟩ := isOf hZ e223 E214q
        obtain ⟨_, _, ⟨T254, L254, k254, n254⟩, -, X254, hS254, hgr254, ⟨Lc254, hQ254, l254, y254, z254⟩, st254⟩ := X223.virtualBackS hx (y := (⟨"com/example/wayline/wayline/HeaderReader", "textBefore", "(C)Ljava/lang/String;"⟩ : MethodName)) (z := (⟨"com/example/wayline/wayline/HeaderReader", "textBefore", "(C)Ljava/lang/String;"⟩ : MethodName)) hown (mvT hZ (own_w hw 70 rfl)) (mvT hZ (own_w hw 71 rfl)) (notFace_of_selects (args := #[]) (mvT hZ (own_w hw 73 rfl))) (mvT hZ (own_w hw 73 rfl)) (mvT hZ (own_w hw 72 rfl)) (by decide) (backOfS (W := 0) (rmTB l Z a0 hw [] b207 b199 t203 0 0 3 (own_bl ([va, vb, vc] : List Int32)) va G1 vF T214.heap n0 Zs214 f215 hG f216 hvF E214q V214q P214q f217 f218 f219 f220 (fun i hi => by have h3 : i = 0 ∨ i = 1 ∨ i = 2 := (by omega); rcases h3 with rfl | rfl | rfl <;> exact own_fitb _) hcva.1 hcva.2 (by omega) (by omega) (by omega) rfl (fun i h1 h2 => absurd h2 (by omega)) sz207) hZ (own_w hw 74 rfl) (own_w hw 28 rfl) (by decide) (by decide)) q254a q254c (g := (mkF m 328 #[.val (.int i0), .val (.int i1), .val (.int i2), .val (.int i3), .val (.int i4), .val (.int (3 : Int32)), .val (.int va), .val (.int vb), .val (.int vc), .val (.ref b184), .val (.ref b199), .val (.ref b207), .val (.int (0 : Int32)), .unset, .val (.int (0 : Int32)), .val (.int va), .val (.int (0 : Int32))] [(.int va), (.ref b207)])) rfl (by rw [hml]; rfl) (Steps.refl _) (argsL := [(.int va)]) (rest := []) (lenOf pd_11 rfl) rfl (by show 2 * 0 + _ ≤ _; exact Nat.le_of_eq rfl) (hb hby at_328) (fun _ _ => ⟨rfl, e223, (by decide : 4 + 2 ≤ _), (by decide : 12 + 8 ≤ _)⟩)
        dsimp only [Pt.U, Pt.locs, Pt.cells, Pt.slots] at X254 l254 y254 z254 st254 hQ254
        have l254y := l254.symm
        clear l254
        subst l254y
        obtain rfl : k254 = 6 := y254
        obtain rfl : n254 = 20 := z254
        dsimp only [Pt.U, Pt.locs, Pt.cells, Pt.slots] at hS254 hgr254
        obtain ⟨X254, hS, hZ, hown⟩ := rebS hS hk X254 hS254 (by rw [← e223]; exact hgr254) hZ hown
        have hk := Nat.le_refl T254.heap.size
        obtain ⟨b254, rfl, N254q, K254q, E254q, V254q, P254q⟩ := hQ254
        have N254 := Fr.app N223 N254q
        have f255 := own_staX f215 K254q E214q
        have f256 := own_staX f216 K254q E214q
        have f257 := f217.keep K254q
        have f258 := f218.keep K254q (ninS ne_b199_b207 nin0)
        have f259 := f219.keep K254q (ninS ne_b199_b207 nin0)
        have f260 := f220.keep K254q (ninS ne_t203_b207 nin0)
        have f261 := E214q.keep K254q
        have Zs254 : n0 ≤ T254.heap.size := Nat.le_trans Zs214 K254q.1
        refine own_toW T254 (mkF m 336 #[.val (.int i0), .val (.int i1), .val (.int i2), .val (.int i3), .val (.int i4), .val (.int (3 : Int32)), .val (.int va), .val (.int vb), .val (.int vc), .val (.ref b184), .val (.ref b199), .val (.ref b207), .val (.int (0 : Int32)), .unset, .val (.int (0 : Int32)), .val (.int va), .val (.int (0 : Int32))] [(.int ((0 : Int32) + (1 : Int32)))]) (fun tq kq => st254.trans (XS.pop X254.here hx rfl (hb hby at_331) rfl rfl (XS.iload X254.here hx rfl (hb hby at_332) rfl (XS.iconst X254.here hx rfl (hb hby at_334) (XS.iadd X254.here hx rfl (hb hby at_335) rfl kq))))) ?_
        rw [show ((0 : Int32) + (1 : Int32)) = (1 : Int32) from by decide]
        refine own_toW T254 (mkF m 350 #[.val (.int i0), .val (.int i1), .val (.int i2), .val (.int i3), .val (.int i4), .val (.int (3 : Int32)), .val (.int va), .val (.int vb), .val (.int vc), .val (.ref b184), .val (.ref b199), .val (.ref b207), .val (.int (0 : Int32)), .val (.int (0 : Int32)), .val (.int (0 : Int32)), .val (.int va), .val (.int (0 : Int32))] [(.ref b207)]) (fun tq kq => XS.iload X254.here hx rfl (hb hby at_336) rfl (XS.icmpYes X254.here hx rfl (pc0 := 338) (pc' := 345) rfl (hb hby at_338) rfl (tlt (by decide : (1 : Int32) < (3 : Int32))).1 (by decide) (by decide) (XS.iconst X254.here hx rfl (hb hby at_345) (XS.istore X254.here hx rfl (hb hby at_346) rfl (l' := #[.val (.int i0), .val (.int i1), .val (.int i2), .val (.int i3), .val (.int i4), .val (.int (3 : Int32)), .val (.int va), .val (.int vb), .val (.int vc), .val (.ref b184), .val (.ref b199), .val (.ref b207), .val (.int (0 : Int32)), .val (.int (0 : Int32)), .val (.int (0 : Int32)), .val (.int va), .val (.int (0 : Int32))]) rfl (XS.aload X254.here hx rfl (hb hby at_348) rfl rfl kq))))) ?_
        obtain ⟨cq262, kq262, q262a, q262b, q262c⟩ := isOf hZ rfl E254q
        obtain ⟨_, _, ⟨T262, L262, k262, n262⟩, -, X262, ⟨Lc262, hQ262, l262, y262, z262⟩, st262⟩ := X254.virtualBack hx (y := (⟨"com/example/wayline/wayline/HeaderReader", "atEnd", "()Z"⟩ : MethodName)) (z := (⟨"com/example/wayline/wayline/HeaderReader", "atEnd", "()Z"⟩ : MethodName)) hown (mvT hZ (own_w hw 35 rfl)) (mvT hZ (own_w hw 36 rfl)) (notFace_of_selects (args := #[]) (mvT hZ (own_w hw 38 rfl))) (mvT hZ (own_w hw 38 rfl)) (mvT hZ (own_w hw 37 rfl)) (by decide) (backOf (W := 0) (rmEnd l Z a0 hw [] b207 b199 t203 (0 + 1) 3 (own_bl ([va, vb, vc] : List Int32)) G1 T254.heap n0 Zs254 f255 hG V254q P254q f257 f258 f259 f260 (by omega) (by omega)) hZ (own_w hw 39 rfl) (own_w hw 28 rfl) (by decide) (by decide)) q262a q262c (g := (mkF m 350 #[.val (.int i0), .val (.int i1), .val (.int i2), .val (.int i3), .val (.int i4), .val (.int (3 : Int32)), .val (.int va), .val (.int vb), .val (.int vc), .val (.ref b184), .val (.ref b199), .val (.ref b207), .val (.int (0 : Int32)), .val (.int (0 : Int32)), .val (.int (0 : Int32)), .val (.int va), .val (.int (0 : Int32))] [(.ref b207)])) rfl (by rw [hml]; rfl) (Steps.refl _) (argsL := []) (rest := []) (lenOf pd_5 rfl) rfl (by show 2 * 0 + _ ≤ _; exact Nat.le_of_eq rfl) (hb hby at_350) (fun _ _ => ⟨rfl, rfl, (by decide : 6 + 0 ≤ _), (by decide : 20 + 0 ≤ _)⟩)
        dsimp only [Pt.U, Pt.locs, Pt.cells, Pt.slots] at X262 l262 y262 z262 st262 hQ262
        have l262y := l262.symm
        clear l262
        subst l262y
        obtain rfl : k262 = 6 := y262
        obtain rfl : n262 = 20 := z262
        obtain ⟨rfl, N262q, e262⟩ := hQ262
        have N262 := Fr.app N254 N262q
        refine own_toW T262 (mkF m 353 #[.val (.int i0), .val (.int i1), .val (.int i2), .val (.int i3), .val (.int i4), .val (.int (3 : Int32)), .val (.int va), .val (.int vb), .val (.int vc), .val (.ref b184), .val (.ref b199), .val (.ref b207), .val (.int (0 : Int32)), .val (.int (0 : Int32)), .val (.int (0 : Int32)), .val (.int va), .val (.int (0 : Int32))] [(.int (own_end (0 + 1) 3))]) (fun tq kq => st262.trans kq) ?_
        rw [show (own_end (0 + 1) 3) = (0 : Int32) from if_pos (by omega)]
        refine own_toW T262 (mkF m 363 #[.val (.int i0), .val (.int i1), .val (.int i2), .val (.int i3), .val (.int i4), .val (.int (3 : Int32)), .val (.int va), .val (.int vb), .val (.int vc), .val (.ref b184), .val (.ref b199), .val (.ref b207), .val (.int (0 : Int32)), .val (.int (0 : Int32)), .val (.int (0 : Int32)), .val (.int va), .val (.int (0 : Int32))] [(.int (1 : Int32))]) (fun tq kq => XS.iload X262.here hx rfl (hb hby at_353) rfl (XS.icmpNo X262.here hx rfl (hb hby at_355) rfl (teq (by decide : (0 : Int32) = (0 : Int32))).2 (XS.iconst X262.here hx rfl (hb hby at_358) (XS.goto X262.here hx rfl (pc0 := 359) (pc' := 363) rfl (hb hby at_359) (by decide) (by decide) kq)))) ?_
        exact own_retZW X262 hS (by rw [e262]; exact hk) hx hret hlk (hb hby at_363) (by decide) (by decide) (Or.inr rfl) ⟨rfl, N262⟩
      · skip
        rw [hmd]
        refine own_toW T223 (mkF m 301 #[.val (.int i0), .val (.int i1), .val (.int i2), .val (.int i3), .val (.int i4), .val (.int (3 : Int32)), .val (.int va), .val (.int vb), .val (.int vc), .val (.ref b184), .val (.ref b199), .val (.ref b207), .val (.int (0 : Int32)), .unset, .val (.int (1 : Int32)), .val (.int vb), .unset] [(.int va)]) (fun tq kq => XS.istore X223.here hx rfl (hb hby at_272) rfl (l' := #[.val (.int i0), .val (.int i1), .val (.int i2), .val (.int i3), .val (.int i4), .val (.int (3 : Int32)), .val (.int va), .val (.int vb), .val (.int vc), .val (.ref b184), .val (.ref b199), .val (.ref b207), .val (.int (0 : Int32)), .unset, .val (.int (1 : Int32)), .unset, .unset]) rfl (XS.iload X223.here hx rfl (hb hby at_274) rfl (XS.ifYes X223.here hx rfl (pc0 := 276) (pc' := 284) rfl (hb hby at_276) rfl ((if0 _ _).trans (feq (by decide : ¬ ((1 : Int32) = (0 : Int32)))).2) (by decide) (by decide) (XS.iload X223.here hx rfl (hb hby at_284) rfl (XS.iconst X223.here hx rfl (hb hby at_286) (XS.icmpNo X223.here hx rfl (hb hby at_287) rfl (teq (by decide : (1 : Int32) = (1 : Int32))).2 (XS.iload X223.here hx rfl (hb hby at_290) rfl (XS.goto X223.here hx rfl (pc0 := 292) (pc' := 297) rfl (hb hby at_292) (by decide) (by decide) (XS.istore X223.here hx rfl (hb hby at_297) rfl (l' := #[.val (.int i0), .val (.int i1), .val (.int i2), .val (.int i3), .val (.int i4), .val (.int (3 : Int32)), .val (.int va), .val (.int vb), .val (.int vc), .val (.ref b184), .val (.ref b199), .val (.ref b207), .val (.int (0 : Int32)), .unset, .val (.int (1 : Int32)), .val (.int vb), .unset]) rfl (XS.iload X223.here hx rfl (hb hby at_299) rfl kq)))))))))) ?_
        refine own_toW T223 (mkF m 303 #[.val (.int i0), .val (.int i1), .val (.int i2), .val (.int i3), .val (.int i4), .val (.int (3 : Int32)), .val (.int va), .val (.int vb), .val (.int vc), .val (.ref b184), .val (.ref b199), .val (.ref b207), .val (.int (0 : Int32)), .unset, .val (.int (1 : Int32)), .val (.int vb), .unset] [(.int vb), (.int va)]) (fun tq kq => XS.iload X223.here hx rfl (hb hby at_301) rfl kq) ?_
        by_cases c303 : va = vb
        · skip
          refine own_toW T223 (mkF m 328 #[.val (.int i0), .val (.int i1), .val (.int i2), .val (.int i3), .val (.int i4), .val (.int (3 : Int32)), .val (.int va), .val (.int vb), .val (.int vc), .val (.ref b184), .val (.ref b199), .val (.ref b207), .val (.int (0 : Int32)), .unset, .val (.int (1 : Int32)), .val (.int vb), .val (.int (0 : Int32))] [(.int vb), (.ref b207)]) (fun tq kq => XS.icmpNo X223.here hx rfl (hb hby at_303) rfl (teq c303).2 (XS.iconst X223.here hx rfl (hb hby at_306) (XS.goto X223.here hx rfl (pc0 := 307) (pc' := 322) rfl (hb hby at_307) (by decide) (by decide) (XS.istore X223.here hx rfl (hb hby at_322) rfl (l' := #[.val (.int i0), .val (.int i1), .val (.int i2), .val (.int i3), .val (.int i4), .val (.int (3 : Int32)), .val (.int va), .val (.int vb), .val (.int vc), .val (.ref b184), .val (.ref b199), .val (.ref b207), .val (.int (0 : Int32)), .unset, .val (.int (1 : Int32)), .val (.int vb), .val (.int (0 : Int32))]) rfl (XS.aload X223.here hx rfl (hb hby at_324) rfl rfl (XS.iload X223.here hx rfl (hb hby at_326) rfl kq)))))) ?_
          obtain ⟨cq263, kq263, q263a, q263b, q263c⟩ := isOf hZ e223 E214q
          obtain ⟨_, _, ⟨T263, L263, k263, n263⟩, -, X263, hS263, hgr263, ⟨Lc263, hQ263, l263, y263, z263⟩, st263⟩ := X223.virtualBackS hx (y := (⟨"com/example/wayline/wayline/HeaderReader", "textBefore", "(C)Ljava/lang/String;"⟩ : MethodName)) (z := (⟨"com/example/wayline/wayline/HeaderReader", "textBefore", "(C)Ljava/lang/String;"⟩ : MethodName)) hown (mvT hZ (own_w hw 70 rfl)) (mvT hZ (own_w hw 71 rfl)) (notFace_of_selects (args := #[]) (mvT hZ (own_w hw 73 rfl))) (mvT hZ (own_w hw 73 rfl)) (mvT hZ (own_w hw 72 rfl)) (by decide) (backOfS (W := 0) (rmTB l Z a0 hw [] b207 b199 t203 0 0 3 (own_bl ([va, vb, vc] : List Int32)) vb G1 vF T214.heap n0 Zs214 f215 hG f216 hvF E214q V214q P214q f217 f218 f219 f220 (fun i hi => by have h3 : i = 0 ∨ i = 1 ∨ i = 2 := (by omega); rcases h3 with rfl | rfl | rfl <;> exact own_fitb _) hcvb.1 hcvb.2 (by omega) (by omega) (by omega) (congrArg (fun z : Int32 => z.toInt8.toInt32) c303) (fun i h1 h2 => absurd h2 (by omega)) sz207) hZ (own_w hw 74 rfl) (own_w hw 28 rfl) (by decide) (by decide)) q263a q263c (g := (mkF m 328 #[.val (.int i0), .val (.int i1), .val (.int i2), .val (.int i3), .val (.int i4), .val (.int (3 : Int32)), .val (.int va), .val (.int vb), .val (.int vc), .val (.ref b184), .val (.ref b199), .val (.ref b207), .val (.int (0 : Int32)), .unset, .val (.int (1 : Int32)), .val (.int vb), .val (.int (0 : Int32))] [(.int vb), (.ref b207)])) rfl (by rw [hml]; rfl) (Steps.refl _) (argsL := [(.int vb)]) (rest := []) (lenOf pd_11 rfl) rfl (by show 2 * 0 + _ ≤ _; exact Nat.le_of_eq rfl) (hb hby at_328) (fun _ _ => ⟨rfl, e223, (by decide : 4 + 2 ≤ _), (by decide : 12 + 8 ≤ _)⟩)
          dsimp only [Pt.U, Pt.locs, Pt.cells, Pt.slots] at X263 l263 y263 z263 st263 hQ263
          have l263y := l263.symm
          clear l263
          subst l263y
          obtain rfl : k263 = 6 := y263
          obtain rfl : n263 = 20 := z263
          dsimp only [Pt.U, Pt.locs, Pt.cells, Pt.slots] at hS263 hgr263
          obtain ⟨X263, hS, hZ, hown⟩ := rebS hS hk X263 hS263 (by rw [← e223]; exact hgr263) hZ hown
          have hk := Nat.le_refl T263.heap.size
          obtain ⟨b263, rfl, N263q, K263q, E263q, V263q, P263q⟩ := hQ263
          have N263 := Fr.app N223 N263q
          have f264 := own_staX f215 K263q E214q
          have f265 := own_staX f216 K263q E214q
          have f266 := f217.keep K263q
          have f267 := f218.keep K263q (ninS ne_b199_b207 nin0)
          have f268 := f219.keep K263q (ninS ne_b199_b207 nin0)
          have f269 := f220.keep K263q (ninS ne_t203_b207 nin0)
          have f270 := E214q.keep K263q
          have Zs263 : n0 ≤ T263.heap.size := Nat.le_trans Zs214 K263q.1
          refine own_toW T263 (mkF m 336 #[.val (.int i0), .val (.int i1), .val (.int i2), .val (.int i3), .val (.int i4), .val (.int (3 : Int32)), .val (.int va), .val (.int vb), .val (.int vc), .val (.ref b184), .val (.ref b199), .val (.ref b207), .val (.int (0 : Int32)), .unset, .val (.int (1 : Int32)), .val (.int vb), .val (.int (0 : Int32))] [(.int ((0 : Int32) + (1 : Int32)))]) (fun tq kq => st263.trans (XS.pop X263.here hx rfl (hb hby at_331) rfl rfl (XS.iload X263.here hx rfl (hb hby at_332) rfl (XS.iconst X263.here hx rfl (hb hby at_334) (XS.iadd X263.here hx rfl (hb hby at_335) rfl kq))))) ?_
          rw [show ((0 : Int32) + (1 : Int32)) = (1 : Int32) from by decide]
          refine own_toW T263 (mkF m 350 #[.val (.int i0), .val (.int i1), .val (.int i2), .val (.int i3), .val (.int i4), .val (.int (3 : Int32)), .val (.int va), .val (.int vb), .val (.int vc), .val (.ref b184), .val (.ref b199), .val (.ref b207), .val (.int (0 : Int32)), .val (.int (0 : Int32)), .val (.int (1 : Int32)), .val (.int vb), .val (.int (0 : Int32))] [(.ref b207)]) (fun tq kq => XS.iload X263.here hx rfl (hb hby at_336) rfl (XS.icmpYes X263.here hx rfl (pc0 := 338) (pc' := 345) rfl (hb hby at_338) rfl (tlt (by decide : (1 : Int32) < (3 : Int32))).1 (by decide) (by decide) (XS.iconst X263.here hx rfl (hb hby at_345) (XS.istore X263.here hx rfl (hb hby at_346) rfl (l' := #[.val (.int i0), .val (.int i1), .val (.int i2), .val (.int i3), .val (.int i4), .val (.int (3 : Int32)), .val (.int va), .val (.int vb), .val (.int vc), .val (.ref b184), .val (.ref b199), .val (.ref b207), .val (.int (0 : Int32)), .val (.int (0 : Int32)), .val (.int (1 : Int32)), .val (.int vb), .val (.int (0 : Int32))]) rfl (XS.aload X263.here hx rfl (hb hby at_348) rfl rfl kq))))) ?_
          obtain ⟨cq271, kq271, q271a, q271b, q271c⟩ := isOf hZ rfl E263q
          obtain ⟨_, _, ⟨T271, L271, k271, n271⟩, -, X271, ⟨Lc271, hQ271, l271, y271, z271⟩, st271⟩ := X263.virtualBack hx (y := (⟨"com/example/wayline/wayline/HeaderReader", "atEnd", "()Z"⟩ : MethodName)) (z := (⟨"com/example/wayline/wayline/HeaderReader", "atEnd", "()Z"⟩ : MethodName)) hown (mvT hZ (own_w hw 35 rfl)) (mvT hZ (own_w hw 36 rfl)) (notFace_of_selects (args := #[]) (mvT hZ (own_w hw 38 rfl))) (mvT hZ (own_w hw 38 rfl)) (mvT hZ (own_w hw 37 rfl)) (by decide) (backOf (W := 0) (rmEnd l Z a0 hw [] b207 b199 t203 (0 + 1) 3 (own_bl ([va, vb, vc] : List Int32)) G1 T263.heap n0 Zs263 f264 hG V263q P263q f266 f267 f268 f269 (by omega) (by omega)) hZ (own_w hw 39 rfl) (own_w hw 28 rfl) (by decide) (by decide)) q271a q271c (g := (mkF m 350 #[.val (.int i0), .val (.int i1), .val (.int i2), .val (.int i3), .val (.int i4), .val (.int (3 : Int32)), .val (.int va), .val (.int vb), .val (.int vc), .val (.ref b184), .val (.ref b199), .val (.ref b207), .val (.int (0 : Int32)), .val (.int (0 : Int32)), .val (.int (1 : Int32)), .val (.int vb), .val (.int (0 : Int32))] [(.ref b207)])) rfl (by rw [hml]; rfl) (Steps.refl _) (argsL := []) (rest := []) (lenOf pd_5 rfl) rfl (by show 2 * 0 + _ ≤ _; exact Nat.le_of_eq rfl) (hb hby at_350) (fun _ _ => ⟨rfl, rfl, (by decide : 6 + 0 ≤ _), (by decide : 20 + 0 ≤ _)⟩)
          dsimp only [Pt.U, Pt.locs, Pt.cells, Pt.slots] at X271 l271 y271 z271 st271 hQ271
          have l271y := l271.symm
          clear l271
          subst l271y
          obtain rfl : k271 = 6 := y271
          obtain rfl : n271 = 20 := z271
          obtain ⟨rfl, N271q, e271⟩ := hQ271
          have N271 := Fr.app N263 N271q
          refine own_toW T271 (mkF m 353 #[.val (.int i0), .val (.int i1), .val (.int i2), .val (.int i3), .val (.int i4), .val (.int (3 : Int32)), .val (.int va), .val (.int vb), .val (.int vc), .val (.ref b184), .val (.ref b199), .val (.ref b207), .val (.int (0 : Int32)), .val (.int (0 : Int32)), .val (.int (1 : Int32)), .val (.int vb), .val (.int (0 : Int32))] [(.int (own_end (0 + 1) 3))]) (fun tq kq => st271.trans kq) ?_
          rw [show (own_end (0 + 1) 3) = (0 : Int32) from if_pos (by omega)]
          refine own_toW T271 (mkF m 363 #[.val (.int i0), .val (.int i1), .val (.int i2), .val (.int i3), .val (.int i4), .val (.int (3 : Int32)), .val (.int va), .val (.int vb), .val (.int vc), .val (.ref b184), .val (.ref b199), .val (.ref b207), .val (.int (0 : Int32)), .val (.int (0 : Int32)), .val (.int (1 : Int32)), .val (.int vb), .val (.int (0 : Int32))] [(.int (1 : Int32))]) (fun tq kq => XS.iload X271.here hx rfl (hb hby at_353) rfl (XS.icmpNo X271.here hx rfl (hb hby at_355) rfl (teq (by decide : (0 : Int32) = (0 : Int32))).2 (XS.iconst X271.here hx rfl (hb hby at_358) (XS.goto X271.here hx rfl (pc0 := 359) (pc' := 363) rfl (hb hby at_359) (by decide) (by decide) kq)))) ?_
          exact own_retZW X271 hS (by rw [e271]; exact hk) hx hret hlk (hb hby at_363) (by decide) (by decide) (Or.inr rfl) ⟨rfl, N271⟩
        · skip
          refine own_toW T223 (mkF m 328 #[.val (.int i0), .val (.int i1), .val (.int i2), .val (.int i3), .val (.int i4), .val (.int (3 : Int32)), .val (.int va), .val (.int vb), .val (.int vc), .val (.ref b184), .val (.ref b199), .val (.ref b207), .val (.int (0 : Int32)), .unset, .val (.int (1 : Int32)), .val (.int vb), .val (.int (1 : Int32))] [(.int vb), (.ref b207)]) (fun tq kq => XS.icmpYes X223.here hx rfl (pc0 := 303) (pc' := 310) rfl (hb hby at_303) rfl (feq c303).2 (by decide) (by decide) (XS.iload X223.here hx rfl (hb hby at_310) rfl (XS.iload X223.here hx rfl (hb hby at_312) rfl (XS.icmpNo X223.here hx rfl (hb hby at_314) rfl (teq (rfl : vb = vb)).2 (XS.iconst X223.here hx rfl (hb hby at_317) (XS.goto X223.here hx rfl (pc0 := 318) (pc' := 322) rfl (hb hby at_318) (by decide) (by decide) (XS.istore X223.here hx rfl (hb hby at_322) rfl (l' := #[.val (.int i0), .val (.int i1), .val (.int i2), .val (.int i3), .val (.int i4), .val (.int (3 : Int32)), .val (.int va), .val (.int vb), .val (.int vc), .val (.ref b184), .val (.ref b199), .val (.ref b207), .val (.int (0 : Int32)), .unset, .val (.int (1 : Int32)), .val (.int vb), .val (.int (1 : Int32))]) rfl (XS.aload X223.here hx rfl (hb hby at_324) rfl rfl (XS.iload X223.here hx rfl (hb hby at_326) rfl kq))))))))) ?_
          obtain ⟨cq272, kq272, q272a, q272b, q272c⟩ := isOf hZ e223 E214q
          obtain ⟨_, _, ⟨T272, L272, k272, n272⟩, -, X272, hS272, hgr272, ⟨Lc272, hQ272, l272, y272, z272⟩, st272⟩ := X223.virtualBackS hx (y := (⟨"com/example/wayline/wayline/HeaderReader", "textBefore", "(C)Ljava/lang/String;"⟩ : MethodName)) (z := (⟨"com/example/wayline/wayline/HeaderReader", "textBefore", "(C)Ljava/lang/String;"⟩ : MethodName)) hown (mvT hZ (own_w hw 70 rfl)) (mvT hZ (own_w hw 71 rfl)) (notFace_of_selects (args := #[]) (mvT hZ (own_w hw 73 rfl))) (mvT hZ (own_w hw 73 rfl)) (mvT hZ (own_w hw 72 rfl)) (by decide) (backOfS (W := 0) (rmTB l Z a0 hw [] b207 b199 t203 0 1 3 (own_bl ([va, vb, vc] : List Int32)) vb G1 vF T214.heap n0 Zs214 f215 hG f216 hvF E214q V214q P214q f217 f218 f219 f220 (fun i hi => by have h3 : i = 0 ∨ i = 1 ∨ i = 2 := (by omega); rcases h3 with rfl | rfl | rfl <;> exact own_fitb _) hcvb.1 hcvb.2 (by omega) (by omega) (by omega) rfl (fun i h1 h2 => by have h3 : i = 0 := (by omega); rcases h3 with rfl; exact fun z => c303 (own_b8 hcva hcvb z)) sz207) hZ (own_w hw 74 rfl) (own_w hw 28 rfl) (by decide) (by decide)) q272a q272c (g := (mkF m 328 #[.val (.int i0), .val (.int i1), .val (.int i2), .val (.int i3), .val (.int i4), .val (.int (3 : Int32)), .val (.int va), .val (.int vb), .val (.int vc), .val (.ref b184), .val (.ref b199), .val (.ref b207), .val (.int (0 : Int32)), .unset, .val (.int (1 : Int32)), .val (.int vb), .val (.int (1 : Int32))] [(.int vb), (.ref b207)])) rfl (by rw [hml]; rfl) (Steps.refl _) (argsL := [(.int vb)]) (rest := []) (lenOf pd_11 rfl) rfl (by show 2 * 0 + _ ≤ _; exact Nat.le_of_eq rfl) (hb hby at_328) (fun _ _ => ⟨rfl, e223, (by decide : 4 + 2 ≤ _), (by decide : 12 + 8 ≤ _)⟩)
          dsimp only [Pt.U, Pt.locs, Pt.cells, Pt.slots] at X272 l272 y272 z272 st272 hQ272
          have l272y := l272.symm
          clear l272
          subst l272y
          obtain rfl : k272 = 6 := y272
          obtain rfl : n272 = 20 := z272
          dsimp only [Pt.U, Pt.locs, Pt.cells, Pt.slots] at hS272 hgr272
          obtain ⟨X272, hS, hZ, hown⟩ := rebS hS hk X272 hS272 (by rw [← e223]; exact hgr272) hZ hown
          have hk := Nat.le_refl T272.heap.size
          obtain ⟨b272, rfl, N272q, K272q, E272q, V272q, P272q⟩ := hQ272
          have N272 := Fr.app N223 N272q
          have f273 := own_staX f215 K272q E214q
          have f274 := own_staX f216 K272q E214q
          have f275 := f217.keep K272q
          have f276 := f218.keep K272q (ninS ne_b199_b207 nin0)
          have f277 := f219.keep K272q (ninS ne_b199_b207 nin0)
          have f278 := f220.keep K272q (ninS ne_t203_b207 nin0)
          have f279 := E214q.keep K272q
          have Zs272 : n0 ≤ T272.heap.size := Nat.le_trans Zs214 K272q.1
          refine own_toW T272 (mkF m 336 #[.val (.int i0), .val (.int i1), .val (.int i2), .val (.int i3), .val (.int i4), .val (.int (3 : Int32)), .val (.int va), .val (.int vb), .val (.int vc), .val (.ref b184), .val (.ref b199), .val (.ref b207), .val (.int (0 : Int32)), .unset, .val (.int (1 : Int32)), .val (.int vb), .val (.int (1 : Int32))] [(.int ((1 : Int32) + (1 : Int32)))]) (fun tq kq => st272.trans (XS.pop X272.here hx rfl (hb hby at_331) rfl rfl (XS.iload X272.here hx rfl (hb hby at_332) rfl (XS.iconst X272.here hx rfl (hb hby at_334) (XS.iadd X272.here hx rfl (hb hby at_335) rfl kq))))) ?_
          rw [show ((1 : Int32) + (1 : Int32)) = (2 : Int32) from by decide]
          refine own_toW T272 (mkF m 350 #[.val (.int i0), .val (.int i1), .val (.int i2), .val (.int i3), .val (.int i4), .val (.int (3 : Int32)), .val (.int va), .val (.int vb), .val (.int vc), .val (.ref b184), .val (.ref b199), .val (.ref b207), .val (.int (0 : Int32)), .val (.int (0 : Int32)), .val (.int (1 : Int32)), .val (.int vb), .val (.int (1 : Int32))] [(.ref b207)]) (fun tq kq => XS.iload X272.here hx rfl (hb hby at_336) rfl (XS.icmpYes X272.here hx rfl (pc0 := 338) (pc' := 345) rfl (hb hby at_338) rfl (tlt (by decide : (2 : Int32) < (3 : Int32))).1 (by decide) (by decide) (XS.iconst X272.here hx rfl (hb hby at_345) (XS.istore X272.here hx rfl (hb hby at_346) rfl (l' := #[.val (.int i0), .val (.int i1), .val (.int i2), .val (.int i3), .val (.int i4), .val (.int (3 : Int32)), .val (.int va), .val (.int vb), .val (.int vc), .val (.ref b184), .val (.ref b199), .val (.ref b207), .val (.int (0 : Int32)), .val (.int (0 : Int32)), .val (.int (1 : Int32)), .val (.int vb), .val (.int (1 : Int32))]) rfl (XS.aload X272.here hx rfl (hb hby at_348) rfl rfl kq))))) ?_
          obtain ⟨cq280, kq280, q280a, q280b, q280c⟩ := isOf hZ rfl E272q
          obtain ⟨_, _, ⟨T280, L280, k280, n280⟩, -, X280, ⟨Lc280, hQ280, l280, y280, z280⟩, st280⟩ := X272.virtualBack hx (y := (⟨"com/example/wayline/wayline/HeaderReader", "atEnd", "()Z"⟩ : MethodName)) (z := (⟨"com/example/wayline/wayline/HeaderReader", "atEnd", "()Z"⟩ : MethodName)) hown (mvT hZ (own_w hw 35 rfl)) (mvT hZ (own_w hw 36 rfl)) (notFace_of_selects (args := #[]) (mvT hZ (own_w hw 38 rfl))) (mvT hZ (own_w hw 38 rfl)) (mvT hZ (own_w hw 37 rfl)) (by decide) (backOf (W := 0) (rmEnd l Z a0 hw [] b207 b199 t203 (1 + 1) 3 (own_bl ([va, vb, vc] : List Int32)) G1 T272.heap n0 Zs272 f273 hG V272q P272q f275 f276 f277 f278 (by omega) (by omega)) hZ (own_w hw 39 rfl) (own_w hw 28 rfl) (by decide) (by decide)) q280a q280c (g := (mkF m 350 #[.val (.int i0), .val (.int i1), .val (.int i2), .val (.int i3), .val (.int i4), .val (.int (3 : Int32)), .val (.int va), .val (.int vb), .val (.int vc), .val (.ref b184), .val (.ref b199), .val (.ref b207), .val (.int (0 : Int32)), .val (.int (0 : Int32)), .val (.int (1 : Int32)), .val (.int vb), .val (.int (1 : Int32))] [(.ref b207)])) rfl (by rw [hml]; rfl) (Steps.refl _) (argsL := []) (rest := []) (lenOf pd_5 rfl) rfl (by show 2 * 0 + _ ≤ _; exact Nat.le_of_eq rfl) (hb hby at_350) (fun _ _ => ⟨rfl, rfl, (by decide : 6 + 0 ≤ _), (by decide : 20 + 0 ≤ _)⟩)
          dsimp only [Pt.U, Pt.locs, Pt.cells, Pt.slots] at X280 l280 y280 z280 st280 hQ280
          have l280y := l280.symm
          clear l280
          subst l280y
          obtain rfl : k280 = 6 := y280
          obtain rfl : n280 = 20 := z280
          obtain ⟨rfl, N280q, e280⟩ := hQ280
          have N280 := Fr.app N272 N280q
          refine own_toW T280 (mkF m 353 #[.val (.int i0), .val (.int i1), .val (.int i2), .val (.int i3), .val (.int i4), .val (.int (3 : Int32)), .val (.int va), .val (.int vb), .val (.int vc), .val (.ref b184), .val (.ref b199), .val (.ref b207), .val (.int (0 : Int32)), .val (.int (0 : Int32)), .val (.int (1 : Int32)), .val (.int vb), .val (.int (1 : Int32))] [(.int (own_end (1 + 1) 3))]) (fun tq kq => st280.trans kq) ?_
          rw [show (own_end (1 + 1) 3) = (0 : Int32) from if_pos (by omega)]
          refine own_toW T280 (mkF m 363 #[.val (.int i0), .val (.int i1), .val (.int i2), .val (.int i3), .val (.int i4), .val (.int (3 : Int32)), .val (.int va), .val (.int vb), .val (.int vc), .val (.ref b184), .val (.ref b199), .val (.ref b207), .val (.int (0 : Int32)), .val (.int (0 : Int32)), .val (.int (1 : Int32)), .val (.int vb), .val (.int (1 : Int32))] [(.int (1 : Int32))]) (fun tq kq => XS.iload X280.here hx rfl (hb hby at_353) rfl (XS.icmpNo X280.here hx rfl (hb hby at_355) rfl (teq (by decide : (0 : Int32) = (0 : Int32))).2 (XS.iconst X280.here hx rfl (hb hby at_358) (XS.goto X280.here hx rfl (pc0 := 359) (pc' := 363) rfl (hb hby at_359) (by decide) (by decide) kq)))) ?_
          exact own_retZW X280 hS (by rw [e280]; exact hk) hx hret hlk (hb hby at_363) (by decide) (by decide) (Or.inr rfl) ⟨rfl, N280⟩
      · skip
        rw [hmd]
        refine own_toW T223 (mkF m 303 #[.val (.int i0), .val (.int i1), .val (.int i2), .val (.int i3), .val (.int i4), .val (.int (3 : Int32)), .val (.int va), .val (.int vb), .val (.int vc), .val (.ref b184), .val (.ref b199), .val (.ref b207), .val (.int (0 : Int32)), .unset, .val (.int (2 : Int32)), .val (.int vc), .unset] [(.int vc), (.int va)]) (fun tq kq => XS.istore X223.here hx rfl (hb hby at_272) rfl (l' := #[.val (.int i0), .val (.int i1), .val (.int i2), .val (.int i3), .val (.int i4), .val (.int (3 : Int32)), .val (.int va), .val (.int vb), .val (.int vc), .val (.ref b184), .val (.ref b199), .val (.ref b207), .val (.int (0 : Int32)), .unset, .val (.int (2 : Int32)), .unset, .unset]) rfl (XS.iload X223.here hx rfl (hb hby at_274) rfl (XS.ifYes X223.here hx rfl (pc0 := 276) (pc' := 284) rfl (hb hby at_276) rfl ((if0 _ _).trans (feq (by decide : ¬ ((2 : Int32) = (0 : Int32)))).2) (by decide) (by decide) (XS.iload X223.here hx rfl (hb hby at_284) rfl (XS.iconst X223.here hx rfl (hb hby at_286) (XS.icmpYes X223.here hx rfl (pc0 := 287) (pc' := 295) rfl (hb hby at_287) rfl (feq (by decide : ¬ ((2 : Int32) = (1 : Int32)))).2 (by decide) (by decide) (XS.iload X223.here hx rfl (hb hby at_295) rfl (XS.istore X223.here hx rfl (hb hby at_297) rfl (l' := #[.val (.int i0), .val (.int i1), .val (.int i2), .val (.int i3), .val (.int i4), .val (.int (3 : Int32)), .val (.int va), .val (.int vb), .val (.int vc), .val (.ref b184), .val (.ref b199), .val (.ref b207), .val (.int (0 : Int32)), .unset, .val (.int (2 : Int32)), .val (.int vc), .unset]) rfl (XS.iload X223.here hx rfl (hb hby at_299) rfl (XS.iload X223.here hx rfl (hb hby at_301) rfl kq)))))))))) ?_
        by_cases c303 : va = vc
        · skip
          refine own_toW T223 (mkF m 328 #[.val (.int i0), .val (.int i1), .val (.int i2), .val (.int i3), .val (.int i4), .val (.int (3 : Int32)), .val (.int va), .val (.int vb), .val (.int vc), .val (.ref b184), .val (.ref b199), .val (.ref b207), .val (.int (0 : Int32)), .unset, .val (.int (2 : Int32)), .val (.int vc), .val (.int (0 : Int32))] [(.int vc), (.ref b207)]) (fun tq kq => XS.icmpNo X223.here hx rfl (hb hby at_303) rfl (teq c303).2 (XS.iconst X223.here hx rfl (hb hby at_306) (XS.goto X223.here hx rfl (pc0 := 307) (pc' := 322) rfl (hb hby at_307) (by decide) (by decide) (XS.istore X223.here hx rfl (hb hby at_322) rfl (l' := #[.val (.int i0), .val (.int i1), .val (.int i2), .val (.int i3), .val (.int i4), .val (.int (3 : Int32)), .val (.int va), .val (.int vb), .val (.int vc), .val (.ref b184), .val (.ref b199), .val (.ref b207), .val (.int (0 : Int32)), .unset, .val (.int (2 : Int32)), .val (.int vc), .val (.int (0 : Int32))]) rfl (XS.aload X223.here hx rfl (hb hby at_324) rfl rfl (XS.iload X223.here hx rfl (hb hby at_326) rfl kq)))))) ?_
          obtain ⟨cq281, kq281, q281a, q281b, q281c⟩ := isOf hZ e223 E214q
          obtain ⟨_, _, ⟨T281, L281, k281, n281⟩, -, X281, hS281, hgr281, ⟨Lc281, hQ281, l281, y281, z281⟩, st281⟩ := X223.virtualBackS hx (y := (⟨"com/example/wayline/wayline/HeaderReader", "textBefore", "(C)Ljava/lang/String;"⟩ : MethodName)) (z := (⟨"com/example/wayline/wayline/HeaderReader", "textBefore", "(C)Ljava/lang/String;"⟩ : MethodName)) hown (mvT hZ (own_w hw 70 rfl)) (mvT hZ (own_w hw 71 rfl)) (notFace_of_selects (args := #[]) (mvT hZ (own_w hw 73 rfl))) (mvT hZ (own_w hw 73 rfl)) (mvT hZ (own_w hw 72 rfl)) (by decide) (backOfS (W := 0) (rmTB l Z a0 hw [] b207 b199 t203 0 0 3 (own_bl ([va, vb, vc] : List Int32)) vc G1 vF T214.heap n0 Zs214 f215 hG f216 hvF E214q V214q P214q f217 f218 f219 f220 (fun i hi => by have h3 : i = 0 ∨ i = 1 ∨ i = 2 := (by omega); rcases h3 with rfl | rfl | rfl <;> exact own_fitb _) hcvc.1 hcvc.2 (by omega) (by omega) (by omega) (congrArg (fun z : Int32 => z.toInt8.toInt32) c303) (fun i h1 h2 => absurd h2 (by omega)) sz207) hZ (own_w hw 74 rfl) (own_w hw 28 rfl) (by decide) (by decide)) q281a q281c (g := (mkF m 328 #[.val (.int i0), .val (.int i1), .val (.int i2), .val (.int i3), .val (.int i4), .val (.int (3 : Int32)), .val (.int va), .val (.int vb), .val (.int vc), .val (.ref b184), .val (.ref b199), .val (.ref b207), .val (.int (0 : Int32)), .unset, .val (.int (2 : Int32)), .val (.int vc), .val (.int (0 : Int32))] [(.int vc), (.ref b207)])) rfl (by rw [hml]; rfl) (Steps.refl _) (argsL := [(.int vc)]) (rest := []) (lenOf pd_11 rfl) rfl (by show 2 * 0 + _ ≤ _; exact Nat.le_of_eq rfl) (hb hby at_328) (fun _ _ => ⟨rfl, e223, (by decide : 4 + 2 ≤ _), (by decide : 12 + 8 ≤ _)⟩)
          dsimp only [Pt.U, Pt.locs, Pt.cells, Pt.slots] at X281 l281 y281 z281 st281 hQ281
          have l281y := l281.symm
          clear l281
          subst l281y
          obtain rfl : k281 = 6 := y281
          obtain rfl : n281 = 20 := z281
          dsimp only [Pt.U, Pt.locs, Pt.cells, Pt.slots] at hS281 hgr281
          obtain ⟨X281, hS, hZ, hown⟩ := rebS hS hk X281 hS281 (by rw [← e223]; exact hgr281) hZ hown
          have hk := Nat.le_refl T281.heap.size
          obtain ⟨b281, rfl, N281q, K281q, E281q, V281q, P281q⟩ := hQ281
          have N281 := Fr.app N223 N281q
          have f282 := own_staX f215 K281q E214q
          have f283 := own_staX f216 K281q E214q
          have f284 := f217.keep K281q
          have f285 := f218.keep K281q (ninS ne_b199_b207 nin0)
          have f286 := f219.keep K281q (ninS ne_b199_b207 nin0)
          have f287 := f220.keep K281q (ninS ne_t203_b207 nin0)
          have f288 := E214q.keep K281q
          have Zs281 : n0 ≤ T281.heap.size := Nat.le_trans Zs214 K281q.1
          refine own_toW T281 (mkF m 336 #[.val (.int i0), .val (.int i1), .val (.int i2), .val (.int i3), .val (.int i4), .val (.int (3 : Int32)), .val (.int va), .val (.int vb), .val (.int vc), .val (.ref b184), .val (.ref b199), .val (.ref b207), .val (.int (0 : Int32)), .unset, .val (.int (2 : Int32)), .val (.int vc), .val (.int (0 : Int32))] [(.int ((0 : Int32) + (1 : Int32)))]) (fun tq kq => st281.trans (XS.pop X281.here hx rfl (hb hby at_331) rfl rfl (XS.iload X281.here hx rfl (hb hby at_332) rfl (XS.iconst X281.here hx rfl (hb hby at_334) (XS.iadd X281.here hx rfl (hb hby at_335) rfl kq))))) ?_
          rw [show ((0 : Int32) + (1 : Int32)) = (1 : Int32) from by decide]
          refine own_toW T281 (mkF m 350 #[.val (.int i0), .val (.int i1), .val (.int i2), .val (.int i3), .val (.int i4), .val (.int (3 : Int32)), .val (.int va), .val (.int vb), .val (.int vc), .val (.ref b184), .val (.ref b199), .val (.ref b207), .val (.int (0 : Int32)), .val (.int (0 : Int32)), .val (.int (2 : Int32)), .val (.int vc), .val (.int (0 : Int32))] [(.ref b207)]) (fun tq kq => XS.iload X281.here hx rfl (hb hby at_336) rfl (XS.icmpYes X281.here hx rfl (pc0 := 338) (pc' := 345) rfl (hb hby at_338) rfl (tlt (by decide : (1 : Int32) < (3 : Int32))).1 (by decide) (by decide) (XS.iconst X281.here hx rfl (hb hby at_345) (XS.istore X281.here hx rfl (hb hby at_346) rfl (l' := #[.val (.int i0), .val (.int i1), .val (.int i2), .val (.int i3), .val (.int i4), .val (.int (3 : Int32)), .val (.int va), .val (.int vb), .val (.int vc), .val (.ref b184), .val (.ref b199), .val (.ref b207), .val (.int (0 : Int32)), .val (.int (0 : Int32)), .val (.int (2 : Int32)), .val (.int vc), .val (.int (0 : Int32))]) rfl (XS.aload X281.here hx rfl (hb hby at_348) rfl rfl kq))))) ?_
          obtain ⟨cq289, kq289, q289a, q289b, q289c⟩ := isOf hZ rfl E281q
          obtain ⟨_, _, ⟨T289, L289, k289, n289⟩, -, X289, ⟨Lc289, hQ289, l289, y289, z289⟩, st289⟩ := X281.virtualBack hx (y := (⟨"com/example/wayline/wayline/HeaderReader", "atEnd", "()Z"⟩ : MethodName)) (z := (⟨"com/example/wayline/wayline/HeaderReader", "atEnd", "()Z"⟩ : MethodName)) hown (mvT hZ (own_w hw 35 rfl)) (mvT hZ (own_w hw 36 rfl)) (notFace_of_selects (args := #[]) (mvT hZ (own_w hw 38 rfl))) (mvT hZ (own_w hw 38 rfl)) (mvT hZ (own_w hw 37 rfl)) (by decide) (backOf (W := 0) (rmEnd l Z a0 hw [] b207 b199 t203 (0 + 1) 3 (own_bl ([va, vb, vc] : List Int32)) G1 T281.heap n0 Zs281 f282 hG V281q P281q f284 f285 f286 f287 (by omega) (by omega)) hZ (own_w hw 39 rfl) (own_w hw 28 rfl) (by decide) (by decide)) q289a q289c (g := (mkF m 350 #[.val (.int i0), .val (.int i1), .val (.int i2), .val (.int i3), .val (.int i4), .val (.int (3 : Int32)), .val (.int va), .val (.int vb), .val (.int vc), .val (.ref b184), .val (.ref b199), .val (.ref b207), .val (.int (0 : Int32)), .val (.int (0 : Int32)), .val (.int (2 : Int32)), .val (.int vc), .val (.int (0 : Int32))] [(.ref b207)])) rfl (by rw [hml]; rfl) (Steps.refl _) (argsL := []) (rest := []) (lenOf pd_5 rfl) rfl (by show 2 * 0 + _ ≤ _; exact Nat.le_of_eq rfl) (hb hby at_350) (fun _ _ => ⟨rfl, rfl, (by decide : 6 + 0 ≤ _), (by decide : 20 + 0 ≤ _)⟩)
          dsimp only [Pt.U, Pt.locs, Pt.cells, Pt.slots] at X289 l289 y289 z289 st289 hQ289
          have l289y := l289.symm
          clear l289
          subst l289y
          obtain rfl : k289 = 6 := y289
          obtain rfl : n289 = 20 := z289
          obtain ⟨rfl, N289q, e289⟩ := hQ289
          have N289 := Fr.app N281 N289q
          refine own_toW T289 (mkF m 353 #[.val (.int i0), .val (.int i1), .val (.int i2), .val (.int i3), .val (.int i4), .val (.int (3 : Int32)), .val (.int va), .val (.int vb), .val (.int vc), .val (.ref b184), .val (.ref b199), .val (.ref b207), .val (.int (0 : Int32)), .val (.int (0 : Int32)), .val (.int (2 : Int32)), .val (.int vc), .val (.int (0 : Int32))] [(.int (own_end (0 + 1) 3))]) (fun tq kq => st289.trans kq) ?_
          rw [show (own_end (0 + 1) 3) = (0 : Int32) from if_pos (by omega)]
          refine own_toW T289 (mkF m 363 #[.val (.int i0), .val (.int i1), .val (.int i2), .val (.int i3), .val (.int i4), .val (.int (3 : Int32)), .val (.int va), .val (.int vb), .val (.int vc), .val (.ref b184), .val (.ref b199), .val (.ref b207), .val (.int (0 : Int32)), .val (.int (0 : Int32)), .val (.int (2 : Int32)), .val (.int vc), .val (.int (0 : Int32))] [(.int (1 : Int32))]) (fun tq kq => XS.iload X289.here hx rfl (hb hby at_353) rfl (XS.icmpNo X289.here hx rfl (hb hby at_355) rfl (teq (by decide : (0 : Int32) = (0 : Int32))).2 (XS.iconst X289.here hx rfl (hb hby at_358) (XS.goto X289.here hx rfl (pc0 := 359) (pc' := 363) rfl (hb hby at_359) (by decide) (by decide) kq)))) ?_
          exact own_retZW X289 hS (by rw [e289]; exact hk) hx hret hlk (hb hby at_363) (by decide) (by decide) (Or.inr rfl) ⟨rfl, N289⟩
        · skip
          refine own_toW T223 (mkF m 314 #[.val (.int i0), .val (.int i1), .val (.int i2), .val (.int i3), .val (.int i4), .val (.int (3 : Int32)), .val (.int va), .val (.int vb), .val (.int vc), .val (.ref b184), .val (.ref b199), .val (.ref b207), .val (.int (0 : Int32)), .unset, .val (.int (2 : Int32)), .val (.int vc), .unset] [(.int vc), (.int vb)]) (fun tq kq => XS.icmpYes X223.here hx rfl (pc0 := 303) (pc' := 310) rfl (hb hby at_303) rfl (feq c303).2 (by decide) (by decide) (XS.iload X223.here hx rfl (hb hby at_310) rfl (XS.iload X223.here hx rfl (hb hby at_312) rfl kq))) ?_
          by_cases c314 : vb = vc
          · skip
            refine own_toW T223 (mkF m 328 #[.val (.int i0), .val (.int i1), .val (.int i2), .val (.int i3), .val (.int i4), .val (.int (3 : Int32)), .val (.int va), .val (.int vb), .val (.int vc), .val (.ref b184), .val (.ref b199), .val (.ref b207), .val (.int (0 : Int32)), .unset, .val (.int (2 : Int32)), .val (.int vc), .val (.int (1 : Int32))] [(.int vc), (.ref b207)]) (fun tq kq => XS.icmpNo X223.here hx rfl (hb hby at_314) rfl (teq c314).2 (XS.iconst X223.here hx rfl (hb hby at_317) (XS.goto X223.here hx rfl (pc0 := 318) (pc' := 322) rfl (hb hby at_318) (by decide) (by decide) (XS.istore X223.here hx rfl (hb hby at_322) rfl (l' := #[.val (.int i0), .val (.int i1), .val (.int i2), .val (.int i3), .val (.int i4), .val (.int (3 : Int32)), .val (.int va), .val (.int vb), .val (.int vc), .val (.ref b184), .val (.ref b199), .val (.ref b207), .val (.int (0 : Int32)), .unset, .val (.int (2 : Int32)), .val (.int vc), .val (.int (1 : Int32))]) rfl (XS.aload X223.here hx rfl (hb hby at_324) rfl rfl (XS.iload X223.here hx rfl (hb hby at_326) rfl kq)))))) ?_
            obtain ⟨cq290, kq290, q290a, q290b, q290c⟩ := isOf hZ e223 E214q
            obtain ⟨_, _, ⟨T290, L290, k290, n290⟩, -, X290, hS290, hgr290, ⟨Lc290, hQ290, l290, y290, z290⟩, st290⟩ := X223.virtualBackS hx (y := (⟨"com/example/wayline/wayline/HeaderReader", "textBefore", "(C)Ljava/lang/String;"⟩ : MethodName)) (z := (⟨"com/example/wayline/wayline/HeaderReader", "textBefore", "(C)Ljava/lang/String;"⟩ : MethodName)) hown (mvT hZ (own_w hw 70 rfl)) (mvT hZ (own_w hw 71 rfl)) (notFace_of_selects (args := #[]) (mvT hZ (own_w hw 73 rfl))) (mvT hZ (own_w hw 73 rfl)) (mvT hZ (own_w hw 72 rfl)) (by decide) (backOfS (W := 0) (rmTB l Z a0 hw [] b207 b199 t203 0 1 3 (own_bl ([va, vb, vc] : List Int32)) vc G1 vF T214.heap n0 Zs214 f215 hG f216 hvF E214q V214q P214q f217 f218 f219 f220 (fun i hi => by have h3 : i = 0 ∨ i = 1 ∨ i = 2 := (by omega); rcases h3 with rfl | rfl | rfl <;> exact own_fitb _) hcvc.1 hcvc.2 (by omega) (by omega) (by omega) (congrArg (fun z : Int32 => z.toInt8.toInt32) c314) (fun i h1 h2 => by have h3 : i = 0 := (by omega); rcases h3 with rfl; exact fun z => c303 (own_b8 hcva hcvc z)) sz207) hZ (own_w hw 74 rfl) (own_w hw 28 rfl) (by decide) (by decide)) q290a q290c (g := (mkF m 328 #[.val (.int i0), .val (.int i1), .val (.int i2), .val (.int i3), .val (.int i4), .val (.int (3 : Int32)), .val (.int va), .val (.int vb), .val (.int vc), .val (.ref b184), .val (.ref b199), .val (.ref b207), .val (.int (0 : Int32)), .unset, .val (.int (2 : Int32)), .val (.int vc), .val (.int (1 : Int32))] [(.int vc), (.ref b207)])) rfl (by rw [hml]; rfl) (Steps.refl _) (argsL := [(.int vc)]) (rest := []) (lenOf pd_11 rfl) rfl (by show 2 * 0 + _ ≤ _; exact Nat.le_of_eq rfl) (hb hby at_328) (fun _ _ => ⟨rfl, e223, (by decide : 4 + 2 ≤ _), (by decide : 12 + 8 ≤ _)⟩)
            dsimp only [Pt.U, Pt.locs, Pt.cells, Pt.slots] at X290 l290 y290 z290 st290 hQ290
            have l290y := l290.symm
            clear l290
            subst l290y
            obtain rfl : k290 = 6 := y290
            obtain rfl : n290 = 20 := z290
            dsimp only [Pt.U, Pt.locs, Pt.cells, Pt.slots] at hS290 hgr290
            obtain ⟨X290, hS, hZ, hown⟩ := rebS hS hk X290 hS290 (by rw [← e223]; exact hgr290) hZ hown
            have hk := Nat.le_refl T290.heap.size
            obtain ⟨b290, rfl, N290q, K290q, E290q, V290q, P290q⟩ := hQ290
            have N290 := Fr.app N223 N290q
            have f291 := own_staX f215 K290q E214q
            have f292 := own_staX f216 K290q E214q
            have f293 := f217.keep K290q
            have f294 := f218.keep K290q (ninS ne_b199_b207 nin0)
            have f295 := f219.keep K290q (ninS ne_b199_b207 nin0)
            have f296 := f220.keep K290q (ninS ne_t203_b207 nin0)
            have f297 := E214q.keep K290q
            have Zs290 : n0 ≤ T290.heap.size := Nat.le_trans Zs214 K290q.1
            refine own_toW T290 (mkF m 336 #[.val (.int i0), .val (.int i1), .val (.int i2), .val (.int i3), .val (.int i4), .val (.int (3 : Int32)), .val (.int va), .val (.int vb), .val (.int vc), .val (.ref b184), .val (.ref b199), .val (.ref b207), .val (.int (0 : Int32)), .unset, .val (.int (2 : Int32)), .val (.int vc), .val (.int (1 : Int32))] [(.int ((1 : Int32) + (1 : Int32)))]) (fun tq kq => st290.trans (XS.pop X290.here hx rfl (hb hby at_331) rfl rfl (XS.iload X290.here hx rfl (hb hby at_332) rfl (XS.iconst X290.here hx rfl (hb hby at_334) (XS.iadd X290.here hx rfl (hb hby at_335) rfl kq))))) ?_
            rw [show ((1 : Int32) + (1 : Int32)) = (2 : Int32) from by decide]
            refine own_toW T290 (mkF m 350 #[.val (.int i0), .val (.int i1), .val (.int i2), .val (.int i3), .val (.int i4), .val (.int (3 : Int32)), .val (.int va), .val (.int vb), .val (.int vc), .val (.ref b184), .val (.ref b199), .val (.ref b207), .val (.int (0 : Int32)), .val (.int (0 : Int32)), .val (.int (2 : Int32)), .val (.int vc), .val (.int (1 : Int32))] [(.ref b207)]) (fun tq kq => XS.iload X290.here hx rfl (hb hby at_336) rfl (XS.icmpYes X290.here hx rfl (pc0 := 338) (pc' := 345) rfl (hb hby at_338) rfl (tlt (by decide : (2 : Int32) < (3 : Int32))).1 (by decide) (by decide) (XS.iconst X290.here hx rfl (hb hby at_345) (XS.istore X290.here hx rfl (hb hby at_346) rfl (l' := #[.val (.int i0), .val (.int i1), .val (.int i2), .val (.int i3), .val (.int i4), .val (.int (3 : Int32)), .val (.int va), .val (.int vb), .val (.int vc), .val (.ref b184), .val (.ref b199), .val (.ref b207), .val (.int (0 : Int32)), .val (.int (0 : Int32)), .val (.int (2 : Int32)), .val (.int vc), .val (.int (1 : Int32))]) rfl (XS.aload X290.here hx rfl (hb hby at_348) rfl rfl kq))))) ?_
            obtain ⟨cq298, kq298, q298a, q298b, q298c⟩ := isOf hZ rfl E290q
            obtain ⟨_, _, ⟨T298, L298, k298, n298⟩, -, X298, ⟨Lc298, hQ298, l298, y298, z298⟩, st298⟩ := X290.virtualBack hx (y := (⟨"com/example/wayline/wayline/HeaderReader", "atEnd", "()Z"⟩ : MethodName)) (z := (⟨"com/example/wayline/wayline/HeaderReader", "atEnd", "()Z"⟩ : MethodName)) hown (mvT hZ (own_w hw 35 rfl)) (mvT hZ (own_w hw 36 rfl)) (notFace_of_selects (args := #[]) (mvT hZ (own_w hw 38 rfl))) (mvT hZ (own_w hw 38 rfl)) (mvT hZ (own_w hw 37 rfl)) (by decide) (backOf (W := 0) (rmEnd l Z a0 hw [] b207 b199 t203 (1 + 1) 3 (own_bl ([va, vb, vc] : List Int32)) G1 T290.heap n0 Zs290 f291 hG V290q P290q f293 f294 f295 f296 (by omega) (by omega)) hZ (own_w hw 39 rfl) (own_w hw 28 rfl) (by decide) (by decide)) q298a q298c (g := (mkF m 350 #[.val (.int i0), .val (.int i1), .val (.int i2), .val (.int i3), .val (.int i4), .val (.int (3 : Int32)), .val (.int va), .val (.int vb), .val (.int vc), .val (.ref b184), .val (.ref b199), .val (.ref b207), .val (.int (0 : Int32)), .val (.int (0 : Int32)), .val (.int (2 : Int32)), .val (.int vc), .val (.int (1 : Int32))] [(.ref b207)])) rfl (by rw [hml]; rfl) (Steps.refl _) (argsL := []) (rest := []) (lenOf pd_5 rfl) rfl (by show 2 * 0 + _ ≤ _; exact Nat.le_of_eq rfl) (hb hby at_350) (fun _ _ => ⟨rfl, rfl, (by decide : 6 + 0 ≤ _), (by decide : 20 + 0 ≤ _)⟩)
            dsimp only [Pt.U, Pt.locs, Pt.cells, Pt.slots] at X298 l298 y298 z298 st298 hQ298
            have l298y := l298.symm
            clear l298
            subst l298y
            obtain rfl : k298 = 6 := y298
            obtain rfl : n298 = 20 := z298
            obtain ⟨rfl, N298q, e298⟩ := hQ298
            have N298 := Fr.app N290 N298q
            refine own_toW T298 (mkF m 353 #[.val (.int i0), .val (.int i1), .val (.int i2), .val (.int i3), .val (.int i4), .val (.int (3 : Int32)), .val (.int va), .val (.int vb), .val (.int vc), .val (.ref b184), .val (.ref b199), .val (.ref b207), .val (.int (0 : Int32)), .val (.int (0 : Int32)), .val (.int (2 : Int32)), .val (.int vc), .val (.int (1 : Int32))] [(.int (own_end (1 + 1) 3))]) (fun tq kq => st298.trans kq) ?_
            rw [show (own_end (1 + 1) 3) = (0 : Int32) from if_pos (by omega)]
            refine own_toW T298 (mkF m 363 #[.val (.int i0), .val (.int i1), .val (.int i2), .val (.int i3), .val (.int i4), .val (.int (3 : Int32)), .val (.int va), .val (.int vb), .val (.int vc), .val (.ref b184), .val (.ref b199), .val (.ref b207), .val (.int (0 : Int32)), .val (.int (0 : Int32)), .val (.int (2 : Int32)), .val (.int vc), .val (.int (1 : Int32))] [(.int (1 : Int32))]) (fun tq kq => XS.iload X298.here hx rfl (hb hby at_353) rfl (XS.icmpNo X298.here hx rfl (hb hby at_355) rfl (teq (by decide : (0 : Int32) = (0 : Int32))).2 (XS.iconst X298.here hx rfl (hb hby at_358) (XS.goto X298.here hx rfl (pc0 := 359) (pc' := 363) rfl (hb hby at_359) (by decide) (by decide) kq)))) ?_
            exact own_retZW X298 hS (by rw [e298]; exact hk) hx hret hlk (hb hby at_363) (by decide) (by decide) (Or.inr rfl) ⟨rfl, N298⟩
          · skip
            refine own_toW T223 (mkF m 328 #[.val (.int i0), .val (.int i1), .val (.int i2), .val (.int i3), .val (.int i4), .val (.int (3 : Int32)), .val (.int va), .val (.int vb), .val (.int vc), .val (.ref b184), .val (.ref b199), .val (.ref b207), .val (.int (0 : Int32)), .unset, .val (.int (2 : Int32)), .val (.int vc), .val (.int (2 : Int32))] [(.int vc), (.ref b207)]) (fun tq kq => XS.icmpYes X223.here hx rfl (pc0 := 314) (pc' := 321) rfl (hb hby at_314) rfl (feq c314).2 (by decide) (by decide) (XS.iconst X223.here hx rfl (hb hby at_321) (XS.istore X223.here hx rfl (hb hby at_322) rfl (l' := #[.val (.int i0), .val (.int i1), .val (.int i2), .val (.int i3), .val (.int i4), .val (.int (3 : Int32)), .val (.int va), .val (.int vb), .val (.int vc), .val (.ref b184), .val (.ref b199), .val (.ref b207), .val (.int (0 : Int32)), .unset, .val (.int (2 : Int32)), .val (.int vc), .val (.int (2 : Int32))]) rfl (XS.aload X223.here hx rfl (hb hby at_324) rfl rfl (XS.iload X223.here hx rfl (hb hby at_326) rfl kq))))) ?_
            obtain ⟨cq299, kq299, q299a, q299b, q299c⟩ := isOf hZ e223 E214q
            obtain ⟨_, _, ⟨T299, L299, k299, n299⟩, -, X299, hS299, hgr299, ⟨Lc299, hQ299, l299, y299, z299⟩, st299⟩ := X223.virtualBackS hx (y := (⟨"com/example/wayline/wayline/HeaderReader", "textBefore", "(C)Ljava/lang/String;"⟩ : MethodName)) (z := (⟨"com/example/wayline/wayline/HeaderReader", "textBefore", "(C)Ljava/lang/String;"⟩ : MethodName)) hown (mvT hZ (own_w hw 70 rfl)) (mvT hZ (own_w hw 71 rfl)) (notFace_of_selects (args := #[]) (mvT hZ (own_w hw 73 rfl))) (mvT hZ (own_w hw 73 rfl)) (mvT hZ (own_w hw 72 rfl)) (by decide) (backOfS (W := 0) (rmTB l Z a0 hw [] b207 b199 t203 0 2 3 (own_bl ([va, vb, vc] : List Int32)) vc G1 vF T214.heap n0 Zs214 f215 hG f216 hvF E214q V214q P214q f217 f218 f219 f220 (fun i hi => by have h3 : i = 0 ∨ i = 1 ∨ i = 2 := (by omega); rcases h3 with rfl | rfl | rfl <;> exact own_fitb _) hcvc.1 hcvc.2 (by omega) (by omega) (by omega) rfl (fun i h1 h2 => by have h3 : i = 0 ∨ i = 1 := (by omega); rcases h3 with rfl | rfl <;> first | exact fun z => c303 (own_b8 hcva hcvc z) | exact fun z => c314 (own_b8 hcvb hcvc z)) sz207) hZ (own_w hw 74 rfl) (own_w hw 28 rfl) (by decide) (by decide)) q299a q299c (g := (mkF m 328 #[.val (.int i0), .val (.int i1), .val (.int i2), .val (.int i3), .val (.int i4), .val (.int (3 : Int32)), .val (.int va), .val (.int vb), .val (.int vc), .val (.ref b184), .val (.ref b199), .val (.ref b207), .val (.int (0 : Int32)), .unset, .val (.int (2 : Int32)), .val (.int vc), .val (.int (2 : Int32))] [(.int vc), (.ref b207)])) rfl (by rw [hml]; rfl) (Steps.refl _) (argsL := [(.int vc)]) (rest := []) (lenOf pd_11 rfl) rfl (by show 2 * 0 + _ ≤ _; exact Nat.le_of_eq rfl) (hb hby at_328) (fun _ _ => ⟨rfl, e223, (by decide : 4 + 2 ≤ _), (by decide : 12 + 8 ≤ _)⟩)
            dsimp only [Pt.U, Pt.locs, Pt.cells, Pt.slots] at X299 l299 y299 z299 st299 hQ299
            have l299y := l299.symm
            clear l299
            subst l299y
            obtain rfl : k299 = 6 := y299
            obtain rfl : n299 = 20 := z299
            dsimp only [Pt.U, Pt.locs, Pt.cells, Pt.slots] at hS299 hgr299
            obtain ⟨X299, hS, hZ, hown⟩ := rebS hS hk X299 hS299 (by rw [← e223]; exact hgr299) hZ hown
            have hk := Nat.le_refl T299.heap.size
            obtain ⟨b299, rfl, N299q, K299q, E299q, V299q, P299q⟩ := hQ299
            have N299 := Fr.app N223 N299q
            have f300 := own_staX f215 K299q E214q
            have f301 := own_staX f216 K299q E214q
            have f302 := f217.keep K299q
            have f303 := f218.keep K299q (ninS ne_b199_b207 nin0)
            have f304 := f219.keep K299q (ninS ne_b199_b207 nin0)
            have f305 := f220.keep K299q (ninS ne_t203_b207 nin0)
            have f306 := E214q.keep K299q
            have Zs299 : n0 ≤ T299.heap.size := Nat.le_trans Zs214 K299q.1
            refine own_toW T299 (mkF m 336 #[.val (.int i0), .val (.int i1), .val (.int i2), .val (.int i3), .val (.int i4), .val (.int (3 : Int32)), .val (.int va), .val (.int vb), .val (.int vc), .val (.ref b184), .val (.ref b199), .val (.ref b207), .val (.int (0 : Int32)), .unset, .val (.int (2 : Int32)), .val (.int vc), .val (.int (2 : Int32))] [(.int ((2 : Int32) + (1 : Int32)))]) (fun tq kq => st299.trans (XS.pop X299.here hx rfl (hb hby at_331) rfl rfl (XS.iload X299.here hx rfl (hb hby at_332) rfl (XS.iconst X299.here hx rfl (hb hby at_334) (XS.iadd X299.here hx rfl (hb hby at_335) rfl kq))))) ?_
            rw [show ((2 : Int32) + (1 : Int32)) = (3 : Int32) from by decide]
            refine own_toW T299 (mkF m 350 #[.val (.int i0), .val (.int i1), .val (.int i2), .val (.int i3), .val (.int i4), .val (.int (3 : Int32)), .val (.int va), .val (.int vb), .val (.int vc), .val (.ref b184), .val (.ref b199), .val (.ref b207), .val (.int (0 : Int32)), .val (.int (1 : Int32)), .val (.int (2 : Int32)), .val (.int vc), .val (.int (2 : Int32))] [(.ref b207)]) (fun tq kq => XS.iload X299.here hx rfl (hb hby at_336) rfl (XS.icmpNo X299.here hx rfl (hb hby at_338) rfl (flt (by decide : ¬ ((3 : Int32) < (3 : Int32)))).1 (XS.iconst X299.here hx rfl (hb hby at_341) (XS.goto X299.here hx rfl (pc0 := 342) (pc' := 346) rfl (hb hby at_342) (by decide) (by decide) (XS.istore X299.here hx rfl (hb hby at_346) rfl (l' := #[.val (.int i0), .val (.int i1), .val (.int i2), .val (.int i3), .val (.int i4), .val (.int (3 : Int32)), .val (.int va), .val (.int vb), .val (.int vc), .val (.ref b184), .val (.ref b199), .val (.ref b207), .val (.int (0 : Int32)), .val (.int (1 : Int32)), .val (.int (2 : Int32)), .val (.int vc), .val (.int (2 : Int32))]) rfl (XS.aload X299.here hx rfl (hb hby at_348) rfl rfl kq)))))) ?_
            obtain ⟨cq307, kq307, q307a, q307b, q307c⟩ := isOf hZ rfl E299q
            obtain ⟨_, _, ⟨T307, L307, k307, n307⟩, -, X307, ⟨Lc307, hQ307, l307, y307, z307⟩, st307⟩ := X299.virtualBack hx (y := (⟨"com/example/wayline/wayline/HeaderReader", "atEnd", "()Z"⟩ : MethodName)) (z := (⟨"com/example/wayline/wayline/HeaderReader", "atEnd", "()Z"⟩ : MethodName)) hown (mvT hZ (own_w hw 35 rfl)) (mvT hZ (own_w hw 36 rfl)) (notFace_of_selects (args := #[]) (mvT hZ (own_w hw 38 rfl))) (mvT hZ (own_w hw 38 rfl)) (mvT hZ (own_w hw 37 rfl)) (by decide) (backOf (W := 0) (rmEnd l Z a0 hw [] b207 b199 t203 (2 + 1) 3 (own_bl ([va, vb, vc] : List Int32)) G1 T299.heap n0 Zs299 f300 hG V299q P299q f302 f303 f304 f305 (by omega) (by omega)) hZ (own_w hw 39 rfl) (own_w hw 28 rfl) (by decide) (by decide)) q307a q307c (g := (mkF m 350 #[.val (.int i0), .val (.int i1), .val (.int i2), .val (.int i3), .val (.int i4), .val (.int (3 : Int32)), .val (.int va), .val (.int vb), .val (.int vc), .val (.ref b184), .val (.ref b199), .val (.ref b207), .val (.int (0 : Int32)), .val (.int (1 : Int32)), .val (.int (2 : Int32)), .val (.int vc), .val (.int (2 : Int32))] [(.ref b207)])) rfl (by rw [hml]; rfl) (Steps.refl _) (argsL := []) (rest := []) (lenOf pd_5 rfl) rfl (by show 2 * 0 + _ ≤ _; exact Nat.le_of_eq rfl) (hb hby at_350) (fun _ _ => ⟨rfl, rfl, (by decide : 6 + 0 ≤ _), (by decide : 20 + 0 ≤ _)⟩)
            dsimp only [Pt.U, Pt.locs, Pt.cells, Pt.slots] at X307 l307 y307 z307 st307 hQ307
            have l307y := l307.symm
            clear l307
            subst l307y
            obtain rfl : k307 = 6 := y307
            obtain rfl : n307 = 20 := z307
            obtain ⟨rfl, N307q, e307⟩ := hQ307
            have N307 := Fr.app N299 N307q
            refine own_toW T307 (mkF m 353 #[.val (.int i0), .val (.int i1), .val (.int i2), .val (.int i3), .val (.int i4), .val (.int (3 : Int32)), .val (.int va), .val (.int vb), .val (.int vc), .val (.ref b184), .val (.ref b199), .val (.ref b207), .val (.int (0 : Int32)), .val (.int (1 : Int32)), .val (.int (2 : Int32)), .val (.int vc), .val (.int (2 : Int32))] [(.int (own_end (2 + 1) 3))]) (fun tq kq => st307.trans kq) ?_
            rw [show (own_end (2 + 1) 3) = (1 : Int32) from if_neg (by omega)]
            refine own_toW T307 (mkF m 363 #[.val (.int i0), .val (.int i1), .val (.int i2), .val (.int i3), .val (.int i4), .val (.int (3 : Int32)), .val (.int va), .val (.int vb), .val (.int vc), .val (.ref b184), .val (.ref b199), .val (.ref b207), .val (.int (0 : Int32)), .val (.int (1 : Int32)), .val (.int (2 : Int32)), .val (.int vc), .val (.int (2 : Int32))] [(.int (1 : Int32))]) (fun tq kq => XS.iload X307.here hx rfl (hb hby at_353) rfl (XS.icmpNo X307.here hx rfl (hb hby at_355) rfl (teq (by decide : (1 : Int32) = (1 : Int32))).2 (XS.iconst X307.here hx rfl (hb hby at_358) (XS.goto X307.here hx rfl (pc0 := 359) (pc' := 363) rfl (hb hby at_359) (by decide) (by decide) kq)))) ?_
            exact own_retZW X307 hS (by rw [e307]; exact hk) hx hret hlk (hb hby at_363) (by decide) (by decide) (Or.inr rfl) ⟨rfl, N307⟩
set_option maxRecDepth 65536 in
set_option maxHeartbeats 40000000 in
theorem comes_1 {Post : Tables → Env → Array Value → State → Outcome → State → Prop} (hpost : ∀ tb e args s v u, (limb_1_1.after args s (.returned v) u = true ∧ limb_1_2.after args s (.returned v) u = true ∧ True) → FramedW s (.returned v) u (Jvm.fieldLocs frame_1_writes args s ++ Jvm.arrayLocs frame_1_arrays args s ++ Jvm.staticLocs frame_1_statics s) 24 2176 → Post tb e args s (.returned v) u) :
    ArmFor flags0 classFile x code maxLocals ret World_1 tables_1 room_1 Calls_1 rest_1 Pre_1 Post := by
  intro l hfl _ _ p e ha hc hk s m args below hf hA hF happ hP
  obtain ⟨hcalls, hrest, hpre⟩ := hP
  obtain ⟨-, -, -, hnamed, -, -, -, hat⟩ := (Spec.applies_iff hf).mp happ
  obtain ⟨hg, hn⟩ := and_e (Cond.before_iff.mp (show (Jvm.Cond.and given_1 narrow_1).before args s = true from hpre))
  obtain ⟨q1, q2⟩ := and_e hg
  obtain ⟨q3, q4⟩ := and_e q2
  obtain ⟨q5, q6⟩ := and_e q4
  obtain ⟨q7, q8⟩ := and_e q6
  obtain ⟨q9, q10⟩ := and_e q8
  obtain ⟨w0, w1, w2, w3, w4, rfl⟩ : ∃ w0 w1 w2 w3 w4 : Value, args = #[w0, w1, w2, w3, w4] := by
    have hs : args.size = 5 := by simpa [Cond.value, given_1] using q1
    obtain ⟨L⟩ := args
    match L, hs with
    | [w0, w1, w2, w3, w4], _ => exact ⟨w0, w1, w2, w3, w4, rfl⟩
  have hw := fun d (hd : d ∈ tables_1) => atoms_spec (ws := Jvm.Cond.code x code maxLocals ret :: tables_1) hat d (List.mem_cons_of_mem _ hd)
  have hfit : Fit s := fun {y c} hc i hi => by
    obtain ⟨ha, rfl⟩ := Array.getElem?_eq_some_iff.mp hc
    have q := List.all_eq_true.mp ((Array.all_eq_true_iff_forall_mem.mp hF) _ (Array.getElem_mem ha)) i (List.mem_range.mpr hi)
    simpa [Array.getElem?_eq_getElem hi] using q
  obtain ⟨hsets, hown0⟩ := atoms_of _ (rest_1_c_eq ▸ (show rest_1_c.before _ s = true from hrest))
  have hr0 := Cond.before_iff.mp hown0
  obtain ⟨i0, ei0⟩ := is_v q3
  obtain rfl : w0 = (.int i0) := Option.some.inj ei0
  obtain ⟨i1, ei1⟩ := is_v q5
  obtain rfl : w1 = (.int i1) := Option.some.inj ei1
  obtain ⟨i2, ei2⟩ := is_v q7
  obtain rfl : w2 = (.int i2) := Option.some.inj ei2
  obtain ⟨i3, ei3⟩ := is_v q9
  obtain rfl : w3 = (.int i3) := Option.some.inj ei3
  obtain ⟨i4, ei4⟩ := is_v q10
  obtain rfl : w4 = (.int i4) := Option.some.inj ei4
  have nC := not_v (Cond.before_iff.mp (hsets _ (List.mem_of_getElem? (i := 2) rfl)))
  obtain ⟨G1, eG1⟩ := is_v (Cond.before_iff.mp (hsets _ (List.mem_of_getElem? (i := 1) rfl)))
  have O2 : Sta s s.heap "java/lang/String" "COMPACT_STRINGS" "Z" (.int G1) := Sta.start eG1 (Or.inl (hsets _ (List.mem_of_getElem? (i := 0) rfl)))
  have hG1 : ¬ (G1 = (0 : Int32)) := gotF (Cond.eq_ints eG1 (Term.int_eval (0))) nC
  obtain ⟨vF, eF, hvF⟩ := isR_v (Cond.before_iff.mp (hsets _ (List.mem_of_getElem? (i := 8) rfl)))
  have O4 : Sta s s.heap "jdk/internal/util/Preconditions" "SIOOBE_FORMATTER" "Ljava/util/function/BiFunction;" vF := Sta.start eF (Or.inl (hsets _ (List.mem_of_getElem? (i := 7) rfl)))
  have hEL : EW s _ consts_1 := (EW.cons (own_w hw 18 rfl) (by decide) (EW.cons (own_w hw 119 rfl) (by decide) EW.nil))
  have hCH0 : CHv s consts_1 s.vm s.heap := CHv.start hEL hcalls.1 (hsets _ (List.mem_of_getElem? (i := 2) rfl)) (own_w hw 19 rfl) (own_w hw 6 rfl)
  obtain ⟨n, o, h1, h2, h3, _, L, rfl, ⟨rfl, N⟩, hq⟩ := rm0 l s _ hw tables_1 i0 i1 i2 i3 i4 G1 vF s.heap s.heap.size (Nat.le_refl _) O2 hG1 O4 hvF hEL p e ha hc hk s m _ below hf ((Spec.applies_iff_loose hf).mp happ).1 ⟨rfl, State.Warmed39.refl s, rfl, hCH0⟩ trivial
  refine ⟨n, _, h1, h2, h3, hpost _ _ _ _ _ _ ⟨Cond.after_iff.mpr rfl, Cond.after_iff.mpr (eq_i res_at (Term.int_eval (1)) rfl), trivial⟩ ⟨hq.1, hq.2.1, hq.2.2.1, (hq.2.2.2.sift fun y hy => Or.inr (N y hy)).mono (by decide) (by decide)⟩⟩
theorem main_1_1 : Claimed_1_1 := comes_1 fun _ _ _ _ _ _ h hF => ⟨h.1, hF⟩
theorem main_1_2 : Claimed_1_2 := comes_1 fun _ _ _ _ _ _ h hF => ⟨h.2.1, hF⟩
end Jvm.Pilot.@@N@@
namespace Jvm.Pilot.@@N@@
open Jvm Jvm.ClassFile Sem Op Lib Jvm.Free Jvm.Stand Jvm.Pilot.@@N@@.Jvm.D
/-! MADE BY PROGRAM (witnessworld.py) out of the Statement's table words and the real class files: 23 classes; the members and pool entries that the words name. The judged class is class 1, her method 3. -/
namespace start1
open Jvm.ClassFile
def u (s : String) : CpInfo := .utf8 (stringToUtf16 s)
/-- a pool by its gaps: so many unusable entries, then the entry; so many at the end -/
def gap : Nat → List CpInfo → List CpInfo
  | 0, r => r
  | n + 1, r => .unusable :: gap n r
def poolList (es : List (Nat × CpInfo)) (last : Nat) : List CpInfo := es.foldr (fun e r => gap e.1 (e.2 :: r)) (gap last [])
def pool (es : List (Nat × CpInfo)) (last : Nat) : Array CpInfo := ⟨poolList es last⟩
def fileOf (pool : Array CpInfo) (this : Nat) (attrs : Array Attribute := #[]) (ms : Array MethodInfo := #[]) (fl : Nat := 33) (sup : Nat := 0) (ifs : Array Nat := #[]) (fds : Array FieldInfo := #[]) : ClassFile where
  minorVersion := 0
  majorVersion := 65
  constantPool := pool
  accessFlags := fl
  thisClass := this
  superClass := sup
  interfaces := ifs
  fields := fds
  methods := ms
  attributes := attrs
def plain (name : String) (sup : Option ClassId) : Class where
  name := name
  kind := .ordinary
  loader := none
  accessFlags := 33
  super := sup
  interfaces := #[]
  cf := none
  fields := #[]
  methods := #[]
  instanceTypes := #[]
  staticTypes := #[]
  resolved := #[]
  callSites := []
  init := .initialized
  statics := none
  mirror := none

def pool0 : Array CpInfo := pool [(5, u "<init>"), (0, u "()V"), (1, .class_ 10), (1, u "java/lang/Object")] 113

def k0c0 : Code := { maxStack := 0, maxLocals := 1, code := object_method_1_code, exceptionTable := #[], attributes := #[] }
def k0m0 : Method := { name := "<init>", desc := "()V", sig := { parameters := [], returnType := none }, accessFlags := 1, code := some k0c0 }
/-- java/lang/Object -/
def k0 : Class := { plain "java/lang/Object" none with
  accessFlags := 33
  interfaces := #[]
  cf := some (fileOf pool0 8 #[] #[{ accessFlags := 1, nameIndex := 5, descriptorIndex := 6, attributes := #[] }] 33 0 #[] #[])
  fields := #[]
  methods := #[k0m0]
  instanceTypes := #[]
  staticTypes := #[]
  resolved := Array.replicate 124 none
  statics := none }

def pool1 : Array CpInfo := pool [(2, .class_ 4), (1, u "java/lang/Object"), (0, u "<init>"), (0, u "()V"), (0, .methodref 8 9), (0, .class_ 10), (0, .nameAndType 11 12), (0, u "com/example/wayline/wayline/HeaderReaderAtEndPinLaw"), (0, u "draw"), (0, u "(I)C"), (0, .class_ 14), (0, u "java/lang/String"), (0, .methodref 13 16), (0, .nameAndType 5 17), (0, u "([C)V"), (0, .class_ 19), (0, u "com/example/wayline/wayline/HeaderReader"), (0, .methodref 18 21), (0, .nameAndType 5 22), (0, u "(Ljava/lang/String;)V"), (0, .methodref 18 24), (0, .nameAndType 25 26), (0, u "atEnd"), (0, u "()Z"), (0, .methodref 18 28), (0, .nameAndType 29 6), (0, u "skipWhiteSpace"), (0, .methodref 8 31), (0, .nameAndType 32 33), (0, u "ws"), (0, u "(C)Z"), (0, .integer 2147483647), (0, .methodref 18 36), (0, .nameAndType 37 38), (0, u "textBefore"), (0, u "(C)Ljava/lang/String;"), (3, u "law"), (0, u "(IIIII)Z")] 4

def k1m0 : Method := { name := "<init>", desc := "()V", sig := { parameters := [], returnType := none }, accessFlags := 1, code := none }
def k1c1 : Code := { maxStack := 2, maxLocals := 2, code := method_2_code, exceptionTable := #[], attributes := #[] }
def k1m1 : Method := { name := "draw", desc := "(I)C", sig := { parameters := [.int], returnType := some .char }, accessFlags := 10, code := some k1c1 }
def k1c2 : Code := { maxStack := 2, maxLocals := 1, code := method_3_code, exceptionTable := #[], attributes := #[] }
def k1m2 : Method := { name := "ws", desc := "(C)Z", sig := { parameters := [.char], returnType := some .boolean }, accessFlags := 10, code := some k1c2 }
def k1c3 : Code := { maxStack := 4, maxLocals := 17, code := code, exceptionTable := #[], attributes := #[] }
def k1m3 : Method := { name := "law", desc := "(IIIII)Z", sig := { parameters := [.int, .int, .int, .int, .int], returnType := some .boolean }, accessFlags := 9, code := some k1c3 }
/-- com/example/wayline/wayline/HeaderReaderAtEndPinLaw -/
def k1 : Class := { plain "com/example/wayline/wayline/HeaderReaderAtEndPinLaw" (some 0) with
  accessFlags := 49
  interfaces := #[]
  cf := some (fileOf pool1 8 #[] #[{ accessFlags := 1, nameIndex := 5, descriptorIndex := 6, attributes := #[] }, { accessFlags := 10, nameIndex := 11, descriptorIndex := 12, attributes := #[] }, { accessFlags := 10, nameIndex := 32, descriptorIndex := 33, attributes := #[] }, { accessFlags := 9, nameIndex := 42, descriptorIndex := 43, attributes := #[] }] 49 2 #[] #[])
  fields := #[]
  methods := #[k1m0, k1m1, k1m2, k1m3]
  instanceTypes := #[]
  staticTypes := #[]
  resolved := Array.replicate 48 none
  statics := none }

def pool2 : Array CpInfo := pool [(1, .class_ 2), (0, u "java/io/Serializable"), (0, .class_ 4), (0, u "java/lang/Object")] 2

/-- java/io/Serializable -/
def k2 : Class := { plain "java/io/Serializable" (some 0) with
  accessFlags := 1537
  interfaces := #[]
  cf := some (fileOf pool2 1 #[] #[] 1537 3 #[] #[])
  fields := #[]
  methods := #[]
  instanceTypes := #[]
  staticTypes := #[]
  resolved := Array.replicate 7 none
  statics := none }

def pool3 : Array CpInfo := pool [(1, .class_ 2), (0, u "java/lang/Comparable"), (0, .class_ 4), (0, u "java/lang/Object")] 7

/-- java/lang/Comparable -/
def k3 : Class := { plain "java/lang/Comparable" (some 0) with
  accessFlags := 1537
  interfaces := #[]
  cf := some (fileOf pool3 1 #[] #[] 1537 3 #[] #[])
  fields := #[]
  methods := #[]
  instanceTypes := #[]
  staticTypes := #[]
  resolved := Array.replicate 12 none
  statics := none }

def pool4 : Array CpInfo := pool [(2, .class_ 4), (1, u "java/lang/CharSequence"), (42, .class_ 48), (0, u "java/lang/CharSequence$1CodePointIterator"), (10, .class_ 60), (0, u "java/lang/CharSequence$1CharIterator"), (5, .class_ 67), (0, u "java/lang/Object")] 63

/-- java/lang/CharSequence -/
def k4 : Class := { plain "java/lang/CharSequence" (some 0) with
  accessFlags := 1537
  interfaces := #[]
  cf := some (fileOf pool4 2 #[.nestMembers #[47, 59]] #[] 1537 66 #[] #[])
  fields := #[]
  methods := #[]
  instanceTypes := #[]
  staticTypes := #[]
  resolved := Array.replicate 131 none
  statics := none }

def pool5 : Array CpInfo := pool [(1, .class_ 2), (0, u "java/lang/constant/Constable"), (0, .class_ 4), (0, u "java/lang/Object")] 6

/-- java/lang/constant/Constable -/
def k5 : Class := { plain "java/lang/constant/Constable" (some 0) with
  accessFlags := 1537
  interfaces := #[]
  cf := some (fileOf pool5 1 #[] #[] 1537 3 #[] #[])
  fields := #[]
  methods := #[]
  instanceTypes := #[]
  staticTypes := #[]
  resolved := Array.replicate 11 none
  statics := none }

def pool6 : Array CpInfo := pool [(1, .class_ 2), (0, u "java/lang/constant/ConstantDesc"), (0, .class_ 4), (0, u "java/lang/Object")] 32

/-- java/lang/constant/ConstantDesc -/
def k6 : Class := { plain "java/lang/constant/ConstantDesc" (some 0) with
  accessFlags := 1537
  interfaces := #[]
  cf := some (fileOf pool6 1 #[] #[] 1537 3 #[] #[])
  fields := #[]
  methods := #[]
  instanceTypes := #[]
  staticTypes := #[]
  resolved := Array.replicate 37 none
  statics := none }

def pool7 : Array CpInfo := pool [(1, .methodref 2 3), (0, .class_ 4), (0, .nameAndType 5 6), (0, u "java/lang/Object"), (0, u "<init>"), (0, u "()V"), (0, .string 8), (0, u ""), (0, .fieldref 10 11), (0, .class_ 12), (0, .nameAndType 13 14), (0, u "java/lang/String"), (0, u "value"), (0, u "[B"), (0, .fieldref 10 16), (0, .nameAndType 17 18), (0, u "coder"), (0, u "B"), (2, u "hash"), (0, u "I"), (2, u "hashIsZero"), (0, u "Z"), (0, .methodref 10 28), (0, .nameAndType 5 29), (0, u "([CIILjava/lang/Void;)V"), (8, .fieldref 10 39), (0, .nameAndType 40 26), (0, u "COMPACT_STRINGS"), (1, .class_ 44), (1, u "java/lang/StringUTF16"), (0, u "compress"), (1, .methodref 42 48), (0, .nameAndType 49 50), (0, u "coderFromArrayLen"), (0, u "([BI)B"), (56, .class_ 109), (1, u "java/lang/StringLatin1"), (32, u "()Z"), (34, .methodref 42 178), (0, .nameAndType 45 179), (0, u "([CII)[B"), (31, u "([BB)V"), (122, u "()I"), (0, .methodref 10 336), (0, .nameAndType 17 337), (0, u "()B"), (25, u "([BI)C"), (27, u "(II)V"), (35, u "(I)C"), (64, .methodref 10 493), (0, .nameAndType 494 142), (0, u "isLatin1"), (0, .methodref 107 496), (0, .nameAndType 497 363), (0, u "charAt"), (3, u "checkIndex"), (3, .methodref 10 506), (0, .nameAndType 507 334), (0, u "length"), (5, u "checkFromToIndex"), (7, .methodref 10 522), (0, .nameAndType 523 524), (0, u "checkBoundsBeginEnd"), (0, u "(III)V"), (50, .class_ 576), (0, u "java/lang/CharSequence"), (22, u "CASE_INSENSITIVE_ORDER"), (0, u "Ljava/util/Comparator;"), (34, u "indexOf"), (0, u "(II)I"), (0, .methodref 107 638), (0, .nameAndType 635 639), (0, u "([BIII)I"), (43, u "substring"), (0, u "(II)Ljava/lang/String;"), (0, .methodref 107 686), (0, .nameAndType 687 688), (0, u "newString"), (0, u "([BII)Ljava/lang/String;"), (321, u "([C)V"), (42, .fieldref 1054 1055), (0, .class_ 1056), (0, .nameAndType 1057 1058), (0, u "jdk/internal/util/Preconditions"), (0, u "SIOOBE_FORMATTER"), (0, u "Ljava/util/function/BiFunction;"), (0, .methodref 1054 1060), (0, .nameAndType 501 1061), (0, u "(IILjava/util/function/BiFunction;)I"), (0, .methodref 1054 1063), (0, .nameAndType 513 1064), (0, u "(IIILjava/util/function/BiFunction;)I"), (36, u "serialPersistentFields"), (0, u "[Ljava/io/ObjectStreamField;"), (0, .class_ 1104), (0, u "java/lang/String$CaseInsensitiveComparator"), (1, .class_ 1107), (0, u "java/io/Serializable"), (0, .class_ 1109), (0, u "java/lang/Comparable"), (0, .class_ 1111), (0, u "java/lang/constant/Constable"), (0, .class_ 1113), (0, u "java/lang/constant/ConstantDesc"), (2, u "serialVersionUID"), (0, u "J"), (3, u "REPL"), (0, u "C"), (2, u "LATIN1"), (1, u "UTF16")] 323

def k7m0 : Method := { name := "<init>", desc := "()V", sig := { parameters := [], returnType := none }, accessFlags := 1, code := none }
def k7c1 : Code := { maxStack := 5, maxLocals := 2, code := jdk_42_method_3_code, exceptionTable := #[], attributes := #[] }
def k7m1 : Method := { name := "<init>", desc := "([C)V", sig := { parameters := [(.array .char)], returnType := none }, accessFlags := 1, code := some k7c1 }
def k7c2 : Code := { maxStack := 2, maxLocals := 1, code := jdk_42_method_54_code, exceptionTable := #[], attributes := #[] }
def k7m2 : Method := { name := "length", desc := "()I", sig := { parameters := [], returnType := some .int }, accessFlags := 1, code := some k7c2 }
def k7c3 : Code := { maxStack := 2, maxLocals := 2, code := jdk_42_method_56_code, exceptionTable := #[], attributes := #[] }
def k7m3 : Method := { name := "charAt", desc := "(I)C", sig := { parameters := [.int], returnType := some .char }, accessFlags := 1, code := some k7c3 }
def k7c4 : Code := { maxStack := 4, maxLocals := 3, code := jdk_42_method_80_code, exceptionTable := #[], attributes := #[] }
def k7m4 : Method := { name := "indexOf", desc := "(II)I", sig := { parameters := [.int, .int], returnType := some .int }, accessFlags := 1, code := some k7c4 }
def k7c5 : Code := { maxStack := 3, maxLocals := 5, code := jdk_42_method_92_code, exceptionTable := #[], attributes := #[] }
def k7m5 : Method := { name := "substring", desc := "(II)Ljava/lang/String;", sig := { parameters := [.int, .int], returnType := some (.object "java/lang/String") }, accessFlags := 1, code := some k7c5 }
def k7c6 : Code := { maxStack := 4, maxLocals := 6, code := jdk_42_method_149_code, exceptionTable := #[], attributes := #[] }
def k7m6 : Method := { name := "<init>", desc := "([CIILjava/lang/Void;)V", sig := { parameters := [(.array .char), .int, .int, (.object "java/lang/Void")], returnType := none }, accessFlags := 2, code := some k7c6 }
def k7c7 : Code := { maxStack := 2, maxLocals := 3, code := jdk_42_method_151_code, exceptionTable := #[], attributes := #[] }
def k7m7 : Method := { name := "<init>", desc := "([BB)V", sig := { parameters := [(.array .byte), .byte], returnType := none }, accessFlags := 0, code := some k7c7 }
def k7c8 : Code := { maxStack := 1, maxLocals := 1, code := jdk_42_method_152_code, exceptionTable := #[], attributes := #[] }
def k7m8 : Method := { name := "coder", desc := "()B", sig := { parameters := [], returnType := some .byte }, accessFlags := 0, code := some k7c8 }
def k7c9 : Code := { maxStack := 1, maxLocals := 1, code := jdk_42_method_154_code, exceptionTable := #[], attributes := #[] }
def k7m9 : Method := { name := "isLatin1", desc := "()Z", sig := { parameters := [], returnType := some .boolean }, accessFlags := 0, code := some k7c9 }
def k7c10 : Code := { maxStack := 3, maxLocals := 2, code := jdk_42_method_155_code, exceptionTable := #[], attributes := #[] }
def k7m10 : Method := { name := "checkIndex", desc := "(II)V", sig := { parameters := [.int, .int], returnType := none }, accessFlags := 8, code := some k7c10 }
def k7c11 : Code := { maxStack := 4, maxLocals := 3, code := jdk_42_method_158_code, exceptionTable := #[], attributes := #[] }
def k7m11 : Method := { name := "checkBoundsBeginEnd", desc := "(III)V", sig := { parameters := [.int, .int, .int], returnType := none }, accessFlags := 8, code := some k7c11 }
/-- java/lang/String -/
def k7 : Class := { plain "java/lang/String" (some 0) with
  accessFlags := 49
  interfaces := #[2, 3, 4, 5, 6]
  cf := some (fileOf pool7 10 #[.nestMembers #[1103]] #[{ accessFlags := 1, nameIndex := 5, descriptorIndex := 6, attributes := #[] }, { accessFlags := 1, nameIndex := 5, descriptorIndex := 1010, attributes := #[] }, { accessFlags := 1, nameIndex := 507, descriptorIndex := 334, attributes := #[] }, { accessFlags := 1, nameIndex := 497, descriptorIndex := 427, attributes := #[] }, { accessFlags := 1, nameIndex := 635, descriptorIndex := 636, attributes := #[] }, { accessFlags := 1, nameIndex := 683, descriptorIndex := 684, attributes := #[] }, { accessFlags := 2, nameIndex := 5, descriptorIndex := 29, attributes := #[] }, { accessFlags := 0, nameIndex := 5, descriptorIndex := 211, attributes := #[] }, { accessFlags := 0, nameIndex := 17, descriptorIndex := 337, attributes := #[] }, { accessFlags := 0, nameIndex := 494, descriptorIndex := 142, attributes := #[] }, { accessFlags := 8, nameIndex := 501, descriptorIndex := 391, attributes := #[] }, { accessFlags := 8, nameIndex := 523, descriptorIndex := 524, attributes := #[] }] 49 2 #[1106, 1108, 575, 1110, 1112] #[{ accessFlags := 18, nameIndex := 13, descriptorIndex := 14, attributes := #[] }, { accessFlags := 18, nameIndex := 17, descriptorIndex := 18, attributes := #[] }, { accessFlags := 2, nameIndex := 21, descriptorIndex := 22, attributes := #[] }, { accessFlags := 2, nameIndex := 25, descriptorIndex := 26, attributes := #[] }, { accessFlags := 26, nameIndex := 1116, descriptorIndex := 1117, attributes := #[] }, { accessFlags := 24, nameIndex := 40, descriptorIndex := 26, attributes := #[] }, { accessFlags := 26, nameIndex := 1101, descriptorIndex := 1102, attributes := #[] }, { accessFlags := 26, nameIndex := 1121, descriptorIndex := 1122, attributes := #[] }, { accessFlags := 25, nameIndex := 599, descriptorIndex := 600, attributes := #[] }, { accessFlags := 24, nameIndex := 1125, descriptorIndex := 18, attributes := #[] }, { accessFlags := 24, nameIndex := 1127, descriptorIndex := 18, attributes := #[] }])
  fields := #[{ name := "value", type := (.array .byte), accessFlags := 18, slot := 0, constantValue := 0 }, { name := "coder", type := .byte, accessFlags := 18, slot := 1, constantValue := 0 }, { name := "hash", type := .int, accessFlags := 2, slot := 2, constantValue := 0 }, { name := "hashIsZero", type := .boolean, accessFlags := 2, slot := 3, constantValue := 0 }, { name := "serialVersionUID", type := .long, accessFlags := 26, slot := 0, constantValue := 0 }, { name := "COMPACT_STRINGS", type := .boolean, accessFlags := 24, slot := 1, constantValue := 0 }, { name := "serialPersistentFields", type := (.array (.object "java/io/ObjectStreamField")), accessFlags := 26, slot := 2, constantValue := 0 }, { name := "REPL", type := .char, accessFlags := 26, slot := 3, constantValue := 0 }, { name := "CASE_INSENSITIVE_ORDER", type := (.object "java/util/Comparator"), accessFlags := 25, slot := 4, constantValue := 0 }, { name := "LATIN1", type := .byte, accessFlags := 24, slot := 5, constantValue := 0 }, { name := "UTF16", type := .byte, accessFlags := 24, slot := 6, constantValue := 0 }]
  methods := #[k7m0, k7m1, k7m2, k7m3, k7m4, k7m5, k7m6, k7m7, k7m8, k7m9, k7m10, k7m11]
  instanceTypes := #[(.array .byte), .byte, .int, .boolean]
  staticTypes := #[.long, .boolean, (.array (.object "java/io/ObjectStreamField")), .char, (.object "java/util/Comparator"), .byte, .byte]
  resolved := Array.replicate 1451 none
  statics := some 0 }

def pool8 : Array CpInfo := pool [(1, .methodref 2 3), (0, .class_ 4), (0, .nameAndType 5 6), (0, u "java/lang/Object"), (0, u "<init>"), (0, u "()V"), (0, .fieldref 8 9), (0, .class_ 10), (0, .nameAndType 11 12), (0, u "com/example/wayline/wayline/HeaderReader"), (0, u "value"), (0, u "Ljava/lang/String;"), (0, .fieldref 8 14), (0, .nameAndType 15 16), (0, u "position"), (0, u "I"), (0, .methodref 18 19), (0, .class_ 20), (0, .nameAndType 21 22), (0, u "java/lang/String"), (0, u "length"), (0, u "()I"), (6, u "skipWhiteSpace"), (0, .methodref 8 31), (0, .nameAndType 32 33), (0, u "atEnd"), (0, u "()Z"), (0, .methodref 18 35), (0, .nameAndType 36 37), (0, u "charAt"), (0, u "(I)C"), (21, .methodref 18 60), (0, .nameAndType 61 62), (0, u "substring"), (0, u "(II)Ljava/lang/String;"), (14, .methodref 18 78), (0, .nameAndType 79 80), (0, u "indexOf"), (0, u "(II)I"), (24, u "(Ljava/lang/String;)V"), (90, u "TOKEN_SYMBOLS"), (7, u "(C)Ljava/lang/String;"), (0, u "textBefore")] 61

def k8c0 : Code := { maxStack := 2, maxLocals := 2, code := prog_11_method_1_code, exceptionTable := #[], attributes := #[] }
def k8m0 : Method := { name := "<init>", desc := "(Ljava/lang/String;)V", sig := { parameters := [(.object "java/lang/String")], returnType := none }, accessFlags := 0, code := some k8c0 }
def k8c1 : Code := { maxStack := 2, maxLocals := 1, code := prog_11_method_2_code, exceptionTable := #[], attributes := #[] }
def k8m1 : Method := { name := "atEnd", desc := "()Z", sig := { parameters := [], returnType := some .boolean }, accessFlags := 0, code := some k8c1 }
def k8c2 : Code := { maxStack := 3, maxLocals := 4, code := prog_11_method_11_code, exceptionTable := #[], attributes := #[] }
def k8m2 : Method := { name := "textBefore", desc := "(C)Ljava/lang/String;", sig := { parameters := [.char], returnType := some (.object "java/lang/String") }, accessFlags := 0, code := some k8c2 }
def k8c3 : Code := { maxStack := 3, maxLocals := 1, code := prog_11_method_14_code, exceptionTable := #[], attributes := #[] }
def k8m3 : Method := { name := "skipWhiteSpace", desc := "()V", sig := { parameters := [], returnType := none }, accessFlags := 0, code := some k8c3 }
/-- com/example/wayline/wayline/HeaderReader -/
def k8 : Class := { plain "com/example/wayline/wayline/HeaderReader" (some 0) with
  accessFlags := 48
  interfaces := #[]
  cf := some (fileOf pool8 8 #[] #[{ accessFlags := 0, nameIndex := 5, descriptorIndex := 105, attributes := #[] }, { accessFlags := 0, nameIndex := 32, descriptorIndex := 33, attributes := #[] }, { accessFlags := 0, nameIndex := 205, descriptorIndex := 204, attributes := #[] }, { accessFlags := 0, nameIndex := 29, descriptorIndex := 6, attributes := #[] }] 48 2 #[] #[{ accessFlags := 26, nameIndex := 196, descriptorIndex := 12, attributes := #[] }, { accessFlags := 18, nameIndex := 11, descriptorIndex := 12, attributes := #[] }, { accessFlags := 2, nameIndex := 15, descriptorIndex := 16, attributes := #[] }])
  fields := #[{ name := "TOKEN_SYMBOLS", type := (.object "java/lang/String"), accessFlags := 26, slot := 0, constantValue := 0 }, { name := "value", type := (.object "java/lang/String"), accessFlags := 18, slot := 0, constantValue := 0 }, { name := "position", type := .int, accessFlags := 2, slot := 1, constantValue := 0 }]
  methods := #[k8m0, k8m1, k8m2, k8m3]
  instanceTypes := #[(.object "java/lang/String"), .int]
  staticTypes := #[(.object "java/lang/String")]
  resolved := Array.replicate 267 none
  statics := none }

def pool9 : Array CpInfo := pool [(6, .class_ 8), (1, u "java/lang/Object"), (0, u "<init>"), (0, u "()V"), (1, .class_ 14), (1, u "java/lang/StringUTF16"), (31, u "$assertionsDisabled"), (0, u "Z"), (13, u "HI_BYTE_SHIFT"), (0, u "I"), (2, u "LO_BYTE_SHIFT"), (49, .methodref 12 116), (0, .nameAndType 117 118), (0, u "compress"), (0, u "([CI[BII)I"), (3, u "([CII)[B"), (138, u "coderFromArrayLen"), (0, u "([BI)B"), (106, .class_ 371), (1, u "java/lang/StringUTF16$LinesSpliterator"), (58, u "MAX_LENGTH"), (196, .class_ 628), (0, u "java/lang/StringUTF16$CodePointsSpliterator"), (0, .class_ 630), (0, u "java/lang/StringUTF16$CharsSpliterator")] 4

def k9m0 : Method := { name := "<init>", desc := "()V", sig := { parameters := [], returnType := none }, accessFlags := 0, code := none }
def k9c1 : Code := { maxStack := 2, maxLocals := 2, code := jdk_52_method_15_code, exceptionTable := #[], attributes := #[] }
def k9m1 : Method := { name := "coderFromArrayLen", desc := "([BI)B", sig := { parameters := [(.array .byte), .int], returnType := some .byte }, accessFlags := 8, code := some k9c1 }
def k9c2 : Code := { maxStack := 5, maxLocals := 6, code := jdk_52_method_16_code, exceptionTable := #[], attributes := #[] }
def k9m2 : Method := { name := "compress", desc := "([CII)[B", sig := { parameters := [(.array .char), .int, .int], returnType := some (.array .byte) }, accessFlags := 9, code := some k9c2 }
def k9c3 : Code := { maxStack := 3, maxLocals := 7, code := jdk_52_method_21_code, exceptionTable := #[], attributes := #[] }
def k9m3 : Method := { name := "compress", desc := "([CI[BII)I", sig := { parameters := [(.array .char), .int, (.array .byte), .int, .int], returnType := some .int }, accessFlags := 9, code := some k9c3 }
/-- java/lang/StringUTF16 -/
def k9 : Class := { plain "java/lang/StringUTF16" (some 0) with
  accessFlags := 48
  interfaces := #[]
  cf := some (fileOf pool9 12 #[.nestMembers #[627, 629, 369]] #[{ accessFlags := 0, nameIndex := 9, descriptorIndex := 10, attributes := #[] }, { accessFlags := 8, nameIndex := 261, descriptorIndex := 262, attributes := #[] }, { accessFlags := 9, nameIndex := 117, descriptorIndex := 122, attributes := #[] }, { accessFlags := 9, nameIndex := 117, descriptorIndex := 118, attributes := #[] }] 48 6 #[] #[{ accessFlags := 26, nameIndex := 61, descriptorIndex := 62, attributes := #[] }, { accessFlags := 26, nameIndex := 65, descriptorIndex := 62, attributes := #[] }, { accessFlags := 24, nameIndex := 430, descriptorIndex := 62, attributes := #[] }, { accessFlags := 4120, nameIndex := 46, descriptorIndex := 47, attributes := #[] }])
  fields := #[{ name := "HI_BYTE_SHIFT", type := .int, accessFlags := 26, slot := 0, constantValue := 0 }, { name := "LO_BYTE_SHIFT", type := .int, accessFlags := 26, slot := 1, constantValue := 0 }, { name := "MAX_LENGTH", type := .int, accessFlags := 24, slot := 2, constantValue := 0 }, { name := "$assertionsDisabled", type := .boolean, accessFlags := 4120, slot := 3, constantValue := 0 }]
  methods := #[k9m0, k9m1, k9m2, k9m3]
  instanceTypes := #[]
  staticTypes := #[.int, .int, .int, .boolean]
  resolved := Array.replicate 635 none
  statics := none }

def pool10 : Array CpInfo := pool [(1, .class_ 2), (0, u "java/lang/String"), (1, .class_ 6), (1, u "java/lang/Object"), (0, u "<init>"), (0, u "()V"), (0, .methodref 1 10), (0, .nameAndType 11 12), (0, u "checkIndex"), (0, u "(II)V"), (1, .class_ 16), (1, u "java/lang/StringLatin1"), (21, .methodref 39 40), (0, .class_ 41), (0, .nameAndType 42 43), (0, u "java/lang/Math"), (0, u "min"), (0, u "(II)I"), (9, u "([BI)C"), (34, .methodref 14 89), (0, .nameAndType 90 91), (0, u "canEncode"), (0, u "(I)Z"), (0, .methodref 39 93), (0, .nameAndType 94 43), (0, u "max"), (0, .methodref 14 96), (0, .nameAndType 97 98), (0, u "indexOfChar"), (0, u "([BIII)I"), (2, u "indexOf"), (10, .methodref 1 113), (0, .nameAndType 7 114), (0, u "([BB)V"), (6, u "$assertionsDisabled"), (0, u "Z"), (8, .class_ 133), (1, u "java/util/Arrays"), (17, .string 152), (0, u ""), (43, u "newString"), (0, u "([BII)Ljava/lang/String;"), (23, .class_ 223), (1, u "java/lang/StringLatin1$LinesSpliterator"), (8, .methodref 131 233), (0, .nameAndType 234 235), (0, u "copyOfRange"), (0, u "([BII)[B"), (16, u "charAt"), (137, .class_ 391), (0, u "java/lang/StringLatin1$CharsSpliterator")] 3

def k10m0 : Method := { name := "<init>", desc := "()V", sig := { parameters := [], returnType := none }, accessFlags := 0, code := none }
def k10c1 : Code := { maxStack := 2, maxLocals := 2, code := jdk_43_method_2_code, exceptionTable := #[], attributes := #[] }
def k10m1 : Method := { name := "charAt", desc := "([BI)C", sig := { parameters := [(.array .byte), .int], returnType := some .char }, accessFlags := 9, code := some k10c1 }
def k10c2 : Code := { maxStack := 2, maxLocals := 1, code := jdk_43_method_4_code, exceptionTable := #[], attributes := #[] }
def k10m2 : Method := { name := "canEncode", desc := "(I)Z", sig := { parameters := [.int], returnType := some .boolean }, accessFlags := 9, code := some k10c2 }
def k10c3 : Code := { maxStack := 4, maxLocals := 4, code := jdk_43_method_22_code, exceptionTable := #[], attributes := #[] }
def k10m3 : Method := { name := "indexOf", desc := "([BIII)I", sig := { parameters := [(.array .byte), .int, .int, .int], returnType := some .int }, accessFlags := 9, code := some k10c3 }
def k10c4 : Code := { maxStack := 2, maxLocals := 6, code := jdk_43_method_23_code, exceptionTable := #[], attributes := #[] }
def k10m4 : Method := { name := "indexOfChar", desc := "([BIII)I", sig := { parameters := [(.array .byte), .int, .int, .int], returnType := some .int }, accessFlags := 10, code := some k10c4 }
def k10c5 : Code := { maxStack := 6, maxLocals := 3, code := jdk_43_method_47_code, exceptionTable := #[], attributes := #[] }
def k10m5 : Method := { name := "newString", desc := "([BII)Ljava/lang/String;", sig := { parameters := [(.array .byte), .int, .int], returnType := some (.object "java/lang/String") }, accessFlags := 9, code := some k10c5 }
/-- java/lang/StringLatin1 -/
def k10 : Class := { plain "java/lang/StringLatin1" (some 0) with
  accessFlags := 48
  interfaces := #[]
  cf := some (fileOf pool10 14 #[.nestMembers #[390, 221]] #[{ accessFlags := 0, nameIndex := 7, descriptorIndex := 8, attributes := #[] }, { accessFlags := 9, nameIndex := 252, descriptorIndex := 53, attributes := #[] }, { accessFlags := 9, nameIndex := 90, descriptorIndex := 91, attributes := #[] }, { accessFlags := 9, nameIndex := 101, descriptorIndex := 98, attributes := #[] }, { accessFlags := 10, nameIndex := 97, descriptorIndex := 98, attributes := #[] }, { accessFlags := 9, nameIndex := 196, descriptorIndex := 197, attributes := #[] }] 48 4 #[] #[{ accessFlags := 4120, nameIndex := 121, descriptorIndex := 122, attributes := #[] }])
  fields := #[{ name := "$assertionsDisabled", type := .boolean, accessFlags := 4120, slot := 0, constantValue := 0 }]
  methods := #[k10m0, k10m1, k10m2, k10m3, k10m4, k10m5]
  instanceTypes := #[]
  staticTypes := #[.boolean]
  resolved := Array.replicate 395 none
  statics := none }

def pool11 : Array CpInfo := pool [(1, .class_ 2), (0, u "java/lang/Math"), (1, .class_ 6), (1, u "java/lang/Object"), (0, u "<init>"), (0, u "()V"), (89, .class_ 100), (1, u "java/lang/Math$RandomNumberGeneratorHolder"), (71, u "negativeZeroFloatBits"), (0, u "J"), (2, u "negativeZeroDoubleBits"), (21, u "max"), (2, u "min"), (43, u "$assertionsDisabled"), (0, u "Z"), (88, u "(II)I"), (2, u "twoToTheDoubleScaleDown"), (0, u "D"), (4, u "twoToTheDoubleScaleUp"), (9, u "E"), (3, u "PI"), (2, u "TAU"), (2, u "DEGREES_TO_RADIANS"), (0, u "RADIANS_TO_DEGREES")] 94

def k11m0 : Method := { name := "<init>", desc := "()V", sig := { parameters := [], returnType := none }, accessFlags := 2, code := none }
def k11c1 : Code := { maxStack := 2, maxLocals := 2, code := jdk_29_method_65_code, exceptionTable := #[], attributes := #[] }
def k11m1 : Method := { name := "max", desc := "(II)I", sig := { parameters := [.int, .int], returnType := some .int }, accessFlags := 9, code := some k11c1 }
def k11c2 : Code := { maxStack := 2, maxLocals := 2, code := jdk_29_method_69_code, exceptionTable := #[], attributes := #[] }
def k11m2 : Method := { name := "min", desc := "(II)I", sig := { parameters := [.int, .int], returnType := some .int }, accessFlags := 9, code := some k11c2 }
/-- java/lang/Math -/
def k11 : Class := { plain "java/lang/Math" (some 0) with
  accessFlags := 49
  interfaces := #[]
  cf := some (fileOf pool11 1 #[.nestMembers #[98]] #[{ accessFlags := 2, nameIndex := 7, descriptorIndex := 8, attributes := #[] }, { accessFlags := 9, nameIndex := 198, descriptorIndex := 335, attributes := #[] }, { accessFlags := 9, nameIndex := 201, descriptorIndex := 335, attributes := #[] }] 49 4 #[] #[{ accessFlags := 25, nameIndex := 354, descriptorIndex := 339, attributes := #[] }, { accessFlags := 25, nameIndex := 358, descriptorIndex := 339, attributes := #[] }, { accessFlags := 25, nameIndex := 361, descriptorIndex := 339, attributes := #[] }, { accessFlags := 26, nameIndex := 364, descriptorIndex := 339, attributes := #[] }, { accessFlags := 26, nameIndex := 365, descriptorIndex := 339, attributes := #[] }, { accessFlags := 26, nameIndex := 172, descriptorIndex := 173, attributes := #[] }, { accessFlags := 26, nameIndex := 176, descriptorIndex := 173, attributes := #[] }, { accessFlags := 8, nameIndex := 344, descriptorIndex := 339, attributes := #[] }, { accessFlags := 8, nameIndex := 338, descriptorIndex := 339, attributes := #[] }, { accessFlags := 4120, nameIndex := 245, descriptorIndex := 246, attributes := #[] }])
  fields := #[{ name := "E", type := .double, accessFlags := 25, slot := 0, constantValue := 0 }, { name := "PI", type := .double, accessFlags := 25, slot := 1, constantValue := 0 }, { name := "TAU", type := .double, accessFlags := 25, slot := 2, constantValue := 0 }, { name := "DEGREES_TO_RADIANS", type := .double, accessFlags := 26, slot := 3, constantValue := 0 }, { name := "RADIANS_TO_DEGREES", type := .double, accessFlags := 26, slot := 4, constantValue := 0 }, { name := "negativeZeroFloatBits", type := .long, accessFlags := 26, slot := 5, constantValue := 0 }, { name := "negativeZeroDoubleBits", type := .long, accessFlags := 26, slot := 6, constantValue := 0 }, { name := "twoToTheDoubleScaleUp", type := .double, accessFlags := 8, slot := 7, constantValue := 0 }, { name := "twoToTheDoubleScaleDown", type := .double, accessFlags := 8, slot := 8, constantValue := 0 }, { name := "$assertionsDisabled", type := .boolean, accessFlags := 4120, slot := 9, constantValue := 0 }]
  methods := #[k11m0, k11m1, k11m2]
  instanceTypes := #[]
  staticTypes := #[.double, .double, .double, .double, .double, .long, .long, .double, .double, .boolean]
  resolved := Array.replicate 460 none
  statics := none }

def pool12 : Array CpInfo := pool [(2, .class_ 4), (1, u "java/lang/Object"), (0, u "<init>"), (0, u "()V"), (17, .class_ 26), (1, u "jdk/internal/util/Preconditions"), (6, u "checkIndex"), (13, u "checkFromToIndex"), (7, .class_ 56), (0, u "jdk/internal/util/Preconditions$4"), (57, .class_ 115), (0, u "jdk/internal/util/Preconditions$1"), (7, u "SIOOBE_FORMATTER"), (0, u "Ljava/util/function/BiFunction;"), (0, .class_ 126), (0, u "jdk/internal/util/Preconditions$2"), (3, u "AIOOBE_FORMATTER"), (0, .class_ 132), (0, u "jdk/internal/util/Preconditions$3"), (3, u "IOOBE_FORMATTER"), (41, u "(IILjava/util/function/BiFunction;)I"), (4, u "(IIILjava/util/function/BiFunction;)I")] 10

def k12m0 : Method := { name := "<init>", desc := "()V", sig := { parameters := [], returnType := none }, accessFlags := 1, code := none }
def k12c1 : Code := { maxStack := 3, maxLocals := 3, code := jdk_41_method_11_code, exceptionTable := #[], attributes := #[] }
def k12m1 : Method := { name := "checkIndex", desc := "(IILjava/util/function/BiFunction;)I", sig := { parameters := [.int, .int, (.object "java/util/function/BiFunction")], returnType := some .int }, accessFlags := 9, code := some k12c1 }
def k12c2 : Code := { maxStack := 4, maxLocals := 4, code := jdk_41_method_12_code, exceptionTable := #[], attributes := #[] }
def k12m2 : Method := { name := "checkFromToIndex", desc := "(IIILjava/util/function/BiFunction;)I", sig := { parameters := [.int, .int, .int, (.object "java/util/function/BiFunction")], returnType := some .int }, accessFlags := 9, code := some k12c2 }
/-- jdk/internal/util/Preconditions -/
def k12 : Class := { plain "jdk/internal/util/Preconditions" (some 0) with
  accessFlags := 33
  interfaces := #[]
  cf := some (fileOf pool12 24 #[.nestMembers #[55, 131, 125, 114]] #[{ accessFlags := 1, nameIndex := 5, descriptorIndex := 6, attributes := #[] }, { accessFlags := 9, nameIndex := 33, descriptorIndex := 178, attributes := #[] }, { accessFlags := 9, nameIndex := 47, descriptorIndex := 183, attributes := #[] }] 33 2 #[] #[{ accessFlags := 25, nameIndex := 123, descriptorIndex := 124, attributes := #[] }, { accessFlags := 25, nameIndex := 130, descriptorIndex := 124, attributes := #[] }, { accessFlags := 25, nameIndex := 136, descriptorIndex := 124, attributes := #[] }])
  fields := #[{ name := "SIOOBE_FORMATTER", type := (.object "java/util/function/BiFunction"), accessFlags := 25, slot := 0, constantValue := 0 }, { name := "AIOOBE_FORMATTER", type := (.object "java/util/function/BiFunction"), accessFlags := 25, slot := 1, constantValue := 0 }, { name := "IOOBE_FORMATTER", type := (.object "java/util/function/BiFunction"), accessFlags := 25, slot := 2, constantValue := 0 }]
  methods := #[k12m0, k12m1, k12m2]
  instanceTypes := #[]
  staticTypes := #[(.object "java/util/function/BiFunction"), (.object "java/util/function/BiFunction"), (.object "java/util/function/BiFunction")]
  resolved := Array.replicate 194 none
  statics := some 1 }

def pool13 : Array CpInfo := pool [(2, .class_ 4), (1, u "java/lang/Object"), (0, u "<init>"), (0, u "()V"), (7, .class_ 16), (1, u "java/util/Arrays"), (57, .class_ 76), (1, u "java/util/Arrays$NaturalOrder"), (36, .class_ 115), (1, u "java/util/Arrays$LegacyMergeSort"), (1, u "Z"), (21, u "copyOfRange"), (10, .methodref 151 152), (0, .class_ 153), (0, .nameAndType 154 155), (0, u "java/lang/System"), (0, u "arraycopy"), (0, u "(Ljava/lang/Object;ILjava/lang/Object;II)V"), (148, .methodref 305 306), (0, .class_ 307), (0, .nameAndType 308 309), (0, u "java/lang/Math"), (0, u "min"), (0, u "(II)I"), (29, .methodref 14 340), (0, .nameAndType 341 342), (0, u "copyOfRangeByte"), (0, u "([BII)[B"), (0, .methodref 14 344), (0, .nameAndType 345 346), (0, u "checkLength"), (0, u "(II)V"), (28, .class_ 376), (0, u "java/util/Arrays$ArrayList"), (68, u "$assertionsDisabled"), (269, u "MIN_ARRAY_SORT_GRAN"), (0, u "I"), (2, u "INSERTIONSORT_THRESHOLD"), (255, .class_ 976), (0, u "java/util/Arrays$ArrayItr")] 52

def k13m0 : Method := { name := "<init>", desc := "()V", sig := { parameters := [], returnType := none }, accessFlags := 2, code := none }
def k13c1 : Code := { maxStack := 4, maxLocals := 2, code := jdk_65_method_131_code, exceptionTable := #[], attributes := #[] }
def k13m1 : Method := { name := "checkLength", desc := "(II)V", sig := { parameters := [.int, .int], returnType := none }, accessFlags := 10, code := some k13c1 }
def k13c2 : Code := { maxStack := 3, maxLocals := 3, code := jdk_65_method_132_code, exceptionTable := #[], attributes := #[] }
def k13m2 : Method := { name := "copyOfRange", desc := "([BII)[B", sig := { parameters := [(.array .byte), .int, .int], returnType := some (.array .byte) }, accessFlags := 9, code := some k13c2 }
def k13c3 : Code := { maxStack := 6, maxLocals := 5, code := jdk_65_method_133_code, exceptionTable := #[], attributes := #[] }
def k13m3 : Method := { name := "copyOfRangeByte", desc := "([BII)[B", sig := { parameters := [(.array .byte), .int, .int], returnType := some (.array .byte) }, accessFlags := 10, code := some k13c3 }
/-- java/util/Arrays -/
def k13 : Class := { plain "java/util/Arrays" (some 0) with
  accessFlags := 49
  interfaces := #[]
  cf := some (fileOf pool13 14 #[.nestMembers #[975, 375, 113, 74]] #[{ accessFlags := 2, nameIndex := 5, descriptorIndex := 6, attributes := #[] }, { accessFlags := 10, nameIndex := 345, descriptorIndex := 346, attributes := #[] }, { accessFlags := 9, nameIndex := 139, descriptorIndex := 342, attributes := #[] }, { accessFlags := 10, nameIndex := 341, descriptorIndex := 342, attributes := #[] }] 49 2 #[] #[{ accessFlags := 26, nameIndex := 715, descriptorIndex := 716, attributes := #[] }, { accessFlags := 26, nameIndex := 719, descriptorIndex := 716, attributes := #[] }, { accessFlags := 4120, nameIndex := 445, descriptorIndex := 117, attributes := #[] }])
  fields := #[{ name := "MIN_ARRAY_SORT_GRAN", type := .int, accessFlags := 26, slot := 0, constantValue := 0 }, { name := "INSERTIONSORT_THRESHOLD", type := .int, accessFlags := 26, slot := 1, constantValue := 0 }, { name := "$assertionsDisabled", type := .boolean, accessFlags := 4120, slot := 2, constantValue := 0 }]
  methods := #[k13m0, k13m1, k13m2, k13m3]
  instanceTypes := #[]
  staticTypes := #[.int, .int, .boolean]
  resolved := Array.replicate 1029 none
  statics := none }

def pool14 : Array CpInfo := pool [(2, .class_ 4), (1, u "java/lang/Object"), (0, u "<init>"), (0, u "()V"), (1, .class_ 10), (1, u "java/lang/System"), (0, u "allowSecurityManager"), (0, u "I"), (16, u "cons"), (0, u "Ljava/io/Console;"), (77, .class_ 110), (1, u "java/lang/System$CallersHolder"), (43, u "initialErrStream"), (0, u "Ljava/io/PrintStream;"), (19, u "security"), (0, u "Ljava/lang/SecurityManager;"), (31, .class_ 209), (0, u "java/lang/System$1"), (7, u "props"), (0, u "Ljava/util/Properties;"), (2, u "lineSeparator"), (0, u "Ljava/lang/String;"), (96, .class_ 321), (1, u "java/lang/System$LoggerFinder"), (5, .class_ 328), (0, u "java/lang/System$Logger"), (67, u "err"), (2, u "out"), (91, u "notSupportedJnuEncoding"), (15, u "in"), (17, u "initialIn"), (0, u "Ljava/io/InputStream;"), (35, u "bootLayer"), (0, u "Ljava/lang/ModuleLayer;"), (99, .class_ 664), (0, u "java/lang/System$2"), (9, u "NEVER"), (2, u "MAYBE"), (49, u "arraycopy"), (0, u "(Ljava/lang/Object;ILjava/lang/Object;II)V"), (72, .class_ 802), (0, u "java/lang/System$Logger$Level")] 31

def k14m0 : Method := { name := "<init>", desc := "()V", sig := { parameters := [], returnType := none }, accessFlags := 2, code := none }
def k14m1 : Method := { name := "arraycopy", desc := "(Ljava/lang/Object;ILjava/lang/Object;II)V", sig := { parameters := [(.object "java/lang/Object"), .int, (.object "java/lang/Object"), .int, .int], returnType := none }, accessFlags := 265, code := none }
/-- java/lang/System -/
def k14 : Class := { plain "java/lang/System" (some 0) with
  accessFlags := 49
  interfaces := #[]
  cf := some (fileOf pool14 8 #[.nestMembers #[319, 327, 801, 108, 663, 208]] #[{ accessFlags := 2, nameIndex := 5, descriptorIndex := 6, attributes := #[] }, { accessFlags := 265, nameIndex := 727, descriptorIndex := 728, attributes := #[] }] 49 2 #[] #[{ accessFlags := 25, nameIndex := 507, descriptorIndex := 526, attributes := #[] }, { accessFlags := 25, nameIndex := 399, descriptorIndex := 155, attributes := #[] }, { accessFlags := 25, nameIndex := 396, descriptorIndex := 155, attributes := #[] }, { accessFlags := 10, nameIndex := 525, descriptorIndex := 526, attributes := #[] }, { accessFlags := 26, nameIndex := 674, descriptorIndex := 12, attributes := #[] }, { accessFlags := 26, nameIndex := 677, descriptorIndex := 12, attributes := #[] }, { accessFlags := 10, nameIndex := 11, descriptorIndex := 12, attributes := #[] }, { accessFlags := 74, nameIndex := 175, descriptorIndex := 176, attributes := #[] }, { accessFlags := 10, nameIndex := 491, descriptorIndex := 222, attributes := #[] }, { accessFlags := 74, nameIndex := 29, descriptorIndex := 30, attributes := #[] }, { accessFlags := 74, nameIndex := 154, descriptorIndex := 155, attributes := #[] }, { accessFlags := 10, nameIndex := 217, descriptorIndex := 218, attributes := #[] }, { accessFlags := 10, nameIndex := 221, descriptorIndex := 222, attributes := #[] }, { accessFlags := 8, nameIndex := 562, descriptorIndex := 563, attributes := #[] }])
  fields := #[{ name := "in", type := (.object "java/io/InputStream"), accessFlags := 25, slot := 0, constantValue := 0 }, { name := "out", type := (.object "java/io/PrintStream"), accessFlags := 25, slot := 1, constantValue := 0 }, { name := "err", type := (.object "java/io/PrintStream"), accessFlags := 25, slot := 2, constantValue := 0 }, { name := "initialIn", type := (.object "java/io/InputStream"), accessFlags := 10, slot := 3, constantValue := 0 }, { name := "NEVER", type := .int, accessFlags := 26, slot := 4, constantValue := 0 }, { name := "MAYBE", type := .int, accessFlags := 26, slot := 5, constantValue := 0 }, { name := "allowSecurityManager", type := .int, accessFlags := 10, slot := 6, constantValue := 0 }, { name := "security", type := (.object "java/lang/SecurityManager"), accessFlags := 74, slot := 7, constantValue := 0 }, { name := "notSupportedJnuEncoding", type := (.object "java/lang/String"), accessFlags := 10, slot := 8, constantValue := 0 }, { name := "cons", type := (.object "java/io/Console"), accessFlags := 74, slot := 9, constantValue := 0 }, { name := "initialErrStream", type := (.object "java/io/PrintStream"), accessFlags := 74, slot := 10, constantValue := 0 }, { name := "props", type := (.object "java/util/Properties"), accessFlags := 10, slot := 11, constantValue := 0 }, { name := "lineSeparator", type := (.object "java/lang/String"), accessFlags := 10, slot := 12, constantValue := 0 }, { name := "bootLayer", type := (.object "java/lang/ModuleLayer"), accessFlags := 8, slot := 13, constantValue := 0 }]
  methods := #[k14m0, k14m1]
  instanceTypes := #[]
  staticTypes := #[(.object "java/io/InputStream"), (.object "java/io/PrintStream"), (.object "java/io/PrintStream"), (.object "java/io/InputStream"), .int, .int, .int, (.object "java/lang/SecurityManager"), (.object "java/lang/String"), (.object "java/io/Console"), (.object "java/io/PrintStream"), (.object "java/util/Properties"), (.object "java/lang/String"), (.object "java/lang/ModuleLayer")]
  resolved := Array.replicate 834 none
  statics := none }

def pool15 : Array CpInfo := pool [(9, u "<init>"), (6, .class_ 18), (1, u "java/lang/Object"), (0, u "()V"), (1, .class_ 23), (1, u "jdk/internal/util/ArraysSupport"), (0, u "LOG2_ARRAY_LONG_INDEX_SCALE"), (0, u "I"), (2, u "U"), (0, u "Ljdk/internal/misc/Unsafe;"), (8, u "BIG_ENDIAN"), (0, u "Z"), (8, u "LOG2_BYTE_BIT_SIZE"), (4, u "LOG2_ARRAY_INT_INDEX_SCALE"), (54, u "JLA"), (0, u "Ljdk/internal/access/JavaLangAccess;"), (11, u "LOG2_ARRAY_BOOLEAN_INDEX_SCALE"), (9, u "LOG2_ARRAY_BYTE_INDEX_SCALE"), (5, u "LOG2_ARRAY_CHAR_INDEX_SCALE"), (5, u "LOG2_ARRAY_SHORT_INDEX_SCALE"), (18, u "LOG2_ARRAY_FLOAT_INDEX_SCALE"), (24, u "LOG2_ARRAY_DOUBLE_INDEX_SCALE"), (89, u "T_BOOLEAN"), (2, u "T_CHAR"), (1, u "T_FLOAT"), (1, u "T_DOUBLE"), (1, u "T_BYTE"), (1, u "T_SHORT"), (1, u "T_INT"), (1, u "T_LONG"), (1, u "SOFT_MAX_ARRAY_LENGTH")] 83

def k15m0 : Method := { name := "<init>", desc := "()V", sig := { parameters := [], returnType := none }, accessFlags := 2, code := none }
/-- jdk/internal/util/ArraysSupport -/
def k15 : Class := { plain "jdk/internal/util/ArraysSupport" (some 0) with
  accessFlags := 33
  interfaces := #[]
  cf := some (fileOf pool15 21 #[] #[{ accessFlags := 2, nameIndex := 9, descriptorIndex := 19, attributes := #[] }] 33 16 #[] #[{ accessFlags := 24, nameIndex := 28, descriptorIndex := 29, attributes := #[] }, { accessFlags := 26, nameIndex := 38, descriptorIndex := 39, attributes := #[] }, { accessFlags := 25, nameIndex := 121, descriptorIndex := 25, attributes := #[] }, { accessFlags := 25, nameIndex := 131, descriptorIndex := 25, attributes := #[] }, { accessFlags := 25, nameIndex := 137, descriptorIndex := 25, attributes := #[] }, { accessFlags := 25, nameIndex := 143, descriptorIndex := 25, attributes := #[] }, { accessFlags := 25, nameIndex := 53, descriptorIndex := 25, attributes := #[] }, { accessFlags := 25, nameIndex := 24, descriptorIndex := 25, attributes := #[] }, { accessFlags := 25, nameIndex := 162, descriptorIndex := 25, attributes := #[] }, { accessFlags := 25, nameIndex := 187, descriptorIndex := 25, attributes := #[] }, { accessFlags := 26, nameIndex := 48, descriptorIndex := 25, attributes := #[] }, { accessFlags := 25, nameIndex := 277, descriptorIndex := 25, attributes := #[] }, { accessFlags := 25, nameIndex := 280, descriptorIndex := 25, attributes := #[] }, { accessFlags := 25, nameIndex := 282, descriptorIndex := 25, attributes := #[] }, { accessFlags := 25, nameIndex := 284, descriptorIndex := 25, attributes := #[] }, { accessFlags := 25, nameIndex := 286, descriptorIndex := 25, attributes := #[] }, { accessFlags := 25, nameIndex := 288, descriptorIndex := 25, attributes := #[] }, { accessFlags := 25, nameIndex := 290, descriptorIndex := 25, attributes := #[] }, { accessFlags := 25, nameIndex := 292, descriptorIndex := 25, attributes := #[] }, { accessFlags := 26, nameIndex := 108, descriptorIndex := 109, attributes := #[] }, { accessFlags := 25, nameIndex := 294, descriptorIndex := 25, attributes := #[] }])
  fields := #[{ name := "U", type := (.object "jdk/internal/misc/Unsafe"), accessFlags := 24, slot := 0, constantValue := 0 }, { name := "BIG_ENDIAN", type := .boolean, accessFlags := 26, slot := 1, constantValue := 0 }, { name := "LOG2_ARRAY_BOOLEAN_INDEX_SCALE", type := .int, accessFlags := 25, slot := 2, constantValue := 0 }, { name := "LOG2_ARRAY_BYTE_INDEX_SCALE", type := .int, accessFlags := 25, slot := 3, constantValue := 0 }, { name := "LOG2_ARRAY_CHAR_INDEX_SCALE", type := .int, accessFlags := 25, slot := 4, constantValue := 0 }, { name := "LOG2_ARRAY_SHORT_INDEX_SCALE", type := .int, accessFlags := 25, slot := 5, constantValue := 0 }, { name := "LOG2_ARRAY_INT_INDEX_SCALE", type := .int, accessFlags := 25, slot := 6, constantValue := 0 }, { name := "LOG2_ARRAY_LONG_INDEX_SCALE", type := .int, accessFlags := 25, slot := 7, constantValue := 0 }, { name := "LOG2_ARRAY_FLOAT_INDEX_SCALE", type := .int, accessFlags := 25, slot := 8, constantValue := 0 }, { name := "LOG2_ARRAY_DOUBLE_INDEX_SCALE", type := .int, accessFlags := 25, slot := 9, constantValue := 0 }, { name := "LOG2_BYTE_BIT_SIZE", type := .int, accessFlags := 26, slot := 10, constantValue := 0 }, { name := "T_BOOLEAN", type := .int, accessFlags := 25, slot := 11, constantValue := 0 }, { name := "T_CHAR", type := .int, accessFlags := 25, slot := 12, constantValue := 0 }, { name := "T_FLOAT", type := .int, accessFlags := 25, slot := 13, constantValue := 0 }, { name := "T_DOUBLE", type := .int, accessFlags := 25, slot := 14, constantValue := 0 }, { name := "T_BYTE", type := .int, accessFlags := 25, slot := 15, constantValue := 0 }, { name := "T_SHORT", type := .int, accessFlags := 25, slot := 16, constantValue := 0 }, { name := "T_INT", type := .int, accessFlags := 25, slot := 17, constantValue := 0 }, { name := "T_LONG", type := .int, accessFlags := 25, slot := 18, constantValue := 0 }, { name := "JLA", type := (.object "jdk/internal/access/JavaLangAccess"), accessFlags := 26, slot := 19, constantValue := 0 }, { name := "SOFT_MAX_ARRAY_LENGTH", type := .int, accessFlags := 25, slot := 20, constantValue := 0 }]
  methods := #[k15m0]
  instanceTypes := #[]
  staticTypes := #[(.object "jdk/internal/misc/Unsafe"), .boolean, .int, .int, .int, .int, .int, .int, .int, .int, .int, .int, .int, .int, .int, .int, .int, .int, .int, (.object "jdk/internal/access/JavaLangAccess"), .int]
  resolved := Array.replicate 378 none
  statics := none }

def pool16 : Array CpInfo := pool [(1, u "java/lang/Cloneable"), (0, .class_ 1), (0, u "java/lang/Object"), (0, .class_ 3)] 3

/-- java/lang/Cloneable -/
def k16 : Class := { plain "java/lang/Cloneable" (some 0) with
  accessFlags := 1537
  interfaces := #[]
  cf := some (fileOf pool16 2 #[] #[] 1537 4 #[] #[])
  fields := #[]
  methods := #[]
  instanceTypes := #[]
  staticTypes := #[]
  resolved := Array.replicate 8 none
  statics := none }

/-- the primitive byte -/
def k17 : Class := { plain "byte" none with kind := .primitive 'B', accessFlags := 0x411 }
/-- [B -/
def k18 : Class := { plain "[B" (some 0) with kind := .array 17 .byte, interfaces := #[16, 2], accessFlags := 1041 }

/-- the primitive char -/
def k19 : Class := { plain "char" none with kind := .primitive 'C', accessFlags := 0x411 }
/-- [C -/
def k20 : Class := { plain "[C" (some 0) with kind := .array 19 .char, interfaces := #[16, 2], accessFlags := 1041 }

/-- the primitive int -/
def k21 : Class := { plain "int" none with kind := .primitive 'I', accessFlags := 0x411 }
/-- [I -/
def k22 : Class := { plain "[I" (some 0) with kind := .array 21 .int, interfaces := #[16, 2], accessFlags := 1041 }

def heap : Heap := #[{ cls := 7, slots := #[.long 0, .int 1, .null, .int 0, .null, .int 0, .int 0], vm := .statics 7 },
  { cls := 12, slots := #[.null, .null, .null], vm := .statics 12 }]
def classes : Array Class := #[k0, k1, k2, k3, k4, k5, k6, k7, k8, k9, k10, k11, k12, k13, k14, k15, k16, k17, k18, k19, k20, k21, k22]
def interned : List (Array UInt16 × Addr) := []
def slotsUsed : Nat := 10
def theMethod : MethodId := ⟨1, 3⟩
def args0 : Array Value := #[.int 2, .int 65, .int 66, .int 67, .int 1]
def aboutOver (below : List Frame) : State where
  vm := { classes := classes, interned := interned.toArray }
  heap := heap
  slotsUsed := slotsUsed
  threads := #[{ frames := .invoking theMethod args0 :: below }]
def below0 : List Frame := [.native { method := ⟨0, 0⟩, args := #[] }]
def about1 : State := aboutOver below0
def p0 : Program := .bare "" "" ""
def e0 : Env := launch0.env 0 0 0
theorem w_frames : about1.frames = Frame.invoking theMethod args0 :: below0 := rfl
set_option maxRecDepth 65536 in
theorem w_args : argsFit about1.vm theMethod args0 = true := by decide +kernel
set_option maxRecDepth 65536 in
theorem w_heap : heapFits about1 = true := by decide +kernel
set_option maxRecDepth 65536 in
theorem w_runnable : about1.curStatus? = some .runnable := by decide +kernel
set_option maxRecDepth 65536 in
theorem w_alone : about1.alone = true := by decide +kernel
set_option maxRecDepth 65536 in
theorem w_named : about1.methodNamed? x = some theMethod := by decide +kernel
set_option maxRecDepth 65536 in
theorem w_hears : about1.hears theMethod below0 = true := by decide +kernel
set_option maxRecDepth 65536 in
theorem w_ripe : about1.ripe theMethod args0 below0 = true := by decide +kernel
theorem w_running : about1.status = .running := rfl
set_option maxRecDepth 65536 in
theorem w_room : about1.hasRoom e0.platform room_1 = true :=
  launch0.hasRoom_least _ room_1 (by decide +kernel) (by decide +kernel) (by decide +kernel) (by decide +kernel) (by decide +kernel) (by decide +kernel)
theorem allAtoms_all (ts : List Jvm.Cond) (a : Array Jvm.Value) (st : Jvm.State) : (allAtoms ts).before a st = ts.all (fun c => c.before a st) := by
  induction ts with
  | nil => rfl
  | cons c t ih =>
    show (Jvm.Cond.and c (allAtoms t)).before a st = _
    rw [Jvm.Cond.before_and, ih, List.all_cons]
def words1 : List Jvm.Cond := Jvm.Cond.code x code maxLocals ret :: tables_1
/-- a 'code' word, met by the world's own term for the bytes: nothing is compared byte by byte -/
theorem code_word {y : MethodName} {bytes : ByteArray} {mx : Nat} {rt : Option FieldType} {a : Array Value} {s : State} {m : MethodId} {meth : Method} {c : Code} (h1 : s.methodNamed? y = some m) (h2 : s.vm.method? m = some meth) (h3 : meth.code = some c) (h4 : c.code = bytes)
    (h5 : (c.maxLocals == mx && c.exceptionTable.isEmpty && decide (c.maxStack ≤ mostOperands) && decide (meth.sig.returnType = rt) && !meth.locks && decide (parseMethodDescriptor y.desc = some meth.sig)) = true) : (Jvm.Cond.code y bytes mx rt).before a s = true := by
  simp only [Bool.and_eq_true, beq_iff_eq, Bool.not_eq_true', decide_eq_true_eq] at h5
  obtain ⟨⟨⟨⟨⟨g1, g2⟩, g3⟩, g4⟩, g5⟩, g6⟩ := h5
  simp [Cond.before, Cond.holds, Cond.value, h1, h2, h3, h4, g1, g2, g3, g4, g5, g6]
def isCode : Jvm.Cond → Bool
  | .code _ _ _ _ => true
  | _ => false
theorem all_split {L : List Jvm.Cond} {P : Jvm.Cond → Bool} (h1 : L.all (fun c => isCode c || P c) = true) (h2 : ∀ c ∈ L.filter isCode, P c = true) : L.all P = true := by
  refine List.all_eq_true.mpr fun c hc => ?_
  have h := List.all_eq_true.mp h1 c hc
  rcases Bool.eq_false_or_eq_true (isCode c) with hi | hi
  · exact h2 c (List.mem_filter.mpr ⟨hc, hi⟩)
  · simpa [hi] using h
set_option maxRecDepth 65536 in
theorem w_c0 : (Jvm.Cond.code x code maxLocals ret).before args0 about1 = true := code_word (m := ⟨1, 3⟩) (meth := k1m3) (c := k1c3) (by decide +kernel) rfl rfl rfl (by decide +kernel)
set_option maxRecDepth 65536 in
theorem w_c1 : (Jvm.Cond.code ({ cls := "com/example/wayline/wayline/HeaderReaderAtEndPinLaw", name := "draw", desc := "(I)C" } : Jvm.MethodName) method_2_code (2 : Nat) (Option.some Jvm.ClassFile.FieldType.char)).before args0 about1 = true := code_word (m := ⟨1, 1⟩) (meth := k1m1) (c := k1c1) (by decide +kernel) rfl rfl rfl (by decide +kernel)
set_option maxRecDepth 65536 in
theorem w_c2 : (Jvm.Cond.code ({ cls := "java/lang/String", name := "<init>", desc := "([C)V" } : Jvm.MethodName) jdk_42_method_3_code (2 : Nat) (Option.none : Option Jvm.ClassFile.FieldType)).before args0 about1 = true := code_word (m := ⟨7, 1⟩) (meth := k7m1) (c := k7c1) (by decide +kernel) rfl rfl rfl (by decide +kernel)
set_option maxRecDepth 65536 in
theorem w_c3 : (Jvm.Cond.code ({ cls := "java/lang/String", name := "<init>", desc := "([CIILjava/lang/Void;)V" } : Jvm.MethodName) jdk_42_method_149_code (6 : Nat) (Option.none : Option Jvm.ClassFile.FieldType)).before args0 about1 = true := code_word (m := ⟨7, 6⟩) (meth := k7m6) (c := k7c6) (by decide +kernel) rfl rfl rfl (by decide +kernel)
set_option maxRecDepth 65536 in
theorem w_c4 : (Jvm.Cond.code ({ cls := "java/lang/Object", name := "<init>", desc := "()V" } : Jvm.MethodName) object_method_1_code (1 : Nat) (Option.none : Option Jvm.ClassFile.FieldType)).before args0 about1 = true := code_word (m := ⟨0, 0⟩) (meth := k0m0) (c := k0c0) (by decide +kernel) rfl rfl rfl (by decide +kernel)
set_option maxRecDepth 65536 in
theorem w_c5 : (Jvm.Cond.code ({ cls := "com/example/wayline/wayline/HeaderReader", name := "<init>", desc := "(Ljava/lang/String;)V" } : Jvm.MethodName) prog_11_method_1_code (2 : Nat) (Option.none : Option Jvm.ClassFile.FieldType)).before args0 about1 = true := code_word (m := ⟨8, 0⟩) (meth := k8m0) (c := k8c0) (by decide +kernel) rfl rfl rfl (by decide +kernel)
set_option maxRecDepth 65536 in
theorem w_c6 : (Jvm.Cond.code ({ cls := "com/example/wayline/wayline/HeaderReader", name := "atEnd", desc := "()Z" } : Jvm.MethodName) prog_11_method_2_code (1 : Nat) (Option.some Jvm.ClassFile.FieldType.boolean)).before args0 about1 = true := code_word (m := ⟨8, 1⟩) (meth := k8m1) (c := k8c1) (by decide +kernel) rfl rfl rfl (by decide +kernel)
set_option maxRecDepth 65536 in
theorem w_c7 : (Jvm.Cond.code ({ cls := "java/lang/String", name := "length", desc := "()I" } : Jvm.MethodName) jdk_42_method_54_code (1 : Nat) (Option.some Jvm.ClassFile.FieldType.int)).before args0 about1 = true := code_word (m := ⟨7, 2⟩) (meth := k7m2) (c := k7c2) (by decide +kernel) rfl rfl rfl (by decide +kernel)
set_option maxRecDepth 65536 in
theorem w_c8 : (Jvm.Cond.code ({ cls := "java/lang/String", name := "coder", desc := "()B" } : Jvm.MethodName) jdk_42_method_152_code (1 : Nat) (Option.some Jvm.ClassFile.FieldType.byte)).before args0 about1 = true := code_word (m := ⟨7, 8⟩) (meth := k7m8) (c := k7c8) (by decide +kernel) rfl rfl rfl (by decide +kernel)
set_option maxRecDepth 65536 in
theorem w_c9 : (Jvm.Cond.code ({ cls := "com/example/wayline/wayline/HeaderReader", name := "skipWhiteSpace", desc := "()V" } : Jvm.MethodName) prog_11_method_14_code (1 : Nat) (Option.none : Option Jvm.ClassFile.FieldType)).before args0 about1 = true := code_word (m := ⟨8, 3⟩) (meth := k8m3) (c := k8c3) (by decide +kernel) rfl rfl rfl (by decide +kernel)
set_option maxRecDepth 65536 in
theorem w_c10 : (Jvm.Cond.code ({ cls := "java/lang/StringUTF16", name := "compress", desc := "([CII)[B" } : Jvm.MethodName) jdk_52_method_16_code (6 : Nat) (Option.some (Jvm.ClassFile.FieldType.array Jvm.ClassFile.FieldType.byte))).before args0 about1 = true := code_word (m := ⟨9, 2⟩) (meth := k9m2) (c := k9c2) (by decide +kernel) rfl rfl rfl (by decide +kernel)
set_option maxRecDepth 65536 in
theorem w_c11 : (Jvm.Cond.code ({ cls := "java/lang/StringUTF16", name := "compress", desc := "([CI[BII)I" } : Jvm.MethodName) jdk_52_method_21_code (7 : Nat) (Option.some Jvm.ClassFile.FieldType.int)).before args0 about1 = true := code_word (m := ⟨9, 3⟩) (meth := k9m3) (c := k9c3) (by decide +kernel) rfl rfl rfl (by decide +kernel)
set_option maxRecDepth 65536 in
theorem w_c12 : (Jvm.Cond.code ({ cls := "java/lang/StringUTF16", name := "coderFromArrayLen", desc := "([BI)B" } : Jvm.MethodName) jdk_52_method_15_code (2 : Nat) (Option.some Jvm.ClassFile.FieldType.byte)).before args0 about1 = true := code_word (m := ⟨9, 1⟩) (meth := k9m1) (c := k9c1) (by decide +kernel) rfl rfl rfl (by decide +kernel)
set_option maxRecDepth 65536 in
theorem w_c13 : (Jvm.Cond.code ({ cls := "com/example/wayline/wayline/HeaderReader", name := "textBefore", desc := "(C)Ljava/lang/String;" } : Jvm.MethodName) prog_11_method_11_code (4 : Nat) (Option.some (Jvm.ClassFile.FieldType.object "java/lang/String"))).before args0 about1 = true := code_word (m := ⟨8, 2⟩) (meth := k8m2) (c := k8c2) (by decide +kernel) rfl rfl rfl (by decide +kernel)
set_option maxRecDepth 65536 in
theorem w_c14 : (Jvm.Cond.code ({ cls := "java/lang/String", name := "indexOf", desc := "(II)I" } : Jvm.MethodName) jdk_42_method_80_code (3 : Nat) (Option.some Jvm.ClassFile.FieldType.int)).before args0 about1 = true := code_word (m := ⟨7, 4⟩) (meth := k7m4) (c := k7c4) (by decide +kernel) rfl rfl rfl (by decide +kernel)
set_option maxRecDepth 65536 in
theorem w_c15 : (Jvm.Cond.code ({ cls := "java/lang/String", name := "isLatin1", desc := "()Z" } : Jvm.MethodName) jdk_42_method_154_code (1 : Nat) (Option.some Jvm.ClassFile.FieldType.boolean)).before args0 about1 = true := code_word (m := ⟨7, 9⟩) (meth := k7m9) (c := k7c9) (by decide +kernel) rfl rfl rfl (by decide +kernel)
set_option maxRecDepth 65536 in
theorem w_c16 : (Jvm.Cond.code ({ cls := "java/lang/StringLatin1", name := "indexOf", desc := "([BIII)I" } : Jvm.MethodName) jdk_43_method_22_code (4 : Nat) (Option.some Jvm.ClassFile.FieldType.int)).before args0 about1 = true := code_word (m := ⟨10, 3⟩) (meth := k10m3) (c := k10c3) (by decide +kernel) rfl rfl rfl (by decide +kernel)
set_option maxRecDepth 65536 in
theorem w_c17 : (Jvm.Cond.code ({ cls := "java/lang/StringLatin1", name := "canEncode", desc := "(I)Z" } : Jvm.MethodName) jdk_43_method_4_code (1 : Nat) (Option.some Jvm.ClassFile.FieldType.boolean)).before args0 about1 = true := code_word (m := ⟨10, 2⟩) (meth := k10m2) (c := k10c2) (by decide +kernel) rfl rfl rfl (by decide +kernel)
set_option maxRecDepth 65536 in
theorem w_c18 : (Jvm.Cond.code ({ cls := "java/lang/Math", name := "max", desc := "(II)I" } : Jvm.MethodName) jdk_29_method_65_code (2 : Nat) (Option.some Jvm.ClassFile.FieldType.int)).before args0 about1 = true := code_word (m := ⟨11, 1⟩) (meth := k11m1) (c := k11c1) (by decide +kernel) rfl rfl rfl (by decide +kernel)
set_option maxRecDepth 65536 in
theorem w_c19 : (Jvm.Cond.code ({ cls := "java/lang/Math", name := "min", desc := "(II)I" } : Jvm.MethodName) jdk_29_method_69_code (2 : Nat) (Option.some Jvm.ClassFile.FieldType.int)).before args0 about1 = true := code_word (m := ⟨11, 2⟩) (meth := k11m2) (c := k11c2) (by decide +kernel) rfl rfl rfl (by decide +kernel)
set_option maxRecDepth 65536 in
theorem w_c20 : (Jvm.Cond.code ({ cls := "java/lang/StringLatin1", name := "indexOfChar", desc := "([BIII)I" } : Jvm.MethodName) jdk_43_method_23_code (6 : Nat) (Option.some Jvm.ClassFile.FieldType.int)).before args0 about1 = true := code_word (m := ⟨10, 4⟩) (meth := k10m4) (c := k10c4) (by decide +kernel) rfl rfl rfl (by decide +kernel)
set_option maxRecDepth 65536 in
theorem w_c21 : (Jvm.Cond.code ({ cls := "java/lang/String", name := "substring", desc := "(II)Ljava/lang/String;" } : Jvm.MethodName) jdk_42_method_92_code (5 : Nat) (Option.some (Jvm.ClassFile.FieldType.object "java/lang/String"))).before args0 about1 = true := code_word (m := ⟨7, 5⟩) (meth := k7m5) (c := k7c5) (by decide +kernel) rfl rfl rfl (by decide +kernel)
set_option maxRecDepth 65536 in
theorem w_c22 : (Jvm.Cond.code ({ cls := "java/lang/String", name := "checkBoundsBeginEnd", desc := "(III)V" } : Jvm.MethodName) jdk_42_method_158_code (3 : Nat) (Option.none : Option Jvm.ClassFile.FieldType)).before args0 about1 = true := code_word (m := ⟨7, 11⟩) (meth := k7m11) (c := k7c11) (by decide +kernel) rfl rfl rfl (by decide +kernel)
set_option maxRecDepth 65536 in
theorem w_c23 : (Jvm.Cond.code ({ cls := "jdk/internal/util/Preconditions", name := "checkFromToIndex", desc := "(IIILjava/util/function/BiFunction;)I" } : Jvm.MethodName) jdk_41_method_12_code (4 : Nat) (Option.some Jvm.ClassFile.FieldType.int)).before args0 about1 = true := code_word (m := ⟨12, 2⟩) (meth := k12m2) (c := k12c2) (by decide +kernel) rfl rfl rfl (by decide +kernel)
set_option maxRecDepth 65536 in
theorem w_c24 : (Jvm.Cond.code ({ cls := "java/lang/StringLatin1", name := "newString", desc := "([BII)Ljava/lang/String;" } : Jvm.MethodName) jdk_43_method_47_code (3 : Nat) (Option.some (Jvm.ClassFile.FieldType.object "java/lang/String"))).before args0 about1 = true := code_word (m := ⟨10, 5⟩) (meth := k10m5) (c := k10c5) (by decide +kernel) rfl rfl rfl (by decide +kernel)
set_option maxRecDepth 65536 in
theorem w_c25 : (Jvm.Cond.code ({ cls := "java/util/Arrays", name := "copyOfRange", desc := "([BII)[B" } : Jvm.MethodName) jdk_65_method_132_code (3 : Nat) (Option.some (Jvm.ClassFile.FieldType.array Jvm.ClassFile.FieldType.byte))).before args0 about1 = true := code_word (m := ⟨13, 2⟩) (meth := k13m2) (c := k13c2) (by decide +kernel) rfl rfl rfl (by decide +kernel)
set_option maxRecDepth 65536 in
theorem w_c26 : (Jvm.Cond.code ({ cls := "java/util/Arrays", name := "copyOfRangeByte", desc := "([BII)[B" } : Jvm.MethodName) jdk_65_method_133_code (5 : Nat) (Option.some (Jvm.ClassFile.FieldType.array Jvm.ClassFile.FieldType.byte))).before args0 about1 = true := code_word (m := ⟨13, 3⟩) (meth := k13m3) (c := k13c3) (by decide +kernel) rfl rfl rfl (by decide +kernel)
set_option maxRecDepth 65536 in
theorem w_c27 : (Jvm.Cond.code ({ cls := "java/util/Arrays", name := "checkLength", desc := "(II)V" } : Jvm.MethodName) jdk_65_method_131_code (2 : Nat) (Option.none : Option Jvm.ClassFile.FieldType)).before args0 about1 = true := code_word (m := ⟨13, 1⟩) (meth := k13m1) (c := k13c1) (by decide +kernel) rfl rfl rfl (by decide +kernel)
set_option maxRecDepth 65536 in
theorem w_c28 : (Jvm.Cond.code ({ cls := "java/lang/String", name := "<init>", desc := "([BB)V" } : Jvm.MethodName) jdk_42_method_151_code (3 : Nat) (Option.none : Option Jvm.ClassFile.FieldType)).before args0 about1 = true := code_word (m := ⟨7, 7⟩) (meth := k7m7) (c := k7c7) (by decide +kernel) rfl rfl rfl (by decide +kernel)
set_option maxRecDepth 65536 in
theorem w_c29 : (Jvm.Cond.code ({ cls := "java/lang/String", name := "charAt", desc := "(I)C" } : Jvm.MethodName) jdk_42_method_56_code (2 : Nat) (Option.some Jvm.ClassFile.FieldType.char)).before args0 about1 = true := code_word (m := ⟨7, 3⟩) (meth := k7m3) (c := k7c3) (by decide +kernel) rfl rfl rfl (by decide +kernel)
set_option maxRecDepth 65536 in
theorem w_c30 : (Jvm.Cond.code ({ cls := "java/lang/StringLatin1", name := "charAt", desc := "([BI)C" } : Jvm.MethodName) jdk_43_method_2_code (2 : Nat) (Option.some Jvm.ClassFile.FieldType.char)).before args0 about1 = true := code_word (m := ⟨10, 1⟩) (meth := k10m1) (c := k10c1) (by decide +kernel) rfl rfl rfl (by decide +kernel)
set_option maxRecDepth 65536 in
theorem w_c31 : (Jvm.Cond.code ({ cls := "java/lang/String", name := "checkIndex", desc := "(II)V" } : Jvm.MethodName) jdk_42_method_155_code (2 : Nat) (Option.none : Option Jvm.ClassFile.FieldType)).before args0 about1 = true := code_word (m := ⟨7, 10⟩) (meth := k7m10) (c := k7c10) (by decide +kernel) rfl rfl rfl (by decide +kernel)
set_option maxRecDepth 65536 in
theorem w_c32 : (Jvm.Cond.code ({ cls := "jdk/internal/util/Preconditions", name := "checkIndex", desc := "(IILjava/util/function/BiFunction;)I" } : Jvm.MethodName) jdk_41_method_11_code (3 : Nat) (Option.some Jvm.ClassFile.FieldType.int)).before args0 about1 = true := code_word (m := ⟨12, 1⟩) (meth := k12m1) (c := k12c1) (by decide +kernel) rfl rfl rfl (by decide +kernel)
set_option maxRecDepth 65536 in
theorem w_c33 : (Jvm.Cond.code ({ cls := "com/example/wayline/wayline/HeaderReaderAtEndPinLaw", name := "ws", desc := "(C)Z" } : Jvm.MethodName) method_3_code (1 : Nat) (Option.some Jvm.ClassFile.FieldType.boolean)).before args0 about1 = true := code_word (m := ⟨1, 2⟩) (meth := k1m2) (c := k1c2) (by decide +kernel) rfl rfl rfl (by decide +kernel)
def codes1 : List Jvm.Cond := [Jvm.Cond.code x code maxLocals ret, Jvm.Cond.code ({ cls := "com/example/wayline/wayline/HeaderReaderAtEndPinLaw", name := "draw", desc := "(I)C" } : Jvm.MethodName) method_2_code (2 : Nat) (Option.some Jvm.ClassFile.FieldType.char), Jvm.Cond.code ({ cls := "java/lang/String", name := "<init>", desc := "([C)V" } : Jvm.MethodName) jdk_42_method_3_code (2 : Nat) (Option.none : Option Jvm.ClassFile.FieldType), Jvm.Cond.code ({ cls := "java/lang/String", name := "<init>", desc := "([CIILjava/lang/Void;)V" } : Jvm.MethodName) jdk_42_method_149_code (6 : Nat) (Option.none : Option Jvm.ClassFile.FieldType), Jvm.Cond.code ({ cls := "java/lang/Object", name := "<init>", desc := "()V" } : Jvm.MethodName) object_method_1_code (1 : Nat) (Option.none : Option Jvm.ClassFile.FieldType), Jvm.Cond.code ({ cls := "com/example/wayline/wayline/HeaderReader", name := "<init>", desc := "(Ljava/lang/String;)V" } : Jvm.MethodName) prog_11_method_1_code (2 : Nat) (Option.none : Option Jvm.ClassFile.FieldType), Jvm.Cond.code ({ cls := "com/example/wayline/wayline/HeaderReader", name := "atEnd", desc := "()Z" } : Jvm.MethodName) prog_11_method_2_code (1 : Nat) (Option.some Jvm.ClassFile.FieldType.boolean), Jvm.Cond.code ({ cls := "java/lang/String", name := "length", desc := "()I" } : Jvm.MethodName) jdk_42_method_54_code (1 : Nat) (Option.some Jvm.ClassFile.FieldType.int), Jvm.Cond.code ({ cls := "java/lang/String", name := "coder", desc := "()B" } : Jvm.MethodName) jdk_42_method_152_code (1 : Nat) (Option.some Jvm.ClassFile.FieldType.byte), Jvm.Cond.code ({ cls := "com/example/wayline/wayline/HeaderReader", name := "skipWhiteSpace", desc := "()V" } : Jvm.MethodName) prog_11_method_14_code (1 : Nat) (Option.none : Option Jvm.ClassFile.FieldType), Jvm.Cond.code ({ cls := "java/lang/StringUTF16", name := "compress", desc := "([CII)[B" } : Jvm.MethodName) jdk_52_method_16_code (6 : Nat) (Option.some (Jvm.ClassFile.FieldType.array Jvm.ClassFile.FieldType.byte)), Jvm.Cond.code ({ cls := "java/lang/StringUTF16", name := "compress", desc := "([CI[BII)I" } : Jvm.MethodName) jdk_52_method_21_code (7 : Nat) (Option.some Jvm.ClassFile.FieldType.int), Jvm.Cond.code ({ cls := "java/lang/StringUTF16", name := "coderFromArrayLen", desc := "([BI)B" } : Jvm.MethodName) jdk_52_method_15_code (2 : Nat) (Option.some Jvm.ClassFile.FieldType.byte), Jvm.Cond.code ({ cls := "com/example/wayline/wayline/HeaderReader", name := "textBefore", desc := "(C)Ljava/lang/String;" } : Jvm.MethodName) prog_11_method_11_code (4 : Nat) (Option.some (Jvm.ClassFile.FieldType.object "java/lang/String")), Jvm.Cond.code ({ cls := "java/lang/String", name := "indexOf", desc := "(II)I" } : Jvm.MethodName) jdk_42_method_80_code (3 : Nat) (Option.some Jvm.ClassFile.FieldType.int), Jvm.Cond.code ({ cls := "java/lang/String", name := "isLatin1", desc := "()Z" } : Jvm.MethodName) jdk_42_method_154_code (1 : Nat) (Option.some Jvm.ClassFile.FieldType.boolean), Jvm.Cond.code ({ cls := "java/lang/StringLatin1", name := "indexOf", desc := "([BIII)I" } : Jvm.MethodName) jdk_43_method_22_code (4 : Nat) (Option.some Jvm.ClassFile.FieldType.int), Jvm.Cond.code ({ cls := "java/lang/StringLatin1", name := "canEncode", desc := "(I)Z" } : Jvm.MethodName) jdk_43_method_4_code (1 : Nat) (Option.some Jvm.ClassFile.FieldType.boolean), Jvm.Cond.code ({ cls := "java/lang/Math", name := "max", desc := "(II)I" } : Jvm.MethodName) jdk_29_method_65_code (2 : Nat) (Option.some Jvm.ClassFile.FieldType.int), Jvm.Cond.code ({ cls := "java/lang/Math", name := "min", desc := "(II)I" } : Jvm.MethodName) jdk_29_method_69_code (2 : Nat) (Option.some Jvm.ClassFile.FieldType.int), Jvm.Cond.code ({ cls := "java/lang/StringLatin1", name := "indexOfChar", desc := "([BIII)I" } : Jvm.MethodName) jdk_43_method_23_code (6 : Nat) (Option.some Jvm.ClassFile.FieldType.int), Jvm.Cond.code ({ cls := "java/lang/String", name := "substring", desc := "(II)Ljava/lang/String;" } : Jvm.MethodName) jdk_42_method_92_code (5 : Nat) (Option.some (Jvm.ClassFile.FieldType.object "java/lang/String")), Jvm.Cond.code ({ cls := "java/lang/String", name := "checkBoundsBeginEnd", desc := "(III)V" } : Jvm.MethodName) jdk_42_method_158_code (3 : Nat) (Option.none : Option Jvm.ClassFile.FieldType), Jvm.Cond.code ({ cls := "jdk/internal/util/Preconditions", name := "checkFromToIndex", desc := "(IIILjava/util/function/BiFunction;)I" } : Jvm.MethodName) jdk_41_method_12_code (4 : Nat) (Option.some Jvm.ClassFile.FieldType.int), Jvm.Cond.code ({ cls := "java/lang/StringLatin1", name := "newString", desc := "([BII)Ljava/lang/String;" } : Jvm.MethodName) jdk_43_method_47_code (3 : Nat) (Option.some (Jvm.ClassFile.FieldType.object "java/lang/String")), Jvm.Cond.code ({ cls := "java/util/Arrays", name := "copyOfRange", desc := "([BII)[B" } : Jvm.MethodName) jdk_65_method_132_code (3 : Nat) (Option.some (Jvm.ClassFile.FieldType.array Jvm.ClassFile.FieldType.byte)), Jvm.Cond.code ({ cls := "java/util/Arrays", name := "copyOfRangeByte", desc := "([BII)[B" } : Jvm.MethodName) jdk_65_method_133_code (5 : Nat) (Option.some (Jvm.ClassFile.FieldType.array Jvm.ClassFile.FieldType.byte)), Jvm.Cond.code ({ cls := "java/util/Arrays", name := "checkLength", desc := "(II)V" } : Jvm.MethodName) jdk_65_method_131_code (2 : Nat) (Option.none : Option Jvm.ClassFile.FieldType), Jvm.Cond.code ({ cls := "java/lang/String", name := "<init>", desc := "([BB)V" } : Jvm.MethodName) jdk_42_method_151_code (3 : Nat) (Option.none : Option Jvm.ClassFile.FieldType), Jvm.Cond.code ({ cls := "java/lang/String", name := "charAt", desc := "(I)C" } : Jvm.MethodName) jdk_42_method_56_code (2 : Nat) (Option.some Jvm.ClassFile.FieldType.char), Jvm.Cond.code ({ cls := "java/lang/StringLatin1", name := "charAt", desc := "([BI)C" } : Jvm.MethodName) jdk_43_method_2_code (2 : Nat) (Option.some Jvm.ClassFile.FieldType.char), Jvm.Cond.code ({ cls := "java/lang/String", name := "checkIndex", desc := "(II)V" } : Jvm.MethodName) jdk_42_method_155_code (2 : Nat) (Option.none : Option Jvm.ClassFile.FieldType), Jvm.Cond.code ({ cls := "jdk/internal/util/Preconditions", name := "checkIndex", desc := "(IILjava/util/function/BiFunction;)I" } : Jvm.MethodName) jdk_41_method_11_code (3 : Nat) (Option.some Jvm.ClassFile.FieldType.int), Jvm.Cond.code ({ cls := "com/example/wayline/wayline/HeaderReaderAtEndPinLaw", name := "ws", desc := "(C)Z" } : Jvm.MethodName) method_3_code (1 : Nat) (Option.some Jvm.ClassFile.FieldType.boolean)]
set_option maxRecDepth 65536 in
theorem codes_eq : words1.filter isCode = codes1 := rfl
theorem w_codes : ∀ c ∈ words1.filter isCode, c.before args0 about1 = true := by
  rw [codes_eq]
  intro c hc
  simp only [codes1, List.mem_cons, List.not_mem_nil, or_false] at hc
  rcases hc with rfl | rfl | rfl | rfl | rfl | rfl | rfl | rfl | rfl | rfl | rfl | rfl | rfl | rfl | rfl | rfl | rfl | rfl | rfl | rfl | rfl | rfl | rfl | rfl | rfl | rfl | rfl | rfl | rfl | rfl | rfl | rfl | rfl | rfl
  · exact w_c0
  · exact w_c1
  · exact w_c2
  · exact w_c3
  · exact w_c4
  · exact w_c5
  · exact w_c6
  · exact w_c7
  · exact w_c8
  · exact w_c9
  · exact w_c10
  · exact w_c11
  · exact w_c12
  · exact w_c13
  · exact w_c14
  · exact w_c15
  · exact w_c16
  · exact w_c17
  · exact w_c18
  · exact w_c19
  · exact w_c20
  · exact w_c21
  · exact w_c22
  · exact w_c23
  · exact w_c24
  · exact w_c25
  · exact w_c26
  · exact w_c27
  · exact w_c28
  · exact w_c29
  · exact w_c30
  · exact w_c31
  · exact w_c32
  · exact w_c33
set_option maxRecDepth 65536 in
theorem w_t1 : (words1.take 24).all (fun c => isCode c || c.before args0 about1) = true := by decide +kernel
set_option maxRecDepth 65536 in
theorem w_t2 : ((words1.drop 24).take 24).all (fun c => isCode c || c.before args0 about1) = true := by decide +kernel
set_option maxRecDepth 65536 in
theorem w_t3 : (((words1.drop 24).drop 24).take 24).all (fun c => isCode c || c.before args0 about1) = true := by decide +kernel
set_option maxRecDepth 65536 in
theorem w_t4 : ((((words1.drop 24).drop 24).drop 24).take 24).all (fun c => isCode c || c.before args0 about1) = true := by decide +kernel
set_option maxRecDepth 65536 in
theorem w_t5 : (((((words1.drop 24).drop 24).drop 24).drop 24).take 24).all (fun c => isCode c || c.before args0 about1) = true := by decide +kernel
set_option maxRecDepth 65536 in
theorem w_t6 : ((((((words1.drop 24).drop 24).drop 24).drop 24).drop 24).take 24).all (fun c => isCode c || c.before args0 about1) = true := by decide +kernel
set_option maxRecDepth 65536 in
theorem w_t7 : ((((((words1.drop 24).drop 24).drop 24).drop 24).drop 24).drop 24).all (fun c => isCode c || c.before args0 about1) = true := by decide +kernel
theorem w_tables : (allAtoms (Jvm.Cond.code x code maxLocals ret :: tables_1)).before args0 about1 = true := by
  rw [allAtoms_all]
  show words1.all (fun c => c.before args0 about1) = true
  refine all_split ?_ w_codes
  rw [← List.take_append_drop 24 words1, List.all_append, w_t1, ← List.take_append_drop 24 (words1.drop 24), List.all_append, w_t2, ← List.take_append_drop 24 ((words1.drop 24).drop 24), List.all_append, w_t3, ← List.take_append_drop 24 (((words1.drop 24).drop 24).drop 24), List.all_append, w_t4, ← List.take_append_drop 24 ((((words1.drop 24).drop 24).drop 24).drop 24), List.all_append, w_t5, ← List.take_append_drop 24 (((((words1.drop 24).drop 24).drop 24).drop 24).drop 24), List.all_append, w_t6, w_t7]
  rfl
set_option maxRecDepth 65536 in
theorem w_rest : rest_1_c.before args0 about1 = true := by decide +kernel
set_option maxRecDepth 65536 in
theorem w_case : (Jvm.Cond.and given_1 narrow_1).before args0 about1 = true := by decide +kernel
set_option maxRecDepth 65536 in
theorem w_consts : constsHeld consts_1 about1 := Jvm.Lit.constsHeldB_iff.mp (by decide +kernel)
theorem w_applies : (headSpec (Jvm.Cond.code x code maxLocals ret :: tables_1) room_1).applies x e0.platform about1 = true :=
  (Spec.applies_iff w_frames).mpr ⟨w_running, w_runnable, w_alone, w_named, w_hears, w_ripe, w_room, w_tables⟩
theorem atStart : AtStart classFile x code maxLocals ret World_1 tables_1 room_1 Calls_1 rest_1 Pre_1 launch0 p0 e0 about1 theMethod args0 below0 :=
  ⟨lists_1, trivial, launch0.admits_env _ _ _, launch0.least_env, fairChoices_fair.cas, fairChoices_fair.clock, w_frames, w_args, w_heap, w_applies, ⟨w_consts, trivial⟩, w_rest, w_case⟩
end start1
theorem witness_1 : WitnessClaimed_1 := ⟨start1.p0, start1.e0, start1.about1, start1.theMethod, start1.args0, start1.below0, start1.atStart⟩
end Jvm.Pilot.@@N@@
