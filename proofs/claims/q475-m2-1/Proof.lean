import JvmDerived
import JvmDerived.Pilot.@@N@@Statement
import JvmDerived.Pilot.@@N@@Code
set_option linter.unusedVariables false
set_option linter.unusedSimpArgs false
/- laws to paste: Road.backV (cut by pick.py; bodies as the Statement names them) -/
namespace Jvm.Pilot.@@N@@
namespace StrChars
open Jvm Sem ClassFile Op Lib Jvm.Stand Jvm.Free.XT Jvm.Free.ALB Jvm.Free.JM Jvm.Free
open Jvm.Lib.Cold (StaticIs)
/-- a char array whose places are chars -/
def Ch (a : Addr) (A : Cell) (U : State) : Prop := Arr .char a A U ∧ Typed .char A
theorem Ch.mv {a : Addr} {A : Cell} {U U' : State} (h : Ch a A U) (hal : U.vm.Alike U'.vm) (hh : U'.heap = U.heap) : Ch a A U' := ⟨h.1.mv hal hh, h.2⟩
theorem Ch.keep {a : Addr} {A : Cell} {U U' : State} (h : Ch a A U) (hal : U.vm.Alike U'.vm) (hk : U'.heap[a]? = some A) : Ch a A U' := ⟨h.1.keep hal hk, h.2⟩
/-- what place i of a char[]'s cell holds -/
def cv (A : Cell) (i : Nat) : Int32 := match A.slots[i]? with | some (.int x) => x | _ => 0
theorem Ch.get {a : Addr} {A : Cell} {U : State} (h : Ch a A U) {i : Nat} (hi : i < A.slots.size) : A.slots[i]? = some (.int (cv A i)) := by
  have e := Array.getElem?_eq_getElem hi
  have f := h.2 i _ e
  unfold cv; rw [e]
  generalize A.slots[i] = v at f
  cases v <;> simp [fits] at f ⊢
/-- the byte that i2b leaves of a char -/
def lo8 (x : Int32) : Int32 := x.toInt8.toInt32
theorem fits_lo8 (y : Int32) : fits .byte (.int (lo8 y)) = true := by
  have h1 := y.toInt8.le_toInt
  have h2 := y.toInt8.toInt_lt
  simp only [lo8, fits, Bool.and_eq_true, decide_eq_true_eq, Int32.le_iff_toInt_le, Int8.toInt_toInt32, show (-128 : Int32).toInt = -128 from by decide, show (127 : Int32).toInt = 127 from by decide]
  omega
/-- A' is A but that each place j of lo .. hi - 1 holds f j -/
def Laid (A A' : Cell) (lo hi : Nat) (f : Nat → Value) : Prop := A'.cls = A.cls ∧ A'.vm = A.vm ∧ A'.slots.size = A.slots.size ∧ ∀ i, A'.slots[i]? = if lo ≤ i ∧ i < hi then some (f i) else A.slots[i]?
theorem Laid.zero (A : Cell) (lo : Nat) (f : Nat → Value) : Laid A A lo (lo + 0) f := ⟨rfl, rfl, rfl, fun i => by rw [if_neg (by omega)]⟩
theorem Laid.step {A Ak : Cell} {lo k : Nat} {f : Nat → Value} {v : Value} (h : Laid A Ak lo k f) (hlo : lo ≤ k) (hk : k < Ak.slots.size) (hv : v = f k) : Laid A (Ak.setSlot k v) lo (k + 1) f := by
  refine ⟨h.1, h.2.1, by simpa [Cell.setSlot] using h.2.2.1, fun i => ?_⟩
  by_cases e : k = i
  · subst e; rw [Cell.slots_setSlot_self v hk, if_pos (by omega), hv]
  · rw [Cell.slots_setSlot_ne v e, h.2.2.2 i]
    by_cases q : lo ≤ i ∧ i < k
    · rw [if_pos q, if_pos (by omega)]
    · rw [if_neg q, if_neg (by omega)]
def U16 : String := "java/lang/StringUTF16"
namespace Cmp5
def yN : MethodName := ⟨"java/lang/StringUTF16", "compress", "([CI[BII)I"⟩
abbrev yB : ByteArray := jdk_52_method_21_code
theorem d0 : decode yB 0 = .ok (.iconst 0, 1) := by decide +kernel
theorem d1 : decode yB 1 = .ok (.istore 5, 2) := by decide +kernel
theorem d3 : decode yB 3 = .ok (.iload 5, 2) := by decide +kernel
theorem d5 : decode yB 5 = .ok (.iload 4, 2) := by decide +kernel
theorem d7 : decode yB 7 = .ok (.if_icmp (.ge) 37, 3) := by decide +kernel
theorem d10 : decode yB 10 = .ok (.aload_n 0, 1) := by decide +kernel
theorem d11 : decode yB 11 = .ok (.iload_n 1, 1) := by decide +kernel
theorem d12 : decode yB 12 = .ok (.caload, 1) := by decide +kernel
theorem d13 : decode yB 13 = .ok (.istore 6, 2) := by decide +kernel
theorem d15 : decode yB 15 = .ok (.iload 6, 2) := by decide +kernel
theorem d17 : decode yB 17 = .ok (.sipush 255, 3) := by decide +kernel
theorem d20 : decode yB 20 = .ok (.if_icmp (.le) 6, 3) := by decide +kernel
theorem d26 : decode yB 26 = .ok (.aload_n 2, 1) := by decide +kernel
theorem d27 : decode yB 27 = .ok (.iload_n 3, 1) := by decide +kernel
theorem d28 : decode yB 28 = .ok (.iload 6, 2) := by decide +kernel
theorem d30 : decode yB 30 = .ok (.i2b, 1) := by decide +kernel
theorem d31 : decode yB 31 = .ok (.bastore, 1) := by decide +kernel
theorem d32 : decode yB 32 = .ok (.iinc 1 1, 3) := by decide +kernel
theorem d35 : decode yB 35 = .ok (.iinc 3 1, 3) := by decide +kernel
theorem d38 : decode yB 38 = .ok (.iinc 5 1, 3) := by decide +kernel
theorem d41 : decode yB 41 = .ok (.goto (-38), 3) := by decide +kernel
theorem d44 : decode yB 44 = .ok (.iload 4, 2) := by decide +kernel
theorem d46 : decode yB 46 = .ok (.ireturn, 1) := by decide +kernel
def site : List Cond := []
def tab : Cond := tabOf yN yB 7 (some .int) site
def P (b : Addr) (A : Cell) (d : Addr) (B : Cell) (o q len : Nat) (args : Array Value) (s : State) : Prop := args = #[.ref b, .int (Int32.ofNat o), .ref d, .int (Int32.ofNat q), .int (Int32.ofNat len)] ∧ Ch b A s ∧ Arr .byte d B s ∧ b ≠ d ∧ o + len ≤ A.slots.size ∧ q + len ≤ B.slots.size ∧ ∀ i, i < len → ¬ 255 < cv A (o + i)
def E (b : Addr) (A : Cell) (d : Addr) (B : Cell) (o q len : Nat) (r : Option Value) (s u : State) : Prop := r = some (.int (Int32.ofNat len)) ∧ ∃ B', Put d B' s u ∧ Laid B B' q (q + len) (fun j => Value.int (lo8 (cv A (o + (j - q)))))
/-- no char of the range above 255: len; the places written hold each char's low byte -/
theorem law (l : Launch) (b : Addr) (A : Cell) (d : Addr) (B : Cell) (o q len : Nat) : Law l yN 5 5 0 0 yB 7 (some .int) site (P b A d B o q len) (E b A d B o q len) (copyLocs d q len) 0 0 := by
  refine Law.of_walk (plainFor_of_name (by decide +kernel)) (by decide +kernel) (by decide +kernel) (by decide) (fun _ _ h => by rw [h.1]; rfl) (fun _ U U' hal hh h => ⟨h.1, h.2.1.mv hal hh, h.2.2.1.mv hal hh, h.2.2.2⟩) (fun r U U' V V' h1 hal h2 h => ⟨h.1, h.2.elim fun B' q => ⟨B', q.1.mv h1 h2, q.2⟩⟩) ?_
  intro p e s m args below meth c s₁ X0 hexec hbytes hml hret hlk hnm hown hh0 W hP
  obtain ⟨rfl, hA, hB, hne, l1, l2, hp⟩ := hP
  have c1 : Steps p.tables e below (s₁.setTop (entryFrame m #[.ref b, .int (Int32.ofNat o), .ref d, .int (Int32.ofNat q), .int (Int32.ofNat len)] 7)) (s₁.setTop (mkF m 0 #[.val (.ref b), .val (.int (Int32.ofNat o)), .val (.ref d), .val (.int (Int32.ofNat q)), .val (.int (Int32.ofNat len)), .unset, .unset] [])) := entry rfl
  have hA0 := hA.1.mv X0.warmed.alike hh0
  have hB0 := hB.mv X0.warmed.alike hh0
  have a31 := hA.1.2.2.2
  have c2 : Steps p.tables e below (s₁.setTop (entryFrame m #[.ref b, .int (Int32.ofNat o), .ref d, .int (Int32.ofNat q), .int (Int32.ofNat len)] 7)) (s₁.setTop (mkF m 3 #[.val (.ref b), .val (.int (Int32.ofNat o)), .val (.ref d), .val (.int (Int32.ofNat q)), .val (.int (Int32.ofNat len)), .val (.int 0), .unset] [])) := c1.trans (by
    refine iconstV X0.here hexec rfl 0 (hb hbytes d0) (by decide) ?_
    refine XS.istore X0.here hexec rfl (hb hbytes d1) rfl rfl ?_
    exact Steps.refl _)
  have loop : ∀ (r i : Nat), i + r = len → ∀ (z : Slot), (z = .unset ∨ ∃ w, z = .val w ∧ w.category = 1) → ∀ (Tl : State) (Bk : Cell), Stand p l e { frames := 0, locals := 0, cells := 0, slots := 0 } s m #[.ref b, .int (Int32.ofNat o), .ref d, .int (Int32.ofNat q), .int (Int32.ofNat len)] below meth c Tl ([] ++ copyLocs d q i) 0 0 → Put d Bk s₁ Tl → Laid B Bk q (q + i) (fun j => Value.int (lo8 (cv A (o + (j - q))))) →
      Steps p.tables e below (s₁.setTop (entryFrame m #[.ref b, .int (Int32.ofNat o), .ref d, .int (Int32.ofNat q), .int (Int32.ofNat len)] 7)) (Tl.setTop (mkF m 3 #[.val (.ref b), .val (.int (Int32.ofNat (o + i))), .val (.ref d), .val (.int (Int32.ofNat (q + i))), .val (.int (Int32.ofNat len)), .val (.int (Int32.ofNat i)), z] [])) → ∃ (T' : State) (B' : Cell) (z' : Slot), Stand p l e { frames := 0, locals := 0, cells := 0, slots := 0 } s m #[.ref b, .int (Int32.ofNat o), .ref d, .int (Int32.ofNat q), .int (Int32.ofNat len)] below meth c T' ([] ++ copyLocs d q len) 0 0 ∧ Put d B' s₁ T' ∧ Laid B B' q (q + len) (fun j => Value.int (lo8 (cv A (o + (j - q))))) ∧
      Steps p.tables e below (s₁.setTop (entryFrame m #[.ref b, .int (Int32.ofNat o), .ref d, .int (Int32.ofNat q), .int (Int32.ofNat len)] 7)) (T'.setTop (mkF m 3 #[.val (.ref b), .val (.int (Int32.ofNat (o + len))), .val (.ref d), .val (.int (Int32.ofNat (q + len))), .val (.int (Int32.ofNat len)), .val (.int (Int32.ofNat len)), z'] [])) := by
    intro r
    induction r with
    | zero =>
      intro i hi z hz Tl Bk Xl pl fl cl
      have hil : i = len := by omega
      rw [hil] at Xl fl cl
      exact ⟨Tl, Bk, z, Xl, pl, fl, cl⟩
    | succ r ih =>
      intro i hi z hz Tl Bk Xl pl fl cl
      have all := X0.warmed.alike.symm.trans Xl.warmed.alike
      have hAl := hA0.keep all (pl.other hne hA0.1)
      have hBk := hB0.like all pl.1 fl.1 fl.2.1 fl.2.2.1
      have hlt : q + i < Bk.slots.size := by rw [fl.2.2.1]; omega
      have c3 : Steps p.tables e below (s₁.setTop (entryFrame m #[.ref b, .int (Int32.ofNat o), .ref d, .int (Int32.ofNat q), .int (Int32.ofNat len)] 7)) (Tl.setTop (mkF m 12 #[.val (.ref b), .val (.int (Int32.ofNat (o + i))), .val (.ref d), .val (.int (Int32.ofNat (q + i))), .val (.int (Int32.ofNat len)), .val (.int (Int32.ofNat i)), z] [.int (Int32.ofNat (o + i)), .ref b])) := cl.trans (by
        refine XS.iload Xl.here hexec rfl (hb hbytes d3) rfl ?_
        refine XS.iload Xl.here hexec rfl (hb hbytes d5) rfl ?_
        refine XS.icmpNo Xl.here hexec rfl (hb hbytes d7) rfl (ii_ge_f (lt32 (by omega) (by omega))) ?_
        refine XS.aloadN Xl.here hexec rfl (hb hbytes d10) rfl rfl ?_
        refine XS.iloadN Xl.here hexec rfl (hb hbytes d11) rfl ?_
        exact Steps.refl _)
      have c4 : Steps p.tables e below (s₁.setTop (entryFrame m #[.ref b, .int (Int32.ofNat o), .ref d, .int (Int32.ofNat q), .int (Int32.ofNat len)] 7)) (Tl.setTop (mkF m 13 #[.val (.ref b), .val (.int (Int32.ofNat (o + i))), .val (.ref d), .val (.int (Int32.ofNat (q + i))), .val (.int (Int32.ofNat len)), .val (.int (Int32.ofNat i)), z] [.int (cv A (o + i))])) := c3.trans (by
        refine Xl.aget hexec hAl rfl (hA.get (i := o + i) (by omega)) rfl rfl (hb hbytes d12) ?_
        exact Steps.refl _)
      have c5 : Steps p.tables e below (s₁.setTop (entryFrame m #[.ref b, .int (Int32.ofNat o), .ref d, .int (Int32.ofNat q), .int (Int32.ofNat len)] 7)) (Tl.setTop (mkF m 15 #[.val (.ref b), .val (.int (Int32.ofNat (o + i))), .val (.ref d), .val (.int (Int32.ofNat (q + i))), .val (.int (Int32.ofNat len)), .val (.int (Int32.ofNat i)), .val (.int (cv A (o + i)))] [])) := c4.trans (by
        refine XS.istoreS Xl.here hexec rfl (hb hbytes d13) rfl rfl hz ?_
        exact Steps.refl _)
      have c6 : Steps p.tables e below (s₁.setTop (entryFrame m #[.ref b, .int (Int32.ofNat o), .ref d, .int (Int32.ofNat q), .int (Int32.ofNat len)] 7)) (Tl.setTop (mkF m 31 #[.val (.ref b), .val (.int (Int32.ofNat (o + i))), .val (.ref d), .val (.int (Int32.ofNat (q + i))), .val (.int (Int32.ofNat len)), .val (.int (Int32.ofNat i)), .val (.int (cv A (o + i)))] [.int (lo8 (cv A (o + i))), .int (Int32.ofNat (q + i)), .ref d])) := c5.trans (by
        refine XS.iload Xl.here hexec rfl (hb hbytes d15) rfl ?_
        refine sipushV Xl.here hexec rfl 255 (hb hbytes d17) (by decide) ?_
        refine XS.icmpYes Xl.here hexec rfl (pc0 := 20) rfl (hb hbytes d20) rfl (ii_le_t (hp i (by omega))) (by decide) rfl ?_
        refine XS.aloadN Xl.here hexec rfl (hb hbytes d26) rfl rfl ?_
        refine XS.iloadN Xl.here hexec rfl (hb hbytes d27) rfl ?_
        refine XS.iload Xl.here hexec rfl (hb hbytes d28) rfl ?_
        refine i2b Xl.here hexec rfl (hb hbytes d30) rfl ?_
        exact Steps.refl _)
      obtain ⟨T7, X7, p7, st7⟩ := Xl.aput hexec hBk rfl hlt rfl (fits_lo8 (cv A (o + i))) (g := (mkF m 31 #[.val (.ref b), .val (.int (Int32.ofNat (o + i))), .val (.ref d), .val (.int (Int32.ofNat (q + i))), .val (.int (Int32.ofNat len)), .val (.int (Int32.ofNat i)), .val (.int (cv A (o + i)))] [.int (lo8 (cv A (o + i))), .int (Int32.ofNat (q + i)), .ref d])) rfl (rest := []) rfl (hb hbytes d31)
      have c8 : Steps p.tables e below (s₁.setTop (entryFrame m #[.ref b, .int (Int32.ofNat o), .ref d, .int (Int32.ofNat q), .int (Int32.ofNat len)] 7)) (T7.setTop (mkF m 32 #[.val (.ref b), .val (.int (Int32.ofNat (o + i))), .val (.ref d), .val (.int (Int32.ofNat (q + i))), .val (.int (Int32.ofNat len)), .val (.int (Int32.ofNat i)), .val (.int (cv A (o + i)))] [])) := c6.trans (st7 _ (Steps.refl _))
      have c9 : Steps p.tables e below (s₁.setTop (entryFrame m #[.ref b, .int (Int32.ofNat o), .ref d, .int (Int32.ofNat q), .int (Int32.ofNat len)] 7)) (T7.setTop (mkF m 3 #[.val (.ref b), .val (.int (Int32.ofNat (o + i) + 1)), .val (.ref d), .val (.int (Int32.ofNat (q + i) + 1)), .val (.int (Int32.ofNat len)), .val (.int (Int32.ofNat i + 1)), .val (.int (cv A (o + i)))] [])) := c8.trans (by
        refine iincV X7.here hexec rfl 1 (hb hbytes d32) (by decide) rfl rfl ?_
        refine iincV X7.here hexec rfl 1 (hb hbytes d35) (by decide) rfl rfl ?_
        refine iincV X7.here hexec rfl 1 (hb hbytes d38) (by decide) rfl rfl ?_
        refine XS.goto X7.here hexec rfl (pc0 := 41) rfl (hb hbytes d41) (by decide) rfl ?_
        exact Steps.refl _)
      have c10 : Steps p.tables e below (s₁.setTop (entryFrame m #[.ref b, .int (Int32.ofNat o), .ref d, .int (Int32.ofNat q), .int (Int32.ofNat len)] 7)) (T7.setTop (mkF m 3 #[.val (.ref b), .val (.int (Int32.ofNat (o + (i + 1)))), .val (.ref d), .val (.int (Int32.ofNat (q + (i + 1)))), .val (.int (Int32.ofNat len)), .val (.int (Int32.ofNat (i + 1))), .val (.int (cv A (o + i)))] [])) := by
        have := c9
        rw [succ32, succ32, succ32] at this
        exact this
      exact ih (i + 1) (by omega) _ (Or.inr ⟨_, rfl, rfl⟩) T7 _ (by rw [copyLocs_step, ← List.append_assoc]; exact X7) (pl.trans p7) (fl.step (by omega) hlt (by simp)) c10
  obtain ⟨T9, B9, z9, X9, p9, f9, g9⟩ := loop len 0 (by omega) .unset (Or.inl rfl) s₁ B (by simpa [copyLocs] using X0) ⟨hB0.1, fun _ _ => rfl, rfl⟩ (Laid.zero _ _ _) c2
  have c11 : Steps p.tables e below (s₁.setTop (entryFrame m #[.ref b, .int (Int32.ofNat o), .ref d, .int (Int32.ofNat q), .int (Int32.ofNat len)] 7)) (T9.setTop (mkF m 46 #[.val (.ref b), .val (.int (Int32.ofNat (o + len))), .val (.ref d), .val (.int (Int32.ofNat (q + len))), .val (.int (Int32.ofNat len)), .val (.int (Int32.ofNat len)), z9] [.int (Int32.ofNat len)])) := g9.trans (by
    refine XS.iload X9.here hexec rfl (hb hbytes d3) rfl ?_
    refine XS.iload X9.here hexec rfl (hb hbytes d5) rfl ?_
    refine XS.icmpYes X9.here hexec rfl (pc0 := 7) rfl (hb hbytes d7) rfl (ii_ge_t (nlt32 (by omega) (Nat.le_refl _))) (by decide) rfl ?_
    refine XS.iload X9.here hexec rfl (hb hbytes d44) rfl ?_
    exact Steps.refl _)
  exact ⟨T9, some (.int (Int32.ofNat len)), _, _, _, X9, by simp, rfl, rfl, (fun h => by cases h), ⟨rfl, B9, p9.from hh0, f9⟩, fun fs hl => c11.trans (X9.ireturnOut hexec hret rfl (Or.inl rfl) (hb hbytes d46) hl)⟩
end Cmp5
namespace Cmp3
def yN : MethodName := ⟨"java/lang/StringUTF16", "compress", "([CII)[B"⟩
abbrev yB : ByteArray := jdk_52_method_16_code
theorem d0 : decode yB 0 = .ok (.iload_n 2, 1) := by decide +kernel
theorem d1 : decode yB 1 = .ok (.newarray .byte, 2) := by decide +kernel
theorem d3 : decode yB 3 = .ok (.astore_n 3, 1) := by decide +kernel
theorem d4 : decode yB 4 = .ok (.aload_n 0, 1) := by decide +kernel
theorem d5 : decode yB 5 = .ok (.iload_n 1, 1) := by decide +kernel
theorem d6 : decode yB 6 = .ok (.aload_n 3, 1) := by decide +kernel
theorem d7 : decode yB 7 = .ok (.iconst 0, 1) := by decide +kernel
theorem d8 : decode yB 8 = .ok (.iload_n 2, 1) := by decide +kernel
theorem d9 : decode yB 9 = .ok (.invokestatic 115, 3) := by decide +kernel
theorem d12 : decode yB 12 = .ok (.istore 4, 2) := by decide +kernel
theorem d14 : decode yB 14 = .ok (.iload 4, 2) := by decide +kernel
theorem d16 : decode yB 16 = .ok (.iload_n 2, 1) := by decide +kernel
theorem d17 : decode yB 17 = .ok (.if_icmp (.eq) 40, 3) := by decide +kernel
theorem d57 : decode yB 57 = .ok (.aload_n 3, 1) := by decide +kernel
theorem d58 : decode yB 58 = .ok (.areturn, 1) := by decide +kernel
def site : List Cond := [.arrayClass .byte, Cmp5.tab] ++ staticW U16 115 Cmp5.yN
def tab : Cond := tabOf yN yB 6 (some (.array .byte)) site
def P (b : Addr) (A : Cell) (o len : Nat) (args : Array Value) (s : State) : Prop := args = #[.ref b, .int (Int32.ofNat o), .int (Int32.ofNat len)] ∧ Ch b A s ∧ o + len ≤ A.slots.size ∧ len ≤ 536870912 ∧ ∀ i, i < len → ¬ 255 < cv A (o + i)
def E (b : Addr) (A : Cell) (o len : Nat) (r : Option Value) (s u : State) : Prop := NewArr .byte "[B" len (fun j => .int (lo8 (cv A (o + j)))) r s u ∧ u.heap.size = s.heap.size + 1
/-- no char of the range above 255: a new byte[] of their low bytes -/
theorem law (l : Launch) (b : Addr) (A : Cell) (o len : Nat) : Law l yN 3 3 1 18 yB 6 (some (.array .byte)) site (P b A o len) (E b A o len) [] 1 len := by
  refine Law.of_walk (plainFor_of_name (by decide +kernel)) (by decide +kernel) (by decide +kernel) (by decide) (fun _ _ h => by rw [h.1]; rfl) (fun _ U U' hal hh h => ⟨h.1, h.2.1.mv hal hh, h.2.2⟩) (fun r U U' V V' h1 hal h2 h => ⟨NewArr.mv r U U' V V' h1 hal h2 h.1, by rw [h1, h2]; exact h.2⟩) ?_
  intro p e s m args below meth c s₁ X0 hexec hbytes hml hret hlk hnm hown hh0 W hP
  obtain ⟨rfl, hA, l1, l2, hp⟩ := hP
  have a31 := hA.1.2.2.2
  have c1 : Steps p.tables e below (s₁.setTop (entryFrame m #[.ref b, .int (Int32.ofNat o), .int (Int32.ofNat len)] 6)) (s₁.setTop (mkF m 0 #[.val (.ref b), .val (.int (Int32.ofNat o)), .val (.int (Int32.ofNat len)), .unset, .unset, .unset] [])) := entry rfl
  have c2 : Steps p.tables e below (s₁.setTop (entryFrame m #[.ref b, .int (Int32.ofNat o), .int (Int32.ofNat len)] 6)) (s₁.setTop (mkF m 1 #[.val (.ref b), .val (.int (Int32.ofNat o)), .val (.int (Int32.ofNat len)), .unset, .unset, .unset] [.int (Int32.ofNat len)])) := c1.trans (by
    refine XS.iloadN X0.here hexec rfl (hb hbytes d0) rfl ?_
    exact Steps.refl _)
  obtain ⟨T3, B3, X3, ba3, bs3, bv3, bh3, bf3, st3⟩ := X0.anew hexec (atype := .byte) (wk W (.arrayClass .byte)) rfl (by show len * 1 ≤ _; omega) (by omega) (g := (mkF m 1 #[.val (.ref b), .val (.int (Int32.ofNat o)), .val (.int (Int32.ofNat len)), .unset, .unset, .unset] [.int (Int32.ofNat len)])) rfl (hb hbytes d1) (rest := []) rfl (Nat.le_refl _) (by show 0 + len ≤ len; omega)
  rw [hh0] at ba3 st3
  have kp3 : XT.Kept s T3 := (XT.Kept.of_eq hh0).push bh3
  have hA3 := hA.keep X3.warmed.alike (kp3 _ _ hA.1.1)
  have hne : b ≠ s.heap.size := hA.1.ne
  have c4 : Steps p.tables e below (s₁.setTop (entryFrame m #[.ref b, .int (Int32.ofNat o), .int (Int32.ofNat len)] 6)) (T3.setTop (mkF m 3 #[.val (.ref b), .val (.int (Int32.ofNat o)), .val (.int (Int32.ofNat len)), .unset, .unset, .unset] [.ref s.heap.size])) := c2.trans (st3 _ (Steps.refl _))
  have c5 : Steps p.tables e below (s₁.setTop (entryFrame m #[.ref b, .int (Int32.ofNat o), .int (Int32.ofNat len)] 6)) (T3.setTop (mkF m 9 #[.val (.ref b), .val (.int (Int32.ofNat o)), .val (.int (Int32.ofNat len)), .val (.ref s.heap.size), .unset, .unset] [.int (Int32.ofNat len), .int 0, .ref s.heap.size, .int (Int32.ofNat o), .ref b])) := c4.trans (by
    refine XS.astoreN X3.here hexec rfl (hb hbytes d3) rfl rfl rfl ?_
    refine XS.aloadN X3.here hexec rfl (hb hbytes d4) rfl rfl ?_
    refine XS.iloadN X3.here hexec rfl (hb hbytes d5) rfl ?_
    refine XS.aloadN X3.here hexec rfl (hb hbytes d6) rfl rfl ?_
    refine iconstV X3.here hexec rfl 0 (hb hbytes d7) (by decide) ?_
    refine XS.iloadN X3.here hexec rfl (hb hbytes d8) rfl ?_
    exact Steps.refl _)
  obtain ⟨v6, T6, X6, E6, g6⟩ := X3.callS hexec (Cmp5.law l b A s.heap.size B3 o 0 len) hown (wks W (staticW U16 115 Cmp5.yN)) (wk W Cmp5.tab) (W := 0) (Nat.le_of_ble_eq_true rfl) (Nat.le_of_ble_eq_true rfl) (Nat.le_refl _) (by show 0 + len + 0 ≤ len; omega) (g := (mkF m 9 #[.val (.ref b), .val (.int (Int32.ofNat o)), .val (.int (Int32.ofNat len)), .val (.ref s.heap.size), .unset, .unset] [.int (Int32.ofNat len), .int (Int32.ofNat 0), .ref s.heap.size, .int (Int32.ofNat o), .ref b])) rfl (by rw [hml]; rfl) c5 (argsL := [.ref b, .int (Int32.ofNat o), .ref s.heap.size, .int (Int32.ofNat 0), .int (Int32.ofNat len)]) (rest := []) rfl rfl (by show 2 * 0 + 0 ≤ _; decide) (hb hbytes d9) (⟨rfl, hA3, ba3, hne, l1, by rw [bs3]; simp, hp⟩)
  obtain ⟨rfl, B6, p6, f6⟩ := E6
  have c7 : Steps p.tables e below (s₁.setTop (entryFrame m #[.ref b, .int (Int32.ofNat o), .int (Int32.ofNat len)] 6)) (T6.setTop (mkF m 12 #[.val (.ref b), .val (.int (Int32.ofNat o)), .val (.int (Int32.ofNat len)), .val (.ref s.heap.size), .unset, .unset] [.int (Int32.ofNat len)])) := g6
  have c8 : Steps p.tables e below (s₁.setTop (entryFrame m #[.ref b, .int (Int32.ofNat o), .int (Int32.ofNat len)] 6)) (T6.setTop (mkF m 58 #[.val (.ref b), .val (.int (Int32.ofNat o)), .val (.int (Int32.ofNat len)), .val (.ref s.heap.size), .val (.int (Int32.ofNat len)), .unset] [.ref s.heap.size])) := c7.trans (by
    refine XS.istore X6.here hexec rfl (hb hbytes d12) rfl rfl ?_
    refine XS.iload X6.here hexec rfl (hb hbytes d14) rfl ?_
    refine XS.iloadN X6.here hexec rfl (hb hbytes d16) rfl ?_
    refine XS.icmpYes X6.here hexec rfl (pc0 := 17) rfl (hb hbytes d17) rfl (ii_eq_t rfl) (by decide) rfl ?_
    refine XS.aloadN X6.here hexec rfl (hb hbytes d57) rfl rfl ?_
    exact Steps.refl _)
  have X8 := X6.wide (L' := []) (cells' := 1) (slots' := len) (fun x hx hlt => by
    simp only [List.nil_append, copyLocs, List.mem_map, List.mem_range] at hx
    obtain ⟨i, -, rfl⟩ := hx
    exact absurd hlt (Nat.lt_irrefl _)) (Nat.le_refl _) (by omega)
  exact ⟨T6, some (.ref s.heap.size), _, _, _, X8, rfl, rfl, rfl, (fun h => by cases h), ⟨⟨rfl, B6, ba3.like (X3.warmed.alike.symm.trans X6.warmed.alike) p6.1 f6.1 f6.2.1 f6.2.2.1, f6.2.1.trans bv3, by rw [X6.warmed.alike.findClass, f6.1]; exact bf3, by rw [f6.2.2.1, bs3]; simp, fun j hj => by rw [f6.2.2.2 j, if_pos (by omega)]; rfl, kp3.put p6 (Nat.le_refl _)⟩, by rw [p6.2.2, bh3, hh0]; simp⟩, fun fs hl => c8.trans (X8.areturnOut hexec rfl hret rfl (hb hbytes d58) hl)⟩
end Cmp3
namespace CodL
def yN : MethodName := ⟨"java/lang/StringUTF16", "coderFromArrayLen", "([BI)B"⟩
abbrev yB : ByteArray := jdk_52_method_15_code
theorem d0 : decode yB 0 = .ok (.iload_n 1, 1) := by decide +kernel
theorem d1 : decode yB 1 = .ok (.aload_n 0, 1) := by decide +kernel
theorem d2 : decode yB 2 = .ok (.arraylength, 1) := by decide +kernel
theorem d3 : decode yB 3 = .ok (.isub, 1) := by decide +kernel
theorem d4 : decode yB 4 = .ok (.bipush 31, 2) := by decide +kernel
theorem d6 : decode yB 6 = .ok (.iushr, 1) := by decide +kernel
theorem d7 : decode yB 7 = .ok (.i2b, 1) := by decide +kernel
theorem d8 : decode yB 8 = .ok (.ireturn, 1) := by decide +kernel
def site : List Cond := []
def tab : Cond := tabOf yN yB 2 (some .byte) site
def P (d : Addr) (B : Cell) (args : Array Value) (s : State) : Prop := args = #[.ref d, .int (Int32.ofNat B.slots.size)] ∧ Arr .byte d B s
def E (r : Option Value) (s u : State) : Prop := XT.PureE (some (.int 0)) r s u
/-- an array as long as the number of chars: LATIN1 -/
theorem law (l : Launch) (d : Addr) (B : Cell) : Law l yN 2 2 0 0 yB 2 (some .byte) site (P d B) E [] 0 0 := by
  refine Law.of_walk (plainFor_of_name (by decide +kernel)) (by decide +kernel) (by decide +kernel) (by decide) (fun _ _ h => by rw [h.1]; rfl) (fun _ U U' hal hh h => ⟨h.1, h.2.mv hal hh⟩) (fun r U U' V V' h1 hal h2 h => XT.PureE.mv r U U' V V' h1 hal h2 h) ?_
  intro p e s m args below meth c s₁ X0 hexec hbytes hml hret hlk hnm hown hh0 W hP
  obtain ⟨rfl, hB⟩ := hP
  have hB0 := hB.mv X0.warmed.alike hh0
  have c1 : Steps p.tables e below (s₁.setTop (entryFrame m #[.ref d, .int (Int32.ofNat B.slots.size)] 2)) (s₁.setTop (mkF m 0 #[.val (.ref d), .val (.int (Int32.ofNat B.slots.size))] [])) := entry rfl
  have c2 : Steps p.tables e below (s₁.setTop (entryFrame m #[.ref d, .int (Int32.ofNat B.slots.size)] 2)) (s₁.setTop (mkF m 2 #[.val (.ref d), .val (.int (Int32.ofNat B.slots.size))] [.ref d, .int (Int32.ofNat B.slots.size)])) := c1.trans (by
    refine XS.iloadN X0.here hexec rfl (hb hbytes d0) rfl ?_
    refine XS.aloadN X0.here hexec rfl (hb hbytes d1) rfl rfl ?_
    exact Steps.refl _)
  have c3 : Steps p.tables e below (s₁.setTop (entryFrame m #[.ref d, .int (Int32.ofNat B.slots.size)] 2)) (s₁.setTop (mkF m 8 #[.val (.ref d), .val (.int (Int32.ofNat B.slots.size))] [.int (lo8 (ushr (Int32.ofNat B.slots.size - Int32.ofNat B.slots.size) 31))])) := c2.trans (by
    refine X0.alen hexec hB0 rfl rfl (hb hbytes d2) ?_
    refine XS.isub X0.here hexec rfl (hb hbytes d3) rfl ?_
    refine bipushV X0.here hexec rfl 31 (hb hbytes d4) (by decide) ?_
    refine iushr X0.here hexec rfl (hb hbytes d6) rfl ?_
    refine i2b X0.here hexec rfl (hb hbytes d7) rfl ?_
    exact Steps.refl _)
  have e0 : lo8 (ushr (Int32.ofNat B.slots.size - Int32.ofNat B.slots.size) 31) = 0 := by rw [Int32.sub_self]; decide
  rw [e0] at c3
  exact ⟨s₁, some (.int 0), _, _, _, X0, rfl, rfl, rfl, (fun h => by cases h), ⟨rfl, hh0⟩, fun fs hl => c3.trans (X0.ireturnOut hexec hret rfl (Or.inr (Or.inr (Or.inl rfl))) (hb hbytes d8) hl)⟩
end CodL
/-- the String at a is Latin-1 over a new byte[] (the heap's one new cell): the low bytes of the len chars of A from o on; every cell but a is kept -/
def Got (a : Addr) (D : Cell) (fV fC : Field) (A : Cell) (o len : Nat) (r : Option Value) (s u : State) : Prop := r = none ∧ ∃ D' V : Cell, Blank "java/lang/String" a D' u ∧ Same D D' [fV.slot, fC.slot] ∧ D'.slots[fV.slot]? = some (.ref s.heap.size) ∧ D'.slots[fC.slot]? = some (.int 0) ∧ Arr .byte s.heap.size V u ∧ V.vm = .none ∧ u.vm.findClass "[B" = some V.cls ∧ V.slots.size = len ∧ (∀ j, j < len → V.slots[j]? = some (.int (lo8 (cv A (o + j))))) ∧ (∀ (y : Addr) (c : Cell), y ≠ a → s.heap[y]? = some c → u.heap[y]? = some c) ∧ u.heap.size = s.heap.size + 1
theorem Got.mv {a : Addr} {D A : Cell} {fV fC : Field} {o len : Nat} : ∀ r (U U' V V' : State), U'.heap = U.heap → V.vm.Alike V'.vm → V'.heap = V.heap → Got a D fV fC A o len r U V → Got a D fV fC A o len r U' V' :=
  fun r U U' V V' h1 hal h2 ⟨e0, D', X, a1, a2, a3, a4, a5, a6, a7, a8, a9, a10, a11⟩ => ⟨e0, D', X, a1.mv hal h2, a2, by rw [h1]; exact a3, a4, by rw [h1]; exact a5.mv hal h2, a6, by rw [hal.findClass]; exact a7, a8, a9, by rw [h1, h2]; exact a10, by rw [h1, h2]; exact a11⟩
namespace New4
def yN : MethodName := ⟨"java/lang/String", "<init>", "([CIILjava/lang/Void;)V"⟩
abbrev yB : ByteArray := jdk_42_method_149_code
theorem d0 : decode yB 0 = .ok (.aload_n 0, 1) := by decide +kernel
theorem d1 : decode yB 1 = .ok (.invokespecial 1, 3) := by decide +kernel
theorem d4 : decode yB 4 = .ok (.iload_n 3, 1) := by decide +kernel
theorem d5 : decode yB 5 = .ok (.ifCond (.ne) 22, 3) := by decide +kernel
theorem d27 : decode yB 27 = .ok (.getstatic 38, 3) := by decide +kernel
theorem d30 : decode yB 30 = .ok (.ifCond (.eq) 28, 3) := by decide +kernel
theorem d33 : decode yB 33 = .ok (.aload_n 1, 1) := by decide +kernel
theorem d34 : decode yB 34 = .ok (.iload_n 2, 1) := by decide +kernel
theorem d35 : decode yB 35 = .ok (.iload_n 3, 1) := by decide +kernel
theorem d36 : decode yB 36 = .ok (.invokestatic 177, 3) := by decide +kernel
theorem d39 : decode yB 39 = .ok (.astore 5, 2) := by decide +kernel
theorem d41 : decode yB 41 = .ok (.aload_n 0, 1) := by decide +kernel
theorem d42 : decode yB 42 = .ok (.aload 5, 2) := by decide +kernel
theorem d44 : decode yB 44 = .ok (.iload_n 3, 1) := by decide +kernel
theorem d45 : decode yB 45 = .ok (.invokestatic 47, 3) := by decide +kernel
theorem d48 : decode yB 48 = .ok (.putfield 15, 3) := by decide +kernel
theorem d51 : decode yB 51 = .ok (.aload_n 0, 1) := by decide +kernel
theorem d52 : decode yB 52 = .ok (.aload 5, 2) := by decide +kernel
theorem d54 : decode yB 54 = .ok (.putfield 9, 3) := by decide +kernel
theorem d57 : decode yB 57 = .ok (.return_, 1) := by decide +kernel
def site : List Cond := [.fieldLink "java/lang/String" 38 "java/lang/String" "COMPACT_STRINGS" "Z", Cmp3.tab, CodL.tab, .laysFinal "java/lang/String" "java/lang/String" "value" "[B", .fieldLink "java/lang/String" 9 "java/lang/String" "value" "[B", .laysFinal "java/lang/String" "java/lang/String" "coder" "B", .fieldLink "java/lang/String" 15 "java/lang/String" "coder" "B"] ++ objW "java/lang/String" 1 ++ staticW "java/lang/String" 177 Cmp3.yN ++ staticW "java/lang/String" 47 CodL.yN
def tab : Cond := tabOf yN yB 6 none site
def P (a : Addr) (D : Cell) (fV fC : Field) (b : Addr) (A : Cell) (z : Int32) (o len : Nat) (args : Array Value) (s : State) : Prop := args = #[.ref a, .ref b, .int (Int32.ofNat o), .int (Int32.ofNat len), .null] ∧ Blank "java/lang/String" a D s ∧ Found "java/lang/String" "value" "[B" fV s ∧ Found "java/lang/String" "coder" "B" fC s ∧ Ch b A s ∧ StaticIs s "java/lang/String" "COMPACT_STRINGS" "Z" (.int z) ∧ ¬ z = 0 ∧ 0 < len ∧ o + len ≤ A.slots.size ∧ len ≤ 536870912 ∧ ∀ i, i < len → ¬ 255 < cv A (o + i)
def E (a : Addr) (D : Cell) (fV fC : Field) (A : Cell) (o len : Nat) (r : Option Value) (s u : State) : Prop := Got a D fV fC A o len r s u
/-- len > 0, no char of the range above 255: a Latin-1 String of their low bytes -/
theorem law (l : Launch) (a : Addr) (D : Cell) (fV fC : Field) (b : Addr) (A : Cell) (z : Int32) (o len : Nat) : Law l yN 5 4 2 35 yB 6 none site (P a D fV fC b A z o len) (E a D fV fC A o len) [⟨a, fC.slot⟩, ⟨a, fV.slot⟩] 1 len := by
  refine Law.of_walk (plainFor_of_name (by decide +kernel)) (by decide +kernel) (by decide +kernel) (by decide) (fun _ _ h => by rw [h.1]; rfl) (fun _ U U' hal hh h => ⟨h.1, h.2.1.mv hal hh, h.2.2.1.al hal, h.2.2.2.1.al hal, h.2.2.2.2.1.mv hal hh, h.2.2.2.2.2.1.there hal hh, h.2.2.2.2.2.2⟩) (fun r U U' V V' h1 hal h2 h => Got.mv r U U' V V' h1 hal h2 h) ?_
  intro p e s m args below meth c s₁ X0 hexec hbytes hml hret hlk hnm hown hh0 W hP
  obtain ⟨rfl, hB, f1, f2, hA, s1, hz, l0, l1, l2, hp⟩ := hP
  have a31 := hA.1.2.2.2
  have c1 : Steps p.tables e below (s₁.setTop (entryFrame m #[.ref a, .ref b, .int (Int32.ofNat o), .int (Int32.ofNat len), .null] 6)) (s₁.setTop (mkF m 0 #[.val (.ref a), .val (.ref b), .val (.int (Int32.ofNat o)), .val (.int (Int32.ofNat len)), .val .null, .unset] [])) := entry rfl
  have c2 : Steps p.tables e below (s₁.setTop (entryFrame m #[.ref a, .ref b, .int (Int32.ofNat o), .int (Int32.ofNat len), .null] 6)) (s₁.setTop (mkF m 1 #[.val (.ref a), .val (.ref b), .val (.int (Int32.ofNat o)), .val (.int (Int32.ofNat len)), .val .null, .unset] [.ref a])) := c1.trans (by
    refine XS.aloadN X0.here hexec rfl (hb hbytes d0) rfl rfl ?_
    exact Steps.refl _)
  obtain ⟨T3, X3, q3, st3⟩ := X0.oinit hexec hown (wks W (objW "java/lang/String" 1)) (g := (mkF m 1 #[.val (.ref a), .val (.ref b), .val (.int (Int32.ofNat o)), .val (.int (Int32.ofNat len)), .val .null, .unset] [.ref a])) rfl (by rw [hml]; rfl) (rest := []) rfl (hb hbytes d1) (W := 0) (by show 2 * 0 + 0 ≤ _; decide) (Nat.le_of_ble_eq_true rfl) (Nat.le_of_ble_eq_true rfl)
  have hh3 := q3.trans hh0
  have c4 : Steps p.tables e below (s₁.setTop (entryFrame m #[.ref a, .ref b, .int (Int32.ofNat o), .int (Int32.ofNat len), .null] 6)) (T3.setTop (mkF m 27 #[.val (.ref a), .val (.ref b), .val (.int (Int32.ofNat o)), .val (.int (Int32.ofNat len)), .val .null, .unset] [])) := (c2.trans (st3 _ (Steps.refl _))).trans (by
    refine XS.iloadN X3.here hexec rfl (hb hbytes d4) rfl ?_
    refine XS.ifYes X3.here hexec rfl (pc0 := 5) rfl (hb hbytes d5) rfl (i0_ne_t (nz32 (by omega) l0)) (by decide) rfl ?_
    exact Steps.refl _)
  obtain ⟨T5, X5, q5, st5⟩ := X3.sget hexec hown (wk W (.fieldLink "java/lang/String" 38 "java/lang/String" "COMPACT_STRINGS" "Z")) s1 (fun _ _ h => by rw [hh3]; exact h) (g := (mkF m 27 #[.val (.ref a), .val (.ref b), .val (.int (Int32.ofNat o)), .val (.int (Int32.ofNat len)), .val .null, .unset] [])) rfl (hb hbytes d27)
  have hh5 := q5.trans hh3
  have c6 : Steps p.tables e below (s₁.setTop (entryFrame m #[.ref a, .ref b, .int (Int32.ofNat o), .int (Int32.ofNat len), .null] 6)) (T5.setTop (mkF m 30 #[.val (.ref a), .val (.ref b), .val (.int (Int32.ofNat o)), .val (.int (Int32.ofNat len)), .val .null, .unset] [.int z])) := c4.trans (st5 _ (Steps.refl _))
  have c7 : Steps p.tables e below (s₁.setTop (entryFrame m #[.ref a, .ref b, .int (Int32.ofNat o), .int (Int32.ofNat len), .null] 6)) (T5.setTop (mkF m 36 #[.val (.ref a), .val (.ref b), .val (.int (Int32.ofNat o)), .val (.int (Int32.ofNat len)), .val .null, .unset] [.int (Int32.ofNat len), .int (Int32.ofNat o), .ref b])) := c6.trans (by
    refine XS.ifNo X5.here hexec rfl (hb hbytes d30) rfl (i0_eq_f hz) ?_
    refine XS.aloadN X5.here hexec rfl (hb hbytes d33) rfl rfl ?_
    refine XS.iloadN X5.here hexec rfl (hb hbytes d34) rfl ?_
    refine XS.iloadN X5.here hexec rfl (hb hbytes d35) rfl ?_
    exact Steps.refl _)
  obtain ⟨v8, T8, X8, E8, g8⟩ := X5.callS hexec (Cmp3.law l b A o len) hown (wks W (staticW "java/lang/String" 177 Cmp3.yN)) (wk W Cmp3.tab) (W := 0) (Nat.le_of_ble_eq_true rfl) (Nat.le_of_ble_eq_true rfl) (Nat.le_refl _) (by show 0 + len ≤ len; omega) (g := (mkF m 36 #[.val (.ref a), .val (.ref b), .val (.int (Int32.ofNat o)), .val (.int (Int32.ofNat len)), .val .null, .unset] [.int (Int32.ofNat len), .int (Int32.ofNat o), .ref b])) rfl (by rw [hml]; rfl) c7 (argsL := [.ref b, .int (Int32.ofNat o), .int (Int32.ofNat len)]) (rest := []) rfl rfl (by show 2 * 0 + 0 ≤ _; decide) (hb hbytes d36) (⟨rfl, hA.mv X5.warmed.alike hh5, l1, l2, hp⟩)
  obtain ⟨e8, z8⟩ := E8
  obtain ⟨rfl, N, n1, n2, n3, n4, n5, n6⟩ := NewArr.mv _ T5 s _ _ hh5.symm (Vm.Alike.refl _) rfl e8
  rw [hh5] at z8
  have hB1 := hB.keep X8.warmed.alike (n6 _ _ hB.1)
  have hne : s.heap.size ≠ a := (Nat.ne_of_lt (Array.getElem?_eq_some_iff.mp hB.1).1).symm
  have c9 : Steps p.tables e below (s₁.setTop (entryFrame m #[.ref a, .ref b, .int (Int32.ofNat o), .int (Int32.ofNat len), .null] 6)) (T8.setTop (mkF m 39 #[.val (.ref a), .val (.ref b), .val (.int (Int32.ofNat o)), .val (.int (Int32.ofNat len)), .val .null, .unset] [.ref s.heap.size])) := g8
  have c10 : Steps p.tables e below (s₁.setTop (entryFrame m #[.ref a, .ref b, .int (Int32.ofNat o), .int (Int32.ofNat len), .null] 6)) (T8.setTop (mkF m 45 #[.val (.ref a), .val (.ref b), .val (.int (Int32.ofNat o)), .val (.int (Int32.ofNat len)), .val .null, .val (.ref s.heap.size)] [.int (Int32.ofNat N.slots.size), .ref s.heap.size, .ref a])) := by
    have hc : Steps p.tables e below (s₁.setTop (entryFrame m #[.ref a, .ref b, .int (Int32.ofNat o), .int (Int32.ofNat len), .null] 6)) (T8.setTop (mkF m 45 #[.val (.ref a), .val (.ref b), .val (.int (Int32.ofNat o)), .val (.int (Int32.ofNat len)), .val .null, .val (.ref s.heap.size)] [.int (Int32.ofNat len), .ref s.heap.size, .ref a])) := c9.trans (by
      refine XS.astore X8.here hexec rfl (hb hbytes d39) rfl rfl rfl ?_
      refine XS.aloadN X8.here hexec rfl (hb hbytes d41) rfl rfl ?_
      refine XS.aload X8.here hexec rfl (hb hbytes d42) rfl rfl ?_
      refine XS.iloadN X8.here hexec rfl (hb hbytes d44) rfl ?_
      exact Steps.refl _)
    rw [n4]; exact hc
  obtain ⟨v11, T11, X11, E11, g11⟩ := X8.callS hexec (CodL.law l s.heap.size N) hown (wks W (staticW "java/lang/String" 47 CodL.yN)) (wk W CodL.tab) (W := 1) (Nat.le_of_ble_eq_true rfl) (Nat.le_of_ble_eq_true rfl) (Nat.le_refl _) (by show 0 + len + 0 ≤ len; omega) (g := (mkF m 45 #[.val (.ref a), .val (.ref b), .val (.int (Int32.ofNat o)), .val (.int (Int32.ofNat len)), .val .null, .val (.ref s.heap.size)] [.int (Int32.ofNat N.slots.size), .ref s.heap.size, .ref a])) rfl (by rw [hml]; rfl) c10 (argsL := [.ref s.heap.size, .int (Int32.ofNat N.slots.size)]) (rest := [.ref a]) rfl rfl (by show 2 * 0 + (1 + 0) ≤ _; decide) (hb hbytes d45) (⟨rfl, n1⟩)
  obtain ⟨rfl, q11⟩ := E11
  have hB11 := hB1.mv (X8.warmed.alike.symm.trans X11.warmed.alike) q11
  have c12 : Steps p.tables e below (s₁.setTop (entryFrame m #[.ref a, .ref b, .int (Int32.ofNat o), .int (Int32.ofNat len), .null] 6)) (T11.setTop (mkF m 48 #[.val (.ref a), .val (.ref b), .val (.int (Int32.ofNat o)), .val (.int (Int32.ofNat len)), .val .null, .val (.ref s.heap.size)] [.int 0, .ref a])) := g11
  obtain ⟨T13, X13, p13, bl13, sl13, st13⟩ := X11.finit hexec hown (wk W (.fieldLink "java/lang/String" 15 "java/lang/String" "coder" "B")) (Or.inr ⟨_, (wk W (.laysFinal "java/lang/String" "java/lang/String" "coder" "B"))⟩) (Or.inl ⟨rfl, hnm⟩) f2 (Or.inl rfl) hB11 (t := .byte) (by decide +kernel) rfl (g := (mkF m 48 #[.val (.ref a), .val (.ref b), .val (.int (Int32.ofNat o)), .val (.int (Int32.ofNat len)), .val .null, .val (.ref s.heap.size)] [.int 0, .ref a])) rfl (rest := []) rfl (hb hbytes d48)
  have c14 : Steps p.tables e below (s₁.setTop (entryFrame m #[.ref a, .ref b, .int (Int32.ofNat o), .int (Int32.ofNat len), .null] 6)) (T13.setTop (mkF m 54 #[.val (.ref a), .val (.ref b), .val (.int (Int32.ofNat o)), .val (.int (Int32.ofNat len)), .val .null, .val (.ref s.heap.size)] [.ref s.heap.size, .ref a])) := (c12.trans (st13 _ (Steps.refl _))).trans (by
    refine XS.aloadN X13.here hexec rfl (hb hbytes d51) rfl rfl ?_
    refine XS.aload X13.here hexec rfl (hb hbytes d52) rfl rfl ?_
    exact Steps.refl _)
  obtain ⟨T15, X15, p15, bl15, sl15, st15⟩ := X13.finit hexec hown (wk W (.fieldLink "java/lang/String" 9 "java/lang/String" "value" "[B")) (Or.inr ⟨_, (wk W (.laysFinal "java/lang/String" "java/lang/String" "value" "[B"))⟩) (Or.inl ⟨rfl, hnm⟩) f1 (Or.inl rfl) bl13 (t := (.array .byte)) (by decide +kernel) rfl (g := (mkF m 54 #[.val (.ref a), .val (.ref b), .val (.int (Int32.ofNat o)), .val (.int (Int32.ofNat len)), .val .null, .val (.ref s.heap.size)] [.ref s.heap.size, .ref a])) rfl (rest := []) rfl (hb hbytes d54)
  have c16 : Steps p.tables e below (s₁.setTop (entryFrame m #[.ref a, .ref b, .int (Int32.ofNat o), .int (Int32.ofNat len), .null] 6)) (T15.setTop (mkF m 57 #[.val (.ref a), .val (.ref b), .val (.int (Int32.ofNat o)), .val (.int (Int32.ofNat len)), .val .null, .val (.ref s.heap.size)] [])) := c14.trans (st15 _ (Steps.refl _))
  have ap := apart (Or.inr ⟨_, (wk W (.laysFinal "java/lang/String" "java/lang/String" "value" "[B"))⟩) (Or.inr ⟨_, (wk W (.laysFinal "java/lang/String" "java/lang/String" "coder" "B"))⟩) f1 f2 (t₁ := .array .byte) (t₂ := .byte) (by decide +kernel) (by decide +kernel) (by decide)
  have al := X8.warmed.alike.symm.trans X15.warmed.alike
  have n7 : T11.heap[s.heap.size]? = some N := by rw [q11]; exact n1.1
  exact ⟨T15, none, _, _, _, X15, by simp, rfl, by omega, (fun _ => rfl), ⟨rfl, _, N, bl15, ((Same.refl D _).set _ (by simp)).set _ (by simp), sl15, (Cell.slots_setSlot_ne _ ap).trans sl13, n1.keep al (p15.other hne (p13.other hne n7)), n2, by rw [al.findClass]; exact n3, n4, n5, fun y c h1 h2 => p15.other h1 (p13.other h1 (by rw [q11]; exact n6 y c h2)), by rw [p15.2.2, p13.2.2, q11]; exact z8⟩, fun fs hl => c16.trans (X15.returnOut hexec hret (hb hbytes d57) hl)⟩
end New4
namespace New1
def yN : MethodName := ⟨"java/lang/String", "<init>", "([C)V"⟩
abbrev yB : ByteArray := jdk_42_method_3_code
theorem d0 : decode yB 0 = .ok (.aload_n 0, 1) := by decide +kernel
theorem d1 : decode yB 1 = .ok (.aload_n 1, 1) := by decide +kernel
theorem d2 : decode yB 2 = .ok (.iconst 0, 1) := by decide +kernel
theorem d3 : decode yB 3 = .ok (.aload_n 1, 1) := by decide +kernel
theorem d4 : decode yB 4 = .ok (.arraylength, 1) := by decide +kernel
theorem d5 : decode yB 5 = .ok (.aconst_null, 1) := by decide +kernel
theorem d6 : decode yB 6 = .ok (.invokespecial 27, 3) := by decide +kernel
theorem d9 : decode yB 9 = .ok (.return_, 1) := by decide +kernel
def site : List Cond := [New4.tab] ++ initW "java/lang/String" 27 New4.yN
def tab : Cond := tabOf yN yB 2 none site
def P (a : Addr) (D : Cell) (fV fC : Field) (b : Addr) (A : Cell) (z : Int32) (args : Array Value) (s : State) : Prop := args = #[.ref a, .ref b] ∧ Blank "java/lang/String" a D s ∧ Found "java/lang/String" "value" "[B" fV s ∧ Found "java/lang/String" "coder" "B" fC s ∧ Ch b A s ∧ StaticIs s "java/lang/String" "COMPACT_STRINGS" "Z" (.int z) ∧ ¬ z = 0 ∧ 0 < A.slots.size ∧ A.slots.size ≤ 536870912 ∧ ∀ i, i < A.slots.size → ¬ 255 < cv A i
def E (a : Addr) (D : Cell) (fV fC : Field) (A : Cell) (r : Option Value) (s u : State) : Prop := Got a D fV fC A 0 A.slots.size r s u
/-- new String(chars), not empty, no char above 255: a Latin-1 String of their low bytes -/
theorem law (l : Launch) (a : Addr) (D : Cell) (fV fC : Field) (b : Addr) (A : Cell) (z : Int32) : Law l yN 2 1 3 52 yB 2 none site (P a D fV fC b A z) (E a D fV fC A) [⟨a, fC.slot⟩, ⟨a, fV.slot⟩] 1 A.slots.size := by
  refine Law.of_walk (plainFor_of_name (by decide +kernel)) (by decide +kernel) (by decide +kernel) (by decide) (fun _ _ h => by rw [h.1]; rfl) (fun _ U U' hal hh h => ⟨h.1, h.2.1.mv hal hh, h.2.2.1.al hal, h.2.2.2.1.al hal, h.2.2.2.2.1.mv hal hh, h.2.2.2.2.2.1.there hal hh, h.2.2.2.2.2.2⟩) (fun r U U' V V' h1 hal h2 h => Got.mv r U U' V V' h1 hal h2 h) ?_
  intro p e s m args below meth c s₁ X0 hexec hbytes hml hret hlk hnm hown hh0 W hP
  obtain ⟨rfl, hB, f1, f2, hA, s1, hz, l0, l2, hp⟩ := hP
  have c1 : Steps p.tables e below (s₁.setTop (entryFrame m #[.ref a, .ref b] 2)) (s₁.setTop (mkF m 0 #[.val (.ref a), .val (.ref b)] [])) := entry rfl
  have c2 : Steps p.tables e below (s₁.setTop (entryFrame m #[.ref a, .ref b] 2)) (s₁.setTop (mkF m 6 #[.val (.ref a), .val (.ref b)] [.null, .int (Int32.ofNat A.slots.size), .int 0, .ref b, .ref a])) := c1.trans (by
    refine XS.aloadN X0.here hexec rfl (hb hbytes d0) rfl rfl ?_
    refine XS.aloadN X0.here hexec rfl (hb hbytes d1) rfl rfl ?_
    refine iconstV X0.here hexec rfl 0 (hb hbytes d2) (by decide) ?_
    refine XS.aloadN X0.here hexec rfl (hb hbytes d3) rfl rfl ?_
    refine X0.alen hexec (hA.1.mv X0.warmed.alike hh0) rfl rfl (hb hbytes d4) ?_
    refine XS.aconstNull X0.here hexec rfl (hb hbytes d5) ?_
    exact Steps.refl _)
  obtain ⟨v3, T3, X3, E3, g3⟩ := X0.callN hexec (New4.law l a D fV fC b A z 0 A.slots.size) rfl hown (wks W (initW "java/lang/String" 27 New4.yN)) (W New4.tab (by simp only [site, List.mem_cons, List.mem_append, true_or, or_true])) (W := 0) (Nat.le_of_ble_eq_true rfl) (Nat.le_of_ble_eq_true rfl) (Nat.le_refl _) (by show 0 + A.slots.size ≤ A.slots.size; omega) (g := (mkF m 6 #[.val (.ref a), .val (.ref b)] [.null, .int (Int32.ofNat A.slots.size), .int (Int32.ofNat 0), .ref b, .ref a])) rfl (by rw [hml]; rfl) c2 (argsL := [.ref b, .int (Int32.ofNat 0), .int (Int32.ofNat A.slots.size), .null]) (rest := []) rfl rfl (by show 2 * 0 + 0 ≤ _; decide) (hb hbytes d6) (⟨rfl, hB.mv X0.warmed.alike hh0, f1.al X0.warmed.alike, f2.al X0.warmed.alike, hA.mv X0.warmed.alike hh0, s1.there X0.warmed.alike hh0, hz, l0, by omega, l2, fun i hi => by rw [Nat.zero_add]; exact hp i hi⟩)
  have e0 := Got.mv _ s₁ s _ _ hh0.symm (Vm.Alike.refl _) rfl E3
  obtain rfl := e0.1
  have c4 : Steps p.tables e below (s₁.setTop (entryFrame m #[.ref a, .ref b] 2)) (T3.setTop (mkF m 9 #[.val (.ref a), .val (.ref b)] [])) := g3
  exact ⟨T3, none, _, _, _, X3, by simp, rfl, by omega, (fun _ => rfl), e0, fun fs hl => c4.trans (X3.returnOut hexec hret (hb hbytes d9) hl)⟩
theorem pays {l : Launch} {R : Room} {p : Program} {e : Env} {below : List Frame} {s : State} {sargs : Array Value} {len W : Nat} (a : Addr) (D : Cell) (fV fC : Field) (b : Addr) (A : Cell) (z : Int32) (htab : tab.before sargs s = true) (hfr : 4 ≤ R.frames) (hlo : W + 65 ≤ R.locals) :
    Back l R p e below s sargs yN len W (fun A₁ a₁ => A₁.cells + 1 ≤ R.cells ∧ A₁.slots + A.slots.size ≤ R.slots ∧ P a D fV fC b A z a₁ A₁.U) (fun A₁ _ v₁ B₁ => E a D fV fC A v₁ A₁.U B₁.U ∧ B₁.locs = A₁.locs ++ [⟨a, fC.slot⟩, ⟨a, fV.slot⟩] ∧ B₁.cells = A₁.cells + 1 ∧ B₁.slots = A₁.slots + A.slots.size) :=
  (law l a D fV fC b A z).pays htab hfr (by omega)
end New1
end StrChars
namespace StrChars.Road
open Jvm Sem ClassFile Op Lib Jvm.Stand Jvm.Free Jvm.Free.XT
open Jvm.Lib.Cold (StaticIs)
abbrev ST : String := "java/lang/String"
/-- every table word that New1's law asks, flat -/
abbrev words : List Jvm.Cond := [.code New1.yN New1.yB 2 none, .initialized ST, .methodLink ST 27 New4.yN, .instanceMethod New4.yN,
  .code New4.yN New4.yB 6 none, .fieldLink ST 38 ST "COMPACT_STRINGS" "Z", .laysFinal ST ST "value" "[B", .fieldLink ST 9 ST "value" "[B", .laysFinal ST ST "coder" "B", .fieldLink ST 15 ST "coder" "B",
  .methodLink ST 1 Lib.objectInit, .instanceMethod Lib.objectInit, .code Lib.objectInit ⟨#[0xb1]⟩ 1 none, .methodLink ST 177 Cmp3.yN, .static Cmp3.yN, .methodLink ST 47 CodL.yN, .static CodL.yN,
  .code Cmp3.yN Cmp3.yB 6 (some (.array .byte)), .initialized U16, .arrayClass .byte, .methodLink U16 115 Cmp5.yN, .static Cmp5.yN, .code Cmp5.yN Cmp5.yB 7 (some .int), .code CodL.yN CodL.yB 2 (some .byte)]
theorem tab_of {a : Array Value} {s : State} (h : ∀ w ∈ words, w.before a s = true) : New1.tab.before a s = true := by
  have h5 : Cmp5.tab.before a s = true := unparts (wk h (.code Cmp5.yN Cmp5.yB 7 (some .int))) (wks h (.initialized Cmp5.yN.cls :: Cmp5.site))
  have hc : CodL.tab.before a s = true := unparts (wk h (.code CodL.yN CodL.yB 2 (some .byte))) (wks h (.initialized CodL.yN.cls :: CodL.site))
  have q5 : ∀ w ∈ Cmp5.tab :: words, w.before a s = true := fun w hw => (List.mem_cons.mp hw).elim (fun e => e ▸ h5) (h w)
  have h3 : Cmp3.tab.before a s = true := unparts (wk q5 (.code Cmp3.yN Cmp3.yB 6 (some (.array .byte)))) (wks q5 (.initialized Cmp3.yN.cls :: Cmp3.site))
  have q3 : ∀ w ∈ Cmp3.tab :: CodL.tab :: words, w.before a s = true := fun w hw => (List.mem_cons.mp hw).elim (fun e => e ▸ h3) fun hw => (List.mem_cons.mp hw).elim (fun e => e ▸ hc) (h w)
  have h4 : New4.tab.before a s = true := unparts (wk q3 (.code New4.yN New4.yB 6 none)) (wks q3 (.initialized New4.yN.cls :: New4.site))
  have q4 : ∀ w ∈ New4.tab :: words, w.before a s = true := fun w hw => (List.mem_cons.mp hw).elim (fun e => e ▸ h4) (h w)
  exact unparts (wk q4 (.code New1.yN New1.yB 2 none)) (wks q4 (.initialized New1.yN.cls :: New1.site))
/-- the words ride from the start Z to the walk's own state -/
theorem moved {Z s : State} {a0 args : Array Value} (hZ : Z.Warmed39 s.vm) (hw : ∀ d ∈ words, d.before a0 Z = true) : ∀ d ∈ words, d.before args s = true := fun d hd => by
  have q := hw d hd
  have t : ∀ d ∈ words, d = .arrayClass .byte ∨ (d.onTables && d.keepsFace) = true := by decide +kernel
  rcases t d hd with rfl | t
  · exact RoadKit.mvA hZ q
  · exact RoadKit.mv hZ q t
/-- WHAT COMES BACK, over the tables of the start Z: h the heap at the call, h' behind it -/
def Q (Z : State) (x : Addr) (A : Cell) (h : Heap) (v : Option Value) (h' : Heap) (L : List Loc) : Prop := v = none ∧ (∀ y ∈ L, y.base = x) ∧ RoadKit.Keep h h' [x] ∧ h'.size = h.size + 1 ∧ RoadKit.Exa Z h' x ST ∧ RoadKit.Fld Z h' x ST "value" "[B" (.ref h.size) ∧ RoadKit.Fld Z h' x ST "coder" "B" (.int 0) ∧
  (∃ V : Cell, RoadKit.Arr Z h' h.size V .byte ∧ V.vm = .none ∧ Z.vm.findClass "[B" = some V.cls ∧ V.slots.size = A.slots.size ∧ ∀ j, j < A.slots.size → V.slots[j]? = some (.int (lo8 (cv A j)))) ∧
  ∀ (O n d : String) (w : Value), RoadKit.Fld Z h x O n d w → RoadKit.slotOf Z O n d ≠ RoadKit.slotOf Z ST "value" "[B" → RoadKit.slotOf Z O n d ≠ RoadKit.slotOf Z ST "coder" "B" → RoadKit.Fld Z h' x O n d w
/-- **new String(chars) AT A CALL, IN THE ROAD'S FORM**: for specialBack behind newO: x the fresh String, b the char[] with the cell A -/
theorem back {p : Program} {l : Launch} {e : Env} {R : Room} {s : State} {args : Array Value} {below : List Frame} {len W : Nat} {Z : State} {a0 : Array Value} {h : Heap} (hZ : Z.Warmed39 s.vm) (hw : ∀ d ∈ words, d.before a0 Z = true) {kI : Nat} (wi : (Jvm.Cond.instantiable ST kI).before a0 Z = true)
    {x b : Addr} {A : Cell} {z : Int32} {v0 c0 : Value} (E : RoadKit.Exa Z h x ST) (V : RoadKit.Fld Z h x ST "value" "[B" v0) (C : RoadKit.Fld Z h x ST "coder" "B" c0) (K : RoadKit.Arr Z h b A .char) (hty : Typed .char A) (S : RoadKit.Sta Z h ST "COMPACT_STRINGS" "Z" (.int z)) (hz : ¬ z = 0)
    (l0 : 0 < A.slots.size) (l2 : A.slots.size ≤ 536870912) (hp : ∀ i, i < A.slots.size → ¬ 255 < cv A i) (hfr : 4 ≤ R.frames) (hlo : W + 65 ≤ R.locals) :
    Back l R p e below s args New1.yN len W (fun P a => a = #[.ref x, .ref b] ∧ P.U.heap = h ∧ P.cells + 1 ≤ R.cells ∧ P.slots + A.slots.size ≤ R.slots)
      (fun P _ v B => ∃ L, Q Z x A h v B.U.heap L ∧ B.locs = P.locs ++ L ∧ B.cells = P.cells + 1 ∧ B.slots = P.slots + A.slots.size) := by
  intro m meth c P g ig mk a X hg hsize hdg hW hn hp'
  obtain ⟨rfl, rfl, r1, r2⟩ := hp'
  have al : Z.vm.Alike P.U.vm := hZ.alike.trans X.warmed.alike
  obtain ⟨D, cfV, kV, iV, fV, hD, gV, stV, knV, obV, asV, slV⟩ := id V
  obtain ⟨D', cfC, kC, iC, fC, hD', gC, stC, -, -, asC, slC⟩ := id C
  cases hD.symm.trans hD'
  obtain ⟨D2, kD, e1, e2, e3, e4, e5⟩ := id E
  cases hD.symm.trans e1
  obtain ⟨c2, k2, i1, i2, i3, -⟩ := Cond.instantiable_spec wi
  cases e2.symm.trans i1
  cases e3.symm.trans i2
  obtain ⟨kU, u1, u2⟩ := al.2.2 _ _ e3
  have hB : Blank ST x D P.U := ⟨hD, ⟨knV, fun q hq => by rw [hq] at obV; cases obV⟩, by rw [al.findClass]; exact e2, kU, u1, by rw [u2]; exact i3, by rw [u2]; exact e5 i3⟩
  have F1 : Found ST "value" "[B" fV P.U := ⟨SBG.found_only al ⟨cfV, kV, iV, gV⟩, stV⟩
  have F2 : Found ST "coder" "B" fC P.U := ⟨SBG.found_only al ⟨cfC, kC, iC, gC⟩, stC⟩
  have hA : Ch b A P.U := ⟨⟨K.1, State.isArrayOf_alike al K.2.1, K.2.2, by omega⟩, hty⟩
  have hS : StaticIs P.U ST "COMPACT_STRINGS" "Z" (.int z) := by
    obtain ⟨cfS, iS, kS, fS, st, cS, t1, t2, t3, t4, t5, t6, t7⟩ := S
    exact StaticIs.there (s := { Z with heap := P.U.heap }) ⟨cfS, iS, kS, fS, st, cS, t1, t2, t3, t4, t5, (fun q => by rw [q] at t6; cases t6), t7⟩ al rfl
  obtain ⟨v, B, X', ⟨⟨hv, E', V', q1, q2, q3, q4, q5, q6, q7, q8, q9, q10, q11⟩, hl, hc, hs⟩, st⟩ := New1.pays x D fV fC b A z (tab_of (moved hZ hw)) hfr hlo m meth c P g ig mk _ X hg hsize hdg hW hn ⟨r1, r2, rfl, hB, F1, F2, hA, hS, hz, l0, l2, hp⟩
  have al' : Z.vm.Alike B.U.vm := hZ.alike.trans X'.warmed.alike
  have hsz : E'.slots.size = D.slots.size := by
    obtain ⟨-, -, -, kB, w1, w2, w3⟩ := q1
    obtain ⟨kB', y1, y2⟩ := al'.2.2 _ _ e3
    rw [q2.2.1] at w1
    cases w1.symm.trans y1
    rw [w3, e5 i3, y2]
  refine ⟨v, B, X', ⟨_, ⟨hv, ?_, ⟨by omega, fun y cy hy hn' => q10 y cy (by simpa using hn') hy, fun y cy hy => ?_⟩, q11, ⟨E', _, q1.1, by rw [q2.2.1]; exact e2, by rw [q2.2.1]; exact e3, by rw [q2.1]; exact obV, fun _ => by rw [hsz]; exact e5 i3⟩,
    ⟨E', cfV, kV, iV, fV, q1.1, gV, stV, by rw [q2.1]; exact knV, by rw [q2.1]; exact obV, by rw [q2.2.1]; exact asV, q3⟩, ⟨E', cfC, kC, iC, fC, q1.1, gC, stC, by rw [q2.1]; exact knV, by rw [q2.1]; exact obV, by rw [q2.2.1]; exact asC, q4⟩,
    ⟨V', ⟨q5.1, State.isArrayOf_alike al'.symm q5.2.1, q5.2.2.1⟩, q6, by rw [← al'.findClass]; exact q7, q8, fun j hj => by have := q9 j hj; rwa [Nat.zero_add] at this⟩, fun O n d w F n1 n2 => ?_⟩, hl, hc, hs⟩, st⟩
  · intro y hy
    simp only [List.mem_cons, List.not_mem_nil, or_false] at hy
    rcases hy with rfl | rfl <;> rfl
  · by_cases q : y = x
    · subst q
      cases hD.symm.trans hy
      exact ⟨E', q1.1, q2.2.1, q2.1, hsz⟩
    · exact ⟨cy, q10 y cy q hy, rfl, rfl, rfl⟩
  · obtain ⟨D3, cf, k, i, f, g1, g2, g3, g4, g5, g6, g7⟩ := F
    cases hD.symm.trans g1
    simp only [RoadKit.slotOf, g2, gV, gC, Option.map_some, Option.getD_some] at n1 n2
    exact ⟨E', cf, k, i, f, q1.1, g2, g3, by rw [q2.1]; exact g4, by rw [q2.1]; exact g5, by rw [q2.2.1]; exact g6, by rw [q2.2.2 f.slot (by simp [n1, n2])]; exact g7⟩
end StrChars.Road
namespace StrChars.Road
open Jvm Sem ClassFile Op Lib Jvm.Stand Jvm.Free Jvm.Free.XT
/-- WHAT COMES BACK, the byte[] as a list of values -/
def QA (Z : State) (x : Addr) (zn : Int32) (cs : List Int32) (h : Heap) (v : Option Value) (h' : Heap) (L : List Loc) : Prop := v = none ∧ (∀ y ∈ L, y.base = x) ∧ RoadKit.Keep h h' [x] ∧ h'.size = h.size + 1 ∧ RoadKit.Exa Z h' x ST ∧ RoadKit.Fld Z h' x ST "value" "[B" (.ref h.size) ∧ RoadKit.Fld Z h' x ST "coder" "B" (.int 0) ∧
  (∃ kb, Z.vm.findClass "[B" = some kb ∧ RoadKit.Arv Z h' h.size kb .byte zn (cs.map fun c => .int (lo8 c)) (.int 0)) ∧
  ∀ (O n d : String) (w : Value), RoadKit.Fld Z h x O n d w → RoadKit.slotOf Z O n d ≠ RoadKit.slotOf Z ST "value" "[B" → RoadKit.slotOf Z O n d ≠ RoadKit.slotOf Z ST "coder" "B" → RoadKit.Fld Z h' x O n d w
/-- **new String(chars) AT A CALL, THE ARRAYS AS LISTS**: the char[] at b holds cs, not empty, no char above 255 -/
theorem backArv {p : Program} {l : Launch} {e : Env} {R : Room} {s : State} {args : Array Value} {below : List Frame} {len W : Nat} {Z : State} {a0 : Array Value} {h : Heap} (hZ : Z.Warmed39 s.vm) (hw : ∀ d ∈ words, d.before a0 Z = true) {kI : Nat} (wi : (Jvm.Cond.instantiable ST kI).before a0 Z = true)
    {x b : Addr} {k : ClassId} {zn z : Int32} {cs : List Int32} {dv v0 c0 : Value} (E : RoadKit.Exa Z h x ST) (V : RoadKit.Fld Z h x ST "value" "[B" v0) (C : RoadKit.Fld Z h x ST "coder" "B" c0) (K : RoadKit.Arv Z h b k .char zn (cs.map Value.int) dv) (S : RoadKit.Sta Z h ST "COMPACT_STRINGS" "Z" (.int z)) (hz : ¬ z = 0)
    (hlen : zn.toNatClampNeg = cs.length) (h0 : 0 < cs.length) (hbig : cs.length ≤ 536870912) (hall : ∀ c ∈ cs, ¬ 255 < c) (hfr : 4 ≤ R.frames) (hlo : W + 65 ≤ R.locals) :
    Back l R p e below s args New1.yN len W (fun P a => a = #[.ref x, .ref b] ∧ P.U.heap = h ∧ P.cells + 1 ≤ R.cells ∧ P.slots + cs.length ≤ R.slots)
      (fun P _ v B => ∃ L, QA Z x zn cs h v B.U.heap L ∧ B.locs = P.locs ++ L ∧ B.cells = P.cells + 1 ∧ B.slots = P.slots + cs.length) := by
  obtain ⟨A, K1, K2, K3, K4, K5, K6⟩ := K
  have e : A.slots.size = cs.length := K3.trans hlen
  have hat : ∀ (i : Nat) (hi : i < cs.length), A.slots[i]? = some (.int cs[i]) := fun i hi => by rw [K5 i (by omega)]; simp [List.getD_eq_getElem?_getD, hi]
  have hcv : ∀ (i : Nat) (hi : i < cs.length), cv A i = cs[i] := fun i hi => by unfold cv; rw [hat i hi]
  have hty : Typed .char A := fun i v hv => by
    have hi : i < A.slots.size := (Array.getElem?_eq_some_iff.mp hv).1
    have q := K5 i hi
    rw [hv] at q
    rw [Option.some.inj q]
    exact K6 i hi
  refine Back.mono (back hZ hw wi E V C K1 hty S hz (by omega) (by omega) (fun i hi => by rw [hcv i (by omega)]; exact hall _ (List.getElem_mem _)) hfr hlo) (fun P a hp => ⟨hp.1, hp.2.1, hp.2.2.1, by rw [e]; exact hp.2.2.2⟩) (fun P a v B hp hq => ?_)
  obtain ⟨L, ⟨q1, q2, q3, q4, q5, q6, q7, ⟨V', v1, v2, v3, v4, v5⟩, q9⟩, hl, hc, hs⟩ := hq
  refine ⟨L, ⟨q1, q2, q3, q4, q5, q6, q7, ⟨V'.cls, v3, V', v1, rfl, by rw [v4, e, hlen], K4, fun i hi => ?_, fun i hi => ?_⟩, q9⟩, hl, hc, by rw [hs, e]⟩
  · have hi' : i < cs.length := by omega
    rw [v5 i (by omega), hcv i hi']; simp [List.getD_eq_getElem?_getD, hi']
  · have hi' : i < cs.length := by omega
    simp only [List.getD_eq_getElem?_getD, List.getElem?_map, List.getElem?_eq_getElem hi', Option.map_some, Option.getD_some]
    exact fits_lo8 _
end StrChars.Road
namespace StrChars.Road
open Jvm Sem ClassFile Op Lib Jvm.Stand Jvm.Free Jvm.Free.XT
/-- WHAT COMES BACK, in the writer's own shape -/
def QV (Z : State) (x : Addr) (N : Int32) (bs : List Int32) (h : Heap) (n0 : Nat) (v : Option Value) (h' : Heap) (L : List Loc) : Prop := v = none ∧ RoadKit.Fr n0 L ∧ RoadKit.Keep h h' [x] ∧ RoadKit.Exa Z h' x ST ∧ RoadKit.Fld Z h' x ST "coder" "B" (.int 0) ∧
  ∃ (t : Addr) (kb : ClassId), n0 ≤ t ∧ h.size ≤ t ∧ ¬ t = x ∧ RoadKit.Fld Z h' x ST "value" "[B" (.ref t) ∧ RoadKit.Arv Z h' t kb .byte N (bs.map Value.int) (.int 0)
/-- **new String(chars) AT A CALL, FOR THE WRITER**: a char[] of n known ints, each 0 to 255 -/
theorem backV {p : Program} {l : Launch} {e : Env} {R : Room} {s : State} {args : Array Value} {below : List Frame} {len W : Nat} {Z : State} {a0 : Array Value} {h : Heap} (hZ : Z.Warmed39 s.vm) (hw : ∀ d ∈ words, d.before a0 Z = true) {kI : Nat} (wi : (Jvm.Cond.instantiable ST kI).before a0 Z = true)
    {x b : Addr} {kC : ClassId} {cs bs : List Int32} {d v0 c0 : Value} {z N : Int32} {n n0 : Nat} (hx0 : n0 ≤ x) (hh0 : n0 ≤ h.size) (E : RoadKit.Exa Z h x ST) (V : RoadKit.Fld Z h x ST "value" "[B" v0) (C : RoadKit.Fld Z h x ST "coder" "B" c0) (K : RoadKit.Arv Z h b kC .char N (cs.map Value.int) d) (S : RoadKit.Sta Z h ST "COMPACT_STRINGS" "Z" (.int z)) (hz : ¬ z = 0)
    (hn : cs.length = n) (hN : N = Int32.ofNat n) (l0 : 0 < n) (l2 : n ≤ 4000) (hp : ∀ c ∈ cs, ¬ c < 0 ∧ ¬ (255 : Int32) < c) (hb : bs = cs.map (fun c => c.toInt8.toInt32)) (hfr : 4 ≤ R.frames) (hlo : W + 65 ≤ R.locals) :
    Back l R p e below s args (⟨"java/lang/String", "<init>", "([C)V"⟩ : MethodName) len W (fun P a => a = #[.ref x, .ref b] ∧ P.U.heap = h ∧ P.cells + 1 ≤ R.cells ∧ P.slots + n ≤ R.slots)
      (fun P _ v B => ∃ L, QV Z x N bs h n0 v B.U.heap L ∧ B.locs = P.locs ++ L ∧ B.cells = P.cells + 1 ∧ B.slots = P.slots + n) := by
  subst hn hN hb
  refine Back.mono (backArv hZ hw wi E V C K S hz (n32 (by omega)) l0 (by omega) (fun c hc => (hp c hc).2) hfr hlo) (fun P a hp => hp) (fun P a v B hp hq => ?_)
  obtain ⟨L, ⟨q1, q2, q3, q4, q5, q6, q7, ⟨kb, v1, v2⟩, q9⟩, hl, hc, hs⟩ := hq
  exact ⟨L, ⟨q1, fun y hy => by rw [q2 y hy]; exact hx0, q3, q5, q7, h.size, kb, hh0, Nat.le_refl _, Nat.ne_of_gt E.lt, q6, by rw [List.map_map]; exact v2⟩, hl, hc, hs⟩
end StrChars.Road
end Jvm.Pilot.@@N@@

namespace Jvm.Pilot.@@N@@
open Jvm Jvm.ClassFile Sem Op Lib Jvm.Free Jvm.Stand Jvm.LawKit Jvm.RoadKit Bundle Jvm.Pilot.@@N@@.Jvm.D
/-! own kit: a walk as a chain of "from here the run ends well" -/
section OwnKit
/-- from T with the frame g on top the run goes on and ends as Q says -/
def Own (p : Program) (e : Env) (below : List Frame) (s : State) (kc ks : Nat) (Q : Option Value → Heap → List Loc → Prop) (T : State) (g : JFrame) : Prop :=
  ∃ s₂ o, Steps p.tables e below (T.setTop g) s₂ ∧ s₂.status = .running ∧ Ended s₂ below o ∧ ∃ v L, o = .returned v ∧ Q v s₂.heap L ∧ FrameEnd s o s₂ L kc ks
variable {p : Program} {l : Launch} {e : Env} {R : Room} {s : State} {m : MethodId} {args : Array Value} {below : List Frame} {meth : Method} {c : Code} {T T' : State} {locs : List Loc} {cells slots kc ks : Nat} {Q : Option Value → Heap → List Loc → Prop}
/-- unlike addresses, hidden from omega -/
def own_ne (a b : Addr) : Prop := a ≠ b
theorem own_staK {Z : State} {h h' : Heap} {C n d : String} {v : Value} (F : Sta Z h C n d v) (K : Keep h h' []) : Sta Z h' C n d v := by
  obtain ⟨cf, i, k, f, st, cell, h1, h2, h3, h4, h5, r⟩ := F
  exact ⟨cf, i, k, f, st, cell, h1, h2, h3, h4, K.2.1 _ _ h5 (by simp), r⟩
theorem own_staX {Z : State} {h h' : Heap} {C n d D : String} {v : Value} {x : Addr} (F : Sta Z h C n d v) (K : Keep h h' [x]) (E : Exa Z h x D) : Sta Z h' C n d v := by
  obtain ⟨cf, i, k, f, st, cell, h1, h2, h3, h4, h5, h6, r⟩ := F
  refine ⟨cf, i, k, f, st, cell, h1, h2, h3, h4, K.2.1 _ _ h5 (fun q => ?_), h6, r⟩
  cases List.mem_singleton.mp q
  obtain ⟨c2, k2, g1, g2, g3, g4, -⟩ := E
  cases h5.symm.trans g1
  revert h6
  cases hv : cell.vm <;> simp_all [VmData.isStatics]
theorem own_staA {Z : State} {h h' : Heap} {C n d : String} {v : Value} {x : Addr} (F : Sta Z h C n d v) (K : Keep h h' [x]) (A : ∃ (cl : Cell) (ty : FieldType), Arr Z h x cl ty) : Sta Z h' C n d v := by
  obtain ⟨cf, i, k, f, st, cell, h1, h2, h3, h4, h5, h6, r⟩ := F
  refine ⟨cf, i, k, f, st, cell, h1, h2, h3, h4, K.2.1 _ _ h5 (fun q => ?_), h6, r⟩
  cases List.mem_singleton.mp q
  obtain ⟨cl, ty, g1, ⟨g2, -⟩, -⟩ := A
  cases h5.symm.trans g1
  revert h6
  cases hv : cell.vm <;> simp_all [VmData.isStatics]
theorem own_go {g g' : JFrame} (h : ∀ t, Steps p.tables e below (T'.setTop g') t → Steps p.tables e below (T.setTop g) t) (k : Own p e below s kc ks Q T' g') : Own p e below s kc ks Q T g := by
  obtain ⟨s₂, o, h1, r⟩ := k
  exact ⟨s₂, o, h _ h1, r⟩
theorem own_to (T' : State) (g' : JFrame) {g : JFrame} (h : ∀ t, Steps p.tables e below (T'.setTop g') t → Steps p.tables e below (T.setTop g) t) (k : Own p e below s kc ks Q T' g') : Own p e below s kc ks Q T g := own_go h k
theorem own_ret (X : Stand p l e R s m args below meth c T locs cells slots) (hx : p.tables.exec = Jvm.exec) {pc : Nat} {Ls : Array Slot} {w : Value} {t : FieldType} {i : Instr} {rest : List Value} (hret : meth.sig.returnType = some t) (hlk : meth.locks = false) (hn : narrow t w = w)
    (hi : (i = .ireturn ∧ (t = .int ∨ t = .boolean ∨ t = .byte ∨ t = .char ∨ t = .short) ∧ ∃ z, w = .int z) ∨ (i = .lreturn ∧ t = .long ∧ ∃ z, w = .long z) ∨ (i = .dreturn ∧ t = .double ∧ ∃ z, w = .double z) ∨ (i = .freturn ∧ t = .float ∧ ∃ z, w = .float z) ∨ (i = .areturn ∧ t.isReference = true ∧ w.isRef = true))
    (hd : decode c.code pc = .ok (i, 1)) (hc : cells ≤ kc) (hs : slots ≤ ks) (q : Q (some w) T.heap locs) : Own p e below s kc ks Q T (mkF m pc Ls (w :: rest)) := by
  obtain ⟨fs, hr, hrun, hended, hW, hsame⟩ := X.leave (v := some w) (fun h => by rw [hret] at h; cases h) hlk
  exact ⟨_, _, retOut X hx hret hn hi hd hr, hrun, hended, _, locs, rfl, q, ⟨_, rfl⟩, hW, hsame.mono hc hs⟩
theorem own_retI (X : Stand p l e R s m args below meth c T locs cells slots) (hx : p.tables.exec = Jvm.exec) {pc : Nat} {Ls : Array Slot} {z : Int32} {rest : List Value} (hret : meth.sig.returnType = some .int) (hlk : meth.locks = false)
    (hd : decode c.code pc = .ok (.ireturn, 1)) (hc : cells ≤ kc) (hs : slots ≤ ks) (q : Q (some (.int z)) T.heap locs) : Own p e below s kc ks Q T (mkF m pc Ls (.int z :: rest)) :=
  own_ret X hx hret hlk rfl (Or.inl ⟨rfl, Or.inl rfl, _, rfl⟩) hd hc hs q
theorem own_retZ (X : Stand p l e R s m args below meth c T locs cells slots) (hx : p.tables.exec = Jvm.exec) {pc : Nat} {Ls : Array Slot} {z : Int32} {rest : List Value} (hret : meth.sig.returnType = some .boolean) (hlk : meth.locks = false)
    (hd : decode c.code pc = .ok (.ireturn, 1)) (hc : cells ≤ kc) (hs : slots ≤ ks) (hz : z = 0 ∨ z = 1) (q : Q (some (.int z)) T.heap locs) : Own p e below s kc ks Q T (mkF m pc Ls (.int z :: rest)) :=
  own_ret X hx hret hlk (by rcases hz with rfl | rfl <;> rfl) (Or.inl ⟨rfl, Or.inr (Or.inl rfl), _, rfl⟩) hd hc hs q
theorem own_retC (X : Stand p l e R s m args below meth c T locs cells slots) (hx : p.tables.exec = Jvm.exec) {pc : Nat} {Ls : Array Slot} {z : Int32} {rest : List Value} (hret : meth.sig.returnType = some .char) (hlk : meth.locks = false)
    (hd : decode c.code pc = .ok (.ireturn, 1)) (hc : cells ≤ kc) (hs : slots ≤ ks) (hz : z.toUInt32.toUInt16.toUInt32.toInt32 = z) (q : Q (some (.int z)) T.heap locs) : Own p e below s kc ks Q T (mkF m pc Ls (.int z :: rest)) :=
  own_ret X hx hret hlk (congrArg Value.int hz) (Or.inl ⟨rfl, Or.inr (Or.inr (Or.inr (Or.inl rfl))), _, rfl⟩) hd hc hs q
theorem own_retB (X : Stand p l e R s m args below meth c T locs cells slots) (hx : p.tables.exec = Jvm.exec) {pc : Nat} {Ls : Array Slot} {z : Int32} {rest : List Value} (hret : meth.sig.returnType = some .byte) (hlk : meth.locks = false)
    (hd : decode c.code pc = .ok (.ireturn, 1)) (hc : cells ≤ kc) (hs : slots ≤ ks) (hz : z.toInt8.toInt32 = z) (q : Q (some (.int z)) T.heap locs) : Own p e below s kc ks Q T (mkF m pc Ls (.int z :: rest)) :=
  own_ret X hx hret hlk (congrArg Value.int hz) (Or.inl ⟨rfl, Or.inr (Or.inr (Or.inl rfl)), _, rfl⟩) hd hc hs q
theorem own_cat1 {v : Value} (h : v.isRef = true) : v.category = 1 := by cases v <;> first | rfl | cases h
theorem own_retJ (X : Stand p l e R s m args below meth c T locs cells slots) (hx : p.tables.exec = Jvm.exec) {pc : Nat} {Ls : Array Slot} {z : Int64} {rest : List Value} (hret : meth.sig.returnType = some .long) (hlk : meth.locks = false)
    (hd : decode c.code pc = .ok (.lreturn, 1)) (hc : cells ≤ kc) (hs : slots ≤ ks) (q : Q (some (.long z)) T.heap locs) : Own p e below s kc ks Q T (mkF m pc Ls (.long z :: rest)) :=
  own_ret X hx hret hlk rfl (Or.inr (Or.inl ⟨rfl, rfl, _, rfl⟩)) hd hc hs q
theorem own_retD (X : Stand p l e R s m args below meth c T locs cells slots) (hx : p.tables.exec = Jvm.exec) {pc : Nat} {Ls : Array Slot} {z : UInt64} {rest : List Value} (hret : meth.sig.returnType = some .double) (hlk : meth.locks = false)
    (hd : decode c.code pc = .ok (.dreturn, 1)) (hc : cells ≤ kc) (hs : slots ≤ ks) (q : Q (some (.double z)) T.heap locs) : Own p e below s kc ks Q T (mkF m pc Ls (.double z :: rest)) :=
  own_ret X hx hret hlk rfl (Or.inr (Or.inr (Or.inl ⟨rfl, rfl, _, rfl⟩))) hd hc hs q
theorem own_retA (X : Stand p l e R s m args below meth c T locs cells slots) (hx : p.tables.exec = Jvm.exec) {pc : Nat} {Ls : Array Slot} {w : Value} {t : FieldType} {rest : List Value} (hret : meth.sig.returnType = some t) (hlk : meth.locks = false)
    (ht : t.isReference = true) (hw : w.isRef = true) (hd : decode c.code pc = .ok (.areturn, 1)) (hc : cells ≤ kc) (hs : slots ≤ ks) (q : Q (some w) T.heap locs) : Own p e below s kc ks Q T (mkF m pc Ls (w :: rest)) :=
  own_ret X hx hret hlk (by cases t <;> cases w <;> first | rfl | (cases ht; done) | (cases hw; done)) (Or.inr (Or.inr (Or.inr (Or.inr ⟨rfl, ht, hw⟩)))) hd hc hs q
theorem own_retV (X : Stand p l e R s m args below meth c T locs cells slots) (hx : p.tables.exec = Jvm.exec) {pc : Nat} {Ls : Array Slot} (hret : meth.sig.returnType = none) (hlk : meth.locks = false)
    (hd : decode c.code pc = .ok (.return_, 1)) (hc : cells ≤ kc) (hs : slots ≤ ks) (q : Q none T.heap locs) : Own p e below s kc ks Q T (mkF m pc Ls []) := by
  obtain ⟨fs, hr, hrun, hended, hW, hsame⟩ := X.leave (v := none) (fun _ => rfl) hlk
  exact ⟨_, _, X.returnOut hx hret hd hr, hrun, hended, _, locs, rfl, q, ⟨_, rfl⟩, hW, hsame.mono hc hs⟩
/-- a body's contract out of its walk -/
theorem own_met {Z : State} {h0 : Heap} {y : MethodName} {bytes : ByteArray} {ml : Nat} {ret : Option FieldType} {ws : List Jvm.Cond} {rm : Room} {as' : Array Value} (hp : plainFor y = true)
    (body : ∀ (p : Program) (e : Env) (s : State) (m : MethodId) (below : List Frame) (meth : Method) (c : Code) (s₁ : State), Stand p l e rm s m as' below meth c s₁ [] 0 0 → p.tables.exec = Jvm.exec → c.code = bytes → c.maxLocals = ml → meth.sig.returnType = ret → meth.locks = false →
      s.vm.findClass y.cls = some m.cls → meth.name = y.name → Z.Warmed39 s.vm → s₁.heap = h0 → Own p e below s rm.cells rm.slots Q s₁ (entryFrame m as' ml)) :
    MetFree l y (head1 (Jvm.Cond.code y bytes ml ret :: ws) rm) (fun a U => a = as' ∧ Z.Warmed39 U.vm ∧ U.heap = h0) (fun _ _ _ _ _ => True) (fun _ U o U' => ∃ v L, o = .returned v ∧ Q v U'.heap L ∧ FrameEnd U o U' L rm.cells rm.slots) := by
  refine MetFree.of_bodySF hp hisR ?_
  intro p e s m args below meth c s₁ Bd hml0 hP hK
  obtain ⟨rfl, hZ, hh⟩ := hP
  exact body p e s m below meth c s₁ (Stand.of_body Bd) Bd.exec Bd.bytes hml0 Bd.returns Bd.notSynchronized (findClass_of_methodNamed Bd.named) (name_of_methodNamed Bd.named Bd.method).1 hZ (by rw [← hh, Bd.state]; rfl)
theorem own_entry {g g' : JFrame} (q : g = g') (k : Own p e below s kc ks Q T g') : Own p e below s kc ks Q T g := q ▸ k
theorem own_mvMN {Z s : State} {a0 args : Array Value} {own host : String} {index : Nat} {y : MethodName} (hZ : Z.Warmed39 s.vm) (w : (Jvm.Cond.methodLinkNest own index y host).before a0 Z = true) : (Jvm.Cond.methodLinkNest own index y host).before args s = true := (Jvm.Cond.methodLinkNest_wide hZ w :)
theorem own_w {Z : State} {a0 : Array Value} (hw : ∀ d ∈ tables_1, d.before a0 Z = true) (i : Nat) {d : Jvm.Cond} (h : tables_1[i]? = some d) : d.before a0 Z = true := hw _ (List.mem_of_getElem? h)
end OwnKit
/-! own kit, wide: a walk that may load a String constant for the first time -/
section OwnWide
def OwnW (p : Program) (e : Env) (below : List Frame) (s : State) (kc ks : Nat) (Q : Option Value → Heap → List Loc → Prop) (T : State) (g : JFrame) : Prop :=
  ∃ s₂ o, Steps p.tables e below (T.setTop g) s₂ ∧ s₂.status = .running ∧ Ended s₂ below o ∧ ∃ v L, o = .returned v ∧ Q v s₂.heap L ∧ ReturnedEndW s o s₂ L kc ks
variable {p : Program} {l : Launch} {e : Env} {R : Room} {s : State} {m : MethodId} {args : Array Value} {below : List Frame} {meth : Method} {c : Code} {T T' : State} {locs : List Loc} {cells slots kc ks : Nat} {Q : Option Value → Heap → List Loc → Prop} {vm0 : Vm} {k0 : Nat}
theorem own_toW (T' : State) (g' : JFrame) {g : JFrame} (h : ∀ t, Steps p.tables e below (T'.setTop g') t → Steps p.tables e below (T.setTop g) t) (k : OwnW p e below s kc ks Q T' g') : OwnW p e below s kc ks Q T g := by
  obtain ⟨s₂, o, h1, r⟩ := k
  exact ⟨s₂, o, h _ h1, r⟩
theorem own_retWx (X : Stand p l e R (s.setVm vm0) m args below meth c T locs cells slots) (hS : s.Since vm0 k0) (hk : k0 ≤ T.heap.size) (hx : p.tables.exec = Jvm.exec) {pc : Nat} {Ls : Array Slot} {w : Value} {t : FieldType} {i : Instr} {rest : List Value} (hret : meth.sig.returnType = some t) (hlk : meth.locks = false) (hn : narrow t w = w)
    (hi : (i = .ireturn ∧ (t = .int ∨ t = .boolean ∨ t = .byte ∨ t = .char ∨ t = .short) ∧ ∃ z, w = .int z) ∨ (i = .lreturn ∧ t = .long ∧ ∃ z, w = .long z) ∨ (i = .dreturn ∧ t = .double ∧ ∃ z, w = .double z) ∨ (i = .freturn ∧ t = .float ∧ ∃ z, w = .float z) ∨ (i = .areturn ∧ t.isReference = true ∧ w.isRef = true))
    (hd : decode c.code pc = .ok (i, 1)) (hc : cells ≤ kc) (hs : slots ≤ ks) (q : Q (some w) T.heap locs) : OwnW p e below s kc ks Q T (mkF m pc Ls (w :: rest)) := by
  obtain ⟨fs, hr, hrun, hended, h1, h2, h3, h4⟩ := X.leaveW hS hk (v := some w) (fun h => by rw [hret] at h; cases h) hlk
  exact ⟨_, _, retOut X hx hret hn hi hd hr, hrun, hended, _, locs, rfl, q, h1, h2, h3, h4.mono hc hs⟩
theorem own_retZW (X : Stand p l e R (s.setVm vm0) m args below meth c T locs cells slots) (hS : s.Since vm0 k0) (hk : k0 ≤ T.heap.size) (hx : p.tables.exec = Jvm.exec) {pc : Nat} {Ls : Array Slot} {z : Int32} {rest : List Value} (hret : meth.sig.returnType = some .boolean) (hlk : meth.locks = false)
    (hd : decode c.code pc = .ok (.ireturn, 1)) (hc : cells ≤ kc) (hs : slots ≤ ks) (hz : z = 0 ∨ z = 1) (q : Q (some (.int z)) T.heap locs) : OwnW p e below s kc ks Q T (mkF m pc Ls (.int z :: rest)) :=
  own_retWx X hS hk hx hret hlk (by rcases hz with rfl | rfl <;> rfl) (Or.inl ⟨rfl, Or.inr (Or.inl rfl), _, rfl⟩) hd hc hs q
theorem own_retAW (X : Stand p l e R (s.setVm vm0) m args below meth c T locs cells slots) (hS : s.Since vm0 k0) (hk : k0 ≤ T.heap.size) (hx : p.tables.exec = Jvm.exec) {pc : Nat} {Ls : Array Slot} {w : Value} {t : FieldType} {rest : List Value} (hret : meth.sig.returnType = some t) (hlk : meth.locks = false)
    (ht : t.isReference = true) (hw : w.isRef = true) (hd : decode c.code pc = .ok (.areturn, 1)) (hc : cells ≤ kc) (hs : slots ≤ ks) (q : Q (some w) T.heap locs) : OwnW p e below s kc ks Q T (mkF m pc Ls (w :: rest)) :=
  own_retWx X hS hk hx hret hlk (by cases t <;> cases w <;> first | rfl | (cases ht; done) | (cases hw; done)) (Or.inr (Or.inr (Or.inr (Or.inr ⟨rfl, ht, hw⟩)))) hd hc hs q
theorem own_retVW (X : Stand p l e R (s.setVm vm0) m args below meth c T locs cells slots) (hS : s.Since vm0 k0) (hk : k0 ≤ T.heap.size) (hx : p.tables.exec = Jvm.exec) {pc : Nat} {Ls : Array Slot} (hret : meth.sig.returnType = none) (hlk : meth.locks = false)
    (hd : decode c.code pc = .ok (.return_, 1)) (hc : cells ≤ kc) (hs : slots ≤ ks) (q : Q none T.heap locs) : OwnW p e below s kc ks Q T (mkF m pc Ls []) := by
  obtain ⟨fs, hr, hrun, hended, h1, h2, h3, h4⟩ := X.leaveW hS hk (v := none) (fun _ => rfl) hlk
  exact ⟨_, _, X.returnOut hx hret hd hr, hrun, hended, _, locs, rfl, q, h1, h2, h3, h4.mono hc hs⟩
theorem own_metW {Z : State} {h0 : Heap} {y : MethodName} {bytes : ByteArray} {ml : Nat} {ret : Option FieldType} {ws : List Jvm.Cond} {rm : Room} {as' : Array Value} (hp : plainFor y = true)
    (body : ∀ (p : Program) (e : Env) (s : State) (m : MethodId) (below : List Frame) (meth : Method) (c : Code) (s₁ : State), Stand p l e rm (s.setVm s.vm) m as' below meth c s₁ [] 0 0 → p.tables.exec = Jvm.exec → c.code = bytes → c.maxLocals = ml → meth.sig.returnType = ret → meth.locks = false →
      (s.setVm s.vm).vm.findClass y.cls = some m.cls → meth.name = y.name → Z.Warmed39 (s.setVm s.vm).vm → s₁.heap = h0 → s.Since s.vm h0.size → OwnW p e below s rm.cells rm.slots Q s₁ (entryFrame m as' ml)) :
    MetFree l y (head1 (Jvm.Cond.code y bytes ml ret :: ws) rm) (fun a U => a = as' ∧ Z.Warmed39 U.vm ∧ U.heap = h0) (fun _ _ _ _ _ => True) (fun _ U o U' => ∃ v L, o = .returned v ∧ Q v U'.heap L ∧ ReturnedEndW U o U' L rm.cells rm.slots) := by
  refine MetFree.of_bodySF hp hisR ?_
  intro p e s m args below meth c s₁ Bd hml0 hP hK
  obtain ⟨rfl, hZ, hh⟩ := hP
  have X0 : Stand p l e rm s m _ below meth c s₁ [] 0 0 := Stand.of_body Bd
  have h0' : s₁.heap = h0 := by rw [← hh, Bd.state]; rfl
  have hw : s.WarmedH s.vm := by
    have q := X0.warmed
    rw [Bd.state] at q
    exact q
  exact body p e s m below meth c s₁ X0 Bd.exec Bd.bytes hml0 Bd.returns Bd.notSynchronized (findClass_of_methodNamed Bd.named) (name_of_methodNamed Bd.named Bd.method).1 hZ h0' (hw.since _)
theorem own_entryW {g g' : JFrame} (q : g = g') (k : OwnW p e below s kc ks Q T g') : OwnW p e below s kc ks Q T g := q ▸ k
end OwnWide
/-! own kit, held: a walk that loads String constants and reads them (LawHeld's invariant goes with it) -/
section OwnHeld
def OwnH (Z : State) (EL : List (String × Nat)) (p : Program) (e : Env) (below : List Frame) (s : State) (kc ks : Nat) (Q : Option Value → Heap → List Loc → Prop) (T : State) (g : JFrame) : Prop :=
  ∃ s₂ o, Steps p.tables e below (T.setTop g) s₂ ∧ s₂.status = .running ∧ Ended s₂ below o ∧ ∃ v L, o = .returned v ∧ Q v s₂.heap L ∧ CHr Z EL s.vm s.heap s₂.vm s₂.heap ∧ ReturnedEndW s o s₂ L kc ks
variable {Z : State} {a0 : Array Value} {EL : List (String × Nat)} {p : Program} {l : Launch} {e : Env} {R : Room} {s : State} {m : MethodId} {args : Array Value} {below : List Frame} {meth : Method} {c : Code} {T T' : State} {locs : List Loc} {cells slots kc ks : Nat} {Q : Option Value → Heap → List Loc → Prop} {vm0 : Vm} {k0 : Nat}
theorem own_toH (T' : State) (g' : JFrame) {g : JFrame} (h : ∀ t, Steps p.tables e below (T'.setTop g') t → Steps p.tables e below (T.setTop g) t) (k : OwnH Z EL p e below s kc ks Q T' g') : OwnH Z EL p e below s kc ks Q T g := by
  obtain ⟨s₂, o, h1, r⟩ := k
  exact ⟨s₂, o, h _ h1, r⟩
theorem own_retHx (X : Stand p l e R (s.setVm vm0) m args below meth c T locs cells slots) (hS : s.Since vm0 k0) (hk : k0 ≤ T.heap.size) (hZ : Z.Warmed39 vm0) (hEL : EW Z a0 EL) (C : CHr Z EL s.vm s.heap vm0 T.heap) (hx : p.tables.exec = Jvm.exec) {pc : Nat} {Ls : Array Slot} {w : Value} {t : FieldType} {i : Instr} {rest : List Value} (hret : meth.sig.returnType = some t) (hlk : meth.locks = false) (hn : narrow t w = w)
    (hi : (i = .ireturn ∧ (t = .int ∨ t = .boolean ∨ t = .byte ∨ t = .char ∨ t = .short) ∧ ∃ z, w = .int z) ∨ (i = .lreturn ∧ t = .long ∧ ∃ z, w = .long z) ∨ (i = .dreturn ∧ t = .double ∧ ∃ z, w = .double z) ∨ (i = .freturn ∧ t = .float ∧ ∃ z, w = .float z) ∨ (i = .areturn ∧ t.isReference = true ∧ w.isRef = true))
    (hd : decode c.code pc = .ok (i, 1)) (hc : cells ≤ kc) (hs : slots ≤ ks) (q : Q (some w) T.heap locs) : OwnH Z EL p e below s kc ks Q T (mkF m pc Ls (w :: rest)) := by
  obtain ⟨fs, hr, hrun, hended, h1, h2, h3, h4⟩ := X.leaveW hS hk (v := some w) (fun h => by rw [hret] at h; cases h) hlk
  exact ⟨_, _, retOut X hx hret hn hi hd hr, hrun, hended, _, locs, rfl, q, (have C2 := C.trans (CHv.at X hZ hEL C.1); C2), h1, h2, h3, h4.mono hc hs⟩
theorem own_retZH (X : Stand p l e R (s.setVm vm0) m args below meth c T locs cells slots) (hS : s.Since vm0 k0) (hk : k0 ≤ T.heap.size) (hZ : Z.Warmed39 vm0) (hEL : EW Z a0 EL) (C : CHr Z EL s.vm s.heap vm0 T.heap) (hx : p.tables.exec = Jvm.exec) {pc : Nat} {Ls : Array Slot} {z : Int32} {rest : List Value} (hret : meth.sig.returnType = some .boolean) (hlk : meth.locks = false)
    (hd : decode c.code pc = .ok (.ireturn, 1)) (hc : cells ≤ kc) (hs : slots ≤ ks) (hz : z = 0 ∨ z = 1) (q : Q (some (.int z)) T.heap locs) : OwnH Z EL p e below s kc ks Q T (mkF m pc Ls (.int z :: rest)) :=
  own_retHx X hS hk hZ hEL C hx hret hlk (by rcases hz with rfl | rfl <;> rfl) (Or.inl ⟨rfl, Or.inr (Or.inl rfl), _, rfl⟩) hd hc hs q
theorem own_retAH (X : Stand p l e R (s.setVm vm0) m args below meth c T locs cells slots) (hS : s.Since vm0 k0) (hk : k0 ≤ T.heap.size) (hZ : Z.Warmed39 vm0) (hEL : EW Z a0 EL) (C : CHr Z EL s.vm s.heap vm0 T.heap) (hx : p.tables.exec = Jvm.exec) {pc : Nat} {Ls : Array Slot} {w : Value} {t : FieldType} {rest : List Value} (hret : meth.sig.returnType = some t) (hlk : meth.locks = false)
    (ht : t.isReference = true) (hw : w.isRef = true) (hd : decode c.code pc = .ok (.areturn, 1)) (hc : cells ≤ kc) (hs : slots ≤ ks) (q : Q (some w) T.heap locs) : OwnH Z EL p e below s kc ks Q T (mkF m pc Ls (w :: rest)) :=
  own_retHx X hS hk hZ hEL C hx hret hlk (by cases t <;> cases w <;> first | rfl | (cases ht; done) | (cases hw; done)) (Or.inr (Or.inr (Or.inr (Or.inr ⟨rfl, ht, hw⟩)))) hd hc hs q
theorem own_retVH (X : Stand p l e R (s.setVm vm0) m args below meth c T locs cells slots) (hS : s.Since vm0 k0) (hk : k0 ≤ T.heap.size) (hZ : Z.Warmed39 vm0) (hEL : EW Z a0 EL) (C : CHr Z EL s.vm s.heap vm0 T.heap) (hx : p.tables.exec = Jvm.exec) {pc : Nat} {Ls : Array Slot} (hret : meth.sig.returnType = none) (hlk : meth.locks = false)
    (hd : decode c.code pc = .ok (.return_, 1)) (hc : cells ≤ kc) (hs : slots ≤ ks) (q : Q none T.heap locs) : OwnH Z EL p e below s kc ks Q T (mkF m pc Ls []) := by
  obtain ⟨fs, hr, hrun, hended, h1, h2, h3, h4⟩ := X.leaveW hS hk (v := none) (fun _ => rfl) hlk
  exact ⟨_, _, X.returnOut hx hret hd hr, hrun, hended, _, locs, rfl, q, (have C2 := C.trans (CHv.at X hZ hEL C.1); C2), h1, h2, h3, h4.mono hc hs⟩
theorem own_metH {h0 : Heap} {y : MethodName} {bytes : ByteArray} {ml : Nat} {ret : Option FieldType} {ws : List Jvm.Cond} {rm : Room} {as' : Array Value} (hp : plainFor y = true)
    (body : ∀ (p : Program) (e : Env) (s : State) (m : MethodId) (below : List Frame) (meth : Method) (c : Code) (s₁ : State), Stand p l e rm (s.setVm s.vm) m as' below meth c s₁ [] 0 0 → p.tables.exec = Jvm.exec → c.code = bytes → c.maxLocals = ml → meth.sig.returnType = ret → meth.locks = false →
      (s.setVm s.vm).vm.findClass y.cls = some m.cls → meth.name = y.name → Z.Warmed39 (s.setVm s.vm).vm → s₁.heap = h0 → s.Since s.vm h0.size → CHr Z EL s.vm s.heap s.vm h0 → OwnH Z EL p e below s rm.cells rm.slots Q s₁ (entryFrame m as' ml)) :
    MetFree l y (head1 (Jvm.Cond.code y bytes ml ret :: ws) rm) (fun a U => a = as' ∧ Z.Warmed39 U.vm ∧ U.heap = h0 ∧ CHv Z EL U.vm h0) (fun _ _ _ _ _ => True) (fun _ U o U' => ∃ v L, o = .returned v ∧ Q v U'.heap L ∧ CHr Z EL U.vm U.heap U'.vm U'.heap ∧ ReturnedEndW U o U' L rm.cells rm.slots) := by
  refine MetFree.of_bodySF hp hisR ?_
  intro p e s m args below meth c s₁ Bd hml0 hP hK
  obtain ⟨rfl, hZ, hh, hC⟩ := hP
  have X0 : Stand p l e rm s m _ below meth c s₁ [] 0 0 := Stand.of_body Bd
  have h0' : s₁.heap = h0 := by rw [← hh, Bd.state]; rfl
  have hw : s.WarmedH s.vm := by
    have q := X0.warmed
    rw [Bd.state] at q
    exact q
  have hC0 : CHr Z EL s.vm s.heap s.vm h0 := by rw [hh]; exact CHr.refl hC
  exact body p e s m below meth c s₁ X0 Bd.exec Bd.bytes hml0 Bd.returns Bd.notSynchronized (findClass_of_methodNamed Bd.named) (name_of_methodNamed Bd.named Bd.method).1 hZ h0' (hw.since _) hC0
theorem own_metHS {h0 : Heap} {xs : Addr} {y : MethodName} {bytes : ByteArray} {ml : Nat} {ret : Option FieldType} {ws : List Jvm.Cond} {rm : Room} {as' : Array Value} (hp : plainFor y = true)
    (body : ∀ (p : Program) (e : Env) (s : State) (m : MethodId) (below : List Frame) (meth : Method) (c : Code) (s₁ : State), Stand p l e rm (s.setVm s.vm) m as' below meth c s₁ [] 0 0 → p.tables.exec = Jvm.exec → c.code = bytes → c.maxLocals = ml → meth.sig.returnType = ret → meth.locks = false →
      (s.setVm s.vm).vm.findClass y.cls = some m.cls → meth.name = y.name → Z.Warmed39 (s.setVm s.vm).vm → s₁.heap = h0 → s.Since s.vm h0.size → CHr Z EL s.vm s.heap s.vm h0 → Safe Z EL s.vm h0 xs → OwnH Z EL p e below s rm.cells rm.slots Q s₁ (entryFrame m as' ml)) :
    MetFree l y (head1 (Jvm.Cond.code y bytes ml ret :: ws) rm) (fun a U => a = as' ∧ Z.Warmed39 U.vm ∧ U.heap = h0 ∧ CHv Z EL U.vm h0 ∧ Safe Z EL U.vm h0 xs) (fun _ _ _ _ _ => True) (fun _ U o U' => ∃ v L, o = .returned v ∧ Q v U'.heap L ∧ CHr Z EL U.vm U.heap U'.vm U'.heap ∧ ReturnedEndW U o U' L rm.cells rm.slots) := by
  refine MetFree.of_bodySF hp hisR ?_
  intro p e s m args below meth c s₁ Bd hml0 hP hK
  obtain ⟨rfl, hZ, hh, hC, hSf⟩ := hP
  have X0 : Stand p l e rm s m _ below meth c s₁ [] 0 0 := Stand.of_body Bd
  have h0' : s₁.heap = h0 := by rw [← hh, Bd.state]; rfl
  have hw : s.WarmedH s.vm := by
    have q := X0.warmed
    rw [Bd.state] at q
    exact q
  have hC0 : CHr Z EL s.vm s.heap s.vm h0 := by rw [hh]; exact CHr.refl hC
  exact body p e s m below meth c s₁ X0 Bd.exec Bd.bytes hml0 Bd.returns Bd.notSynchronized (findClass_of_methodNamed Bd.named) (name_of_methodNamed Bd.named Bd.method).1 hZ h0' (hw.since _) hC0 hSf
theorem own_backSH {h : Heap} {xs : Addr} {y : MethodName} {bytes : ByteArray} {maxL : Nat} {ret : Option FieldType} {rm : Room} {len W : Nat} {as' : Array Value}
    (hM : MetFree l y (head1 [Cond.code y bytes maxL ret] rm) (fun a U => a = as' ∧ Z.Warmed39 U.vm ∧ U.heap = h ∧ CHv Z EL U.vm h ∧ Safe Z EL U.vm h xs) (fun _ _ _ _ _ => True) (fun _ U o U' => ∃ v L, o = .returned v ∧ Q v U'.heap L ∧ CHr Z EL U.vm U.heap U'.vm U'.heap ∧ ReturnedEndW U o U' L rm.cells rm.slots))
    (hZ : Z.Warmed39 vm0) (wc : (Cond.code y bytes maxL ret).before a0 Z = true) (wz : (Cond.initialized y.cls).before a0 Z = true) (hf : rm.frames + 1 ≤ R.frames) (hl : W + (maxL + 11) + rm.locals ≤ R.locals) (hEL : EW Z a0 EL) (H : CHv Z EL vm0 h) (hlt : xs < h.size) (S : Safe Z EL vm0 h xs) :
    BackS l R p e below (s.setVm vm0) args y len W (fun A a => a = as' ∧ A.U.heap = h ∧ A.cells + rm.cells ≤ R.cells ∧ A.slots + rm.slots ≤ R.slots)
      (fun A _ v B => ∃ L, Q v B.U.heap L ∧ B.locs = A.locs ++ L ∧ B.cells = A.cells + rm.cells ∧ B.slots = A.slots + rm.slots ∧ CHr Z EL vm0 h B.U.vm B.U.heap) :=
  BackS.of_freeW (bytes := bytes) (maxL := maxL) (ret := ret) (E := fun _ first o t L k n => k = rm.cells ∧ n = rm.slots ∧ (∃ v, o = .returned v ∧ Q v t.heap L) ∧ CHr Z EL first.vm first.heap t.vm t.heap) hM hf hl
    (fun m meth c A a Y hp => have hU : Z.Warmed39 A.U.vm := wtrans (s := s.setVm vm0) hZ Y.warmed
      ⟨by show (Cond.and _ .tt).before a A.U = true; rw [Cond.before_and, mv hU wc]; rfl, mv hU wc, mv hU wz, hp.2.2.1, hp.2.2.2⟩)
    (fun m meth c A a g mk Y hp => ⟨hp.1, wtrans (s := s.setVm vm0) hZ Y.warmed, hp.2.1, (CHv.at Y hZ hEL H).1, (CHv.at Y hZ hEL H).safe hlt S⟩) (fun _ _ _ _ _ _ _ _ _ => trivial)
    (fun _ _ _ _ ⟨v, L, h1, h2, h3, h4⟩ => ⟨L, _, _, h4, rfl, rfl, ⟨v, h1, h2⟩, h3⟩)
    (fun m meth c A a g mk v t L k n Y hp _ _ ⟨e1, e2, ⟨v', e3, e4⟩, e5⟩ => by
      cases e3; subst e1 e2
      refine ⟨L, e4, rfl, rfl, rfl, (CHv.at Y hZ hEL H).trans ?_⟩
      rw [← hp.2.1]; exact e5)
theorem own_metHW {h0 : Heap} {y : MethodName} {bytes : ByteArray} {ml : Nat} {ret : Option FieldType} {ws : List Jvm.Cond} {rm : Room} {as' : Array Value} (hp : plainFor y = true)
    (body : ∀ (p : Program) (e : Env) (s : State) (m : MethodId) (below : List Frame) (meth : Method) (c : Code) (s₁ : State), Stand p l e rm (s.setVm s.vm) m as' below meth c s₁ [] 0 0 → p.tables.exec = Jvm.exec → c.code = bytes → c.maxLocals = ml → meth.sig.returnType = ret → meth.locks = false →
      (s.setVm s.vm).vm.findClass y.cls = some m.cls → meth.name = y.name → Z.Warmed39 (s.setVm s.vm).vm → s₁.heap = h0 → s.Since s.vm h0.size → CHv Z EL s.vm h0 → OwnW p e below s rm.cells rm.slots Q s₁ (entryFrame m as' ml)) :
    MetFree l y (head1 (Jvm.Cond.code y bytes ml ret :: ws) rm) (fun a U => a = as' ∧ Z.Warmed39 U.vm ∧ U.heap = h0 ∧ CHv Z EL U.vm h0) (fun _ _ _ _ _ => True) (fun _ U o U' => ∃ v L, o = .returned v ∧ Q v U'.heap L ∧ ReturnedEndW U o U' L rm.cells rm.slots) := by
  refine MetFree.of_bodySF hp hisR ?_
  intro p e s m args below meth c s₁ Bd hml0 hP hK
  obtain ⟨rfl, hZ, hh, hC⟩ := hP
  have X0 : Stand p l e rm s m _ below meth c s₁ [] 0 0 := Stand.of_body Bd
  have h0' : s₁.heap = h0 := by rw [← hh, Bd.state]; rfl
  have hw : s.WarmedH s.vm := by
    have q := X0.warmed
    rw [Bd.state] at q
    exact q
  exact body p e s m below meth c s₁ X0 Bd.exec Bd.bytes hml0 Bd.returns Bd.notSynchronized (findClass_of_methodNamed Bd.named) (name_of_methodNamed Bd.named Bd.method).1 hZ h0' (hw.since _) hC
theorem own_entryH {g g' : JFrame} (q : g = g') (k : OwnH Z EL p e below s kc ks Q T g') : OwnH Z EL p e below s kc ks Q T g := q ▸ k
end OwnHeld
theorem own_sub : ∀ a ∈ Bundle.stringAtoms, a ∈ tables_1 := by decide +kernel
def own_upd (f : Nat → Int32) (i : Nat) (x : Int32) : Nat → Int32 := fun j => if j = i then x else f j
def BArr (Z : State) (h : Heap) (a : Addr) (n : Nat) (f : Nat → Int32) : Prop := ∃ c : Cell, Arr Z h a c .byte ∧ c.slots.size = n ∧ ∀ i, i < n → c.slots[i]? = some (.int (f i))
theorem BArr.lt {Z : State} {h : Heap} {a : Addr} {n : Nat} {f : Nat → Int32} (F : BArr Z h a n f) : a < h.size := by obtain ⟨c, A, -⟩ := F; exact A.lt
theorem BArr.ext {Z : State} {h h' : Heap} {a : Addr} {n : Nat} {f : Nat → Int32} (F : BArr Z h a n f) (E : Ext h h') : BArr Z h' a n f := by obtain ⟨c, A, r⟩ := F; exact ⟨c, A.ext E, r⟩
theorem BArr.other {Z : State} {h h' : Heap} {a : Addr} {n : Nat} {f : Nat → Int32} {b : Addr} {sl : Nat} {v : Value} (F : BArr Z h b n f) (W : Wr h h' a sl v) (q : b ≠ a) : BArr Z h' b n f := by obtain ⟨c, A, r⟩ := F; exact ⟨c, A.other W q, r⟩
theorem BArr.keep {Z : State} {h h' : Heap} {a : Addr} {n : Nat} {f : Nat → Int32} {ws : List Addr} (F : BArr Z h a n f) (K : Keep h h' ws) (q : a ∉ ws) : BArr Z h' a n f := by obtain ⟨c, A, r⟩ := F; exact ⟨c, ⟨K.2.1 a c A.1 q, A.2⟩, r⟩
theorem BArr.new {Z : State} {h : Heap} {a : Addr} {k : ClassId} {z : Int32} {n : Nat} (A : Arr Z h a (newA k .byte z) .byte) (hz : z.toNatClampNeg = n) : BArr Z h a n (fun _ => 0) := by
  refine ⟨_, A, (sz_new _ _ _).trans hz, fun i hi => ?_⟩
  subst hz
  simp only [newA, Array.getElem?_replicate, if_pos hi]
  rfl
theorem BArr.set {Z : State} {h h' : Heap} {a : Addr} {n : Nat} {f : Nat → Int32} {c : Cell} {j : Int32} {x : Int32} (A : Arr Z h a c .byte) (hs : c.slots.size = n) (hat : ∀ i, i < n → c.slots[i]? = some (.int (f i))) (W : Wr h h' a j.toNatClampNeg (.int (nar .byte x))) {i : Nat} (hj : j.toNatClampNeg = i) : BArr Z h' a n (own_upd f i (x.toInt8.toInt32)) := by
  subst hj
  refine ⟨_, A.same W, (sz_set _ _ _).trans hs, fun i hi => ?_⟩
  simp only [Cell.setSlot, Array.getElem?_setIfInBounds, own_upd]
  by_cases q : j.toNatClampNeg = i
  · subst q
    rw [if_pos rfl, if_pos (by rw [hs]; exact hi), if_pos rfl]
    first | rfl | done
  · rw [if_neg q, if_neg (fun z => q z.symm)]
    exact hat i hi
theorem BArr.eq {Z : State} {h : Heap} {a : Addr} {n : Nat} {f : Nat → Int32} {g : Nat → Int32} (F : BArr Z h a n f) (q : f = g) : BArr Z h a n g := q ▸ F
theorem own_shr0 (x : Int32) : x >>> ((0 : Int32) &&& 31) = x := by
  rw [show (0 : Int32) &&& 31 = 0 from rfl]; exact Int32.shiftRight_zero
theorem own_i2cc {x y : Int32} (h : x.toUInt32.toUInt16.toUInt32.toInt32 = y) : y.toUInt32.toUInt16.toUInt32.toInt32 = y := by
  subst h
  have q := c_i2c x
  have r := c_i2c (x.toUInt32.toUInt16.toUInt32.toInt32)
  rw [← Int32.toInt_inj]
  omega
theorem own_ltn {a b : Nat} (ha : a < 1000) (hb : b < 1000) : Int32.ofNat a < Int32.ofNat b ↔ a < b := by
  rw [Int32.lt_iff_toInt_lt, toInt_of (n := Int32.ofNat a) rfl (by omega), toInt_of (n := Int32.ofNat b) rfl (by omega)]
  omega
theorem own_eqn {a b : Nat} (ha : a < 1000) (hb : b < 1000) : Int32.ofNat a = Int32.ofNat b ↔ a = b := by
  rw [← Int32.toInt_inj, toInt_of (n := Int32.ofNat a) rfl (by omega), toInt_of (n := Int32.ofNat b) rfl (by omega)]
  omega
theorem own_nonneg {n : Nat} (hn : n < 1000) : ¬ Int32.ofNat n < (0 : Int32) := by
  rw [Int32.lt_iff_toInt_lt, toInt_of rfl (by omega)]
  have z : (0 : Int32).toInt = 0 := by decide
  omega
theorem own_addn (a b : Nat) (ha : a < 1000) (hb : b < 1000) : Int32.ofNat a + Int32.ofNat b = Int32.ofNat (a + b) := by
  rw [← Int32.toInt_inj, toInt_of (n := Int32.ofNat (a + b)) rfl (by omega)]
  have q := c_iadd (Int32.ofNat a) (Int32.ofNat b)
  rw [toInt_of (n := Int32.ofNat a) rfl (by omega), toInt_of (n := Int32.ofNat b) rfl (by omega)] at q
  have r := rng32 (Int32.ofNat a + Int32.ofNat b)
  omega
theorem own_subn (a b : Nat) (h : b ≤ a) (ha : a < 1000) : Int32.ofNat a - Int32.ofNat b = Int32.ofNat (a - b) := by
  rw [← Int32.toInt_inj, toInt_of (n := Int32.ofNat (a - b)) rfl (by omega)]
  have q := c_isub (Int32.ofNat a) (Int32.ofNat b)
  rw [toInt_of (n := Int32.ofNat a) rfl (by omega), toInt_of (n := Int32.ofNat b) rfl (by omega)] at q
  have r := rng32 (Int32.ofNat a - Int32.ofNat b)
  omega
/-- an array that the library tells by its list -/
theorem own_barr {Z : State} {h : Heap} {a : Addr} {k : ClassId} {z : Int32} {bs : List Int32} {n : Nat} (F : Arv Z h a k .byte z (bs.map Value.int) (.int 0)) (hn : bs.length = n) (hz : z.toNatClampNeg = n) : BArr Z h a n (fun i => bs.getD i 0) := by
  obtain ⟨c, A, -, hs, -, hh, -⟩ := F
  refine ⟨c, A, hs.trans hz, fun i hi => ?_⟩
  have q := hh i (by rw [hs, hz]; exact hi)
  rw [q]
  simp [List.getD, List.getElem?_map]
theorem d3_0 : decode jdk_42_method_152_code 0 = .ok (.getstatic 38, 3) := by decide +kernel
theorem d3_3 : decode jdk_42_method_152_code 3 = .ok (.ifCond .eq 10, 3) := by decide +kernel
theorem d3_6 : decode jdk_42_method_152_code 6 = .ok (.aload_n 0, 1) := by decide +kernel
theorem d3_7 : decode jdk_42_method_152_code 7 = .ok (.getfield 15, 3) := by decide +kernel
theorem d3_10 : decode jdk_42_method_152_code 10 = .ok (.goto 4, 3) := by decide +kernel
theorem d3_13 : decode jdk_42_method_152_code 13 = .ok (.iconst 1, 1) := by decide +kernel
theorem d3_14 : decode jdk_42_method_152_code 14 = .ok (.ireturn, 1) := by decide +kernel
theorem pn_3 : plainName "java/lang/String" = true := by first | (simp [plainName, overriddenIn]; done) | decide +kernel
theorem ef_3_R (m : MethodId) (x0 : Addr) : entryFrame m #[(.ref x0)] 1 = mkF m 0 #[.val (.ref x0)] [] := by first | (simp [entryFrame, mkF, argsToLocals, Value.category]; done) | rfl
def Q_rmCod (Z : State) (a1 : Addr) (G1 : Int32) (h0 : Heap) (n0 : Nat) (v : Option Value) (h : Heap) (L : List Loc) : Prop := v = some (.int (0 : Int32)) ∧ Fr n0 L ∧ h = h0
set_option maxRecDepth 65536 in
set_option maxHeartbeats 40000000 in
theorem rmCod (l : Launch) (Z : State) (a0 : Array Value) (hw : ∀ d ∈ tables_1, d.before a0 Z = true) (ws : List Jvm.Cond) (a1 : Addr) (G1 : Int32) (h0 : Heap) (n0 : Nat) (Z0 : n0 ≤ h0.size) (O2 : Sta Z h0 "java/lang/String" "COMPACT_STRINGS" "Z" (.int G1)) (hG : ¬ G1 = (0 : Int32)) (F2 : Fld Z h0 a1 "java/lang/String" "coder" "B" (.int (0 : Int32))) :
    MetFree l (⟨"java/lang/String", "coder", "()B"⟩ : MethodName) (head1 (Jvm.Cond.code (⟨"java/lang/String", "coder", "()B"⟩ : MethodName) jdk_42_method_152_code 1 (some .byte) :: ws) ({ frames := 0, cells := 0, slots := 0, locals := 0 } : Room)) (fun a U => a = #[(.ref a1)] ∧ Z.Warmed39 U.vm ∧ U.heap = h0) (fun _ _ _ _ _ => True) (fun _ U o U' => ∃ v L, o = .returned v ∧ Q_rmCod Z a1 G1 h0 n0 v U'.heap L ∧ FrameEnd U o U' L ({ frames := 0, cells := 0, slots := 0, locals := 0 } : Room).cells ({ frames := 0, cells := 0, slots := 0, locals := 0 } : Room).slots) := by
  refine own_met (y := (⟨"java/lang/String", "coder", "()B"⟩ : MethodName)) (Q := (Q_rmCod Z a1 G1 h0 n0)) (plainFor_of_name pn_3) fun p e s m below meth c s₁ X0 hx hby hml hret hlk hown hnm hZ e0 => ?_
  refine own_entry (ef_3_R m a1) ?_
  obtain ⟨T1, X1, e1, st1⟩ := getS2 X0 hx hZ hown (host := "") (Or.inl (own_w hw 24 rfl)) Via.refl e0 O2 (g := (mkF m 0 #[.val (.ref a1)] [])) rfl (hb hby d3_0)
  refine own_to T1 (mkF m 7 #[.val (.ref a1)] [(.ref a1)]) (fun tq kq => st1 _ (XS.ifNo X1.here hx rfl (hb hby d3_3) rfl ((if0 _ _).trans (feq hG).1) (XS.aloadN X1.here hx rfl (hb hby d3_6) rfl rfl kq))) ?_
  obtain ⟨T2, X2, e2, st2⟩ := getF X1 hx hZ hown (host := "") (Or.inl (own_w hw 25 rfl)) Via.refl e1 F2 (g := (mkF m 7 #[.val (.ref a1)] [(.ref a1)])) rfl rfl (hb hby d3_7)
  refine own_to T2 (mkF m 14 #[.val (.ref a1)] [(.int (0 : Int32))]) (fun tq kq => st2 _ (XS.goto X2.here hx rfl (pc0 := 10) (pc' := 14) rfl (hb hby d3_10) (by decide) (by decide) kq)) ?_
  exact own_retB X2 hx hret hlk (hb hby d3_14) (by decide) (by decide) rfl ⟨rfl, (Fr.nil n0), e2⟩
theorem d2_0 : decode jdk_42_method_54_code 0 = .ok (.aload_n 0, 1) := by decide +kernel
theorem d2_1 : decode jdk_42_method_54_code 1 = .ok (.getfield 9, 3) := by decide +kernel
theorem d2_4 : decode jdk_42_method_54_code 4 = .ok (.arraylength, 1) := by decide +kernel
theorem d2_5 : decode jdk_42_method_54_code 5 = .ok (.aload_n 0, 1) := by decide +kernel
theorem d2_6 : decode jdk_42_method_54_code 6 = .ok (.invokevirtual 335, 3) := by decide +kernel
theorem d2_9 : decode jdk_42_method_54_code 9 = .ok (.ishr, 1) := by decide +kernel
theorem d2_10 : decode jdk_42_method_54_code 10 = .ok (.ireturn, 1) := by decide +kernel
theorem ef_2_R (m : MethodId) (x0 : Addr) : entryFrame m #[(.ref x0)] 1 = mkF m 0 #[.val (.ref x0)] [] := by first | (simp [entryFrame, mkF, argsToLocals, Value.category]; done) | rfl
def Q_rmLen (Z : State) (a1 t1 : Addr) (n : Nat) (f : Nat → Int32) (G1 : Int32) (h0 : Heap) (n0 : Nat) (v : Option Value) (h : Heap) (L : List Loc) : Prop := v = some (.int (Int32.ofNat n)) ∧ Fr n0 L ∧ h = h0
theorem pd_2 : parseMethodDescriptor "()B" = some ⟨[], some .byte⟩ := by decide +kernel
set_option maxRecDepth 65536 in
set_option maxHeartbeats 40000000 in
theorem rmLen (l : Launch) (Z : State) (a0 : Array Value) (hw : ∀ d ∈ tables_1, d.before a0 Z = true) (ws : List Jvm.Cond) (a1 t1 : Addr) (n : Nat) (f : Nat → Int32) (G1 : Int32) (h0 : Heap) (n0 : Nat) (Z0 : n0 ≤ h0.size) (O2 : Sta Z h0 "java/lang/String" "COMPACT_STRINGS" "Z" (.int G1)) (hG : ¬ G1 = (0 : Int32)) (E1 : Exa Z h0 a1 "java/lang/String") (F1 : Fld Z h0 a1 "java/lang/String" "value" "[B" (.ref t1)) (F2 : Fld Z h0 a1 "java/lang/String" "coder" "B" (.int (0 : Int32))) (A1 : BArr Z h0 t1 n f) :
    MetFree l (⟨"java/lang/String", "length", "()I"⟩ : MethodName) (head1 (Jvm.Cond.code (⟨"java/lang/String", "length", "()I"⟩ : MethodName) jdk_42_method_54_code 1 (some .int) :: ws) ({ frames := 1, cells := 0, slots := 0, locals := 13 } : Room)) (fun a U => a = #[(.ref a1)] ∧ Z.Warmed39 U.vm ∧ U.heap = h0) (fun _ _ _ _ _ => True) (fun _ U o U' => ∃ v L, o = .returned v ∧ Q_rmLen Z a1 t1 n f G1 h0 n0 v U'.heap L ∧ FrameEnd U o U' L ({ frames := 1, cells := 0, slots := 0, locals := 13 } : Room).cells ({ frames := 1, cells := 0, slots := 0, locals := 13 } : Room).slots) := by
  refine own_met (y := (⟨"java/lang/String", "length", "()I"⟩ : MethodName)) (Q := (Q_rmLen Z a1 t1 n f G1 h0 n0)) (plainFor_of_name pn_3) fun p e s m below meth c s₁ X0 hx hby hml hret hlk hown hnm hZ e0 => ?_
  refine own_entry (ef_2_R m a1) ?_
  obtain ⟨c1, Ar1, hsz1, hat1⟩ := A1
  refine own_to s₁ (mkF m 1 #[.val (.ref a1)] [(.ref a1)]) (fun tq kq => XS.aloadN X0.here hx rfl (hb hby d2_0) rfl rfl kq) ?_
  obtain ⟨T1, X1, e1, st1⟩ := getF X0 hx hZ hown (host := "") (Or.inl (own_w hw 18 rfl)) Via.refl e0 F1 (g := (mkF m 1 #[.val (.ref a1)] [(.ref a1)])) rfl rfl (hb hby d2_1)
  refine own_to T1 (mkF m 5 #[.val (.ref a1)] [(.int (c1.slots.size.toInt32))]) (fun tq kq => st1 _ (X1.arraylength hx (by rw [e1]; exact Ar1.1) (State.isArrayOf_alike hZ.alike Ar1.2.1) (g := (mkF m 4 #[.val (.ref a1)] [(.ref t1)])) rfl rfl (hb hby d2_4) _ kq)) ?_
  rw [show c1.slots.size.toInt32 = Int32.ofNat n from by rw [hsz1] <;> rfl]
  refine own_to T1 (mkF m 6 #[.val (.ref a1)] [(.ref a1), (.int (Int32.ofNat n))]) (fun tq kq => XS.aloadN X1.here hx rfl (hb hby d2_5) rfl rfl kq) ?_
  obtain ⟨cq2, kq2, q2a, q2b, q2c⟩ := isOf hZ e1 E1
  obtain ⟨_, _, ⟨T2, L2, k2, n2⟩, -, X2, ⟨Lc2, hQ2, l2, y2, z2⟩, st2⟩ := X1.virtualBack hx (y := (⟨"java/lang/String", "coder", "()B"⟩ : MethodName)) (z := (⟨"java/lang/String", "coder", "()B"⟩ : MethodName)) hown (mvT hZ (own_w hw 19 rfl)) (mvT hZ (own_w hw 20 rfl)) (notFace_of_selects (args := #[]) (mvT hZ (own_w hw 22 rfl))) (mvT hZ (own_w hw 22 rfl)) (mvT hZ (own_w hw 21 rfl)) (by decide) (backOf (W := 1) (rmCod l Z a0 hw [] a1 G1 h0 n0 Z0 O2 hG F2) hZ (own_w hw 23 rfl) (own_w hw 1 rfl) (by decide) (by decide)) q2a q2c (g := (mkF m 6 #[.val (.ref a1)] [(.ref a1), (.int (Int32.ofNat n))])) rfl (by rw [hml]; rfl) (Steps.refl _) (argsL := []) (rest := [(.int (Int32.ofNat n))]) (lenOf pd_2 rfl) rfl (by show 2 * 0 + _ ≤ _; exact Nat.le_of_eq rfl) (hb hby d2_6) (fun _ _ => ⟨rfl, e1, (by decide : 0 + 0 ≤ _), (by decide : 0 + 0 ≤ _)⟩)
  dsimp only [Pt.U, Pt.locs, Pt.cells, Pt.slots] at X2 l2 y2 z2 st2 hQ2
  have l2y := l2.symm
  clear l2
  subst l2y
  obtain rfl : k2 = 0 := y2
  obtain rfl : n2 = 0 := z2
  obtain ⟨rfl, N2q, e2⟩ := hQ2
  have N2 := Fr.app (Fr.nil n0) N2q
  refine own_to T2 (mkF m 10 #[.val (.ref a1)] [(.int ((Int32.ofNat n) >>> ((0 : Int32) &&& 31)))]) (fun tq kq => st2.trans (XS.ishr X2.here hx rfl (hb hby d2_9) rfl kq)) ?_
  rw [show ((Int32.ofNat n) >>> ((0 : Int32) &&& 31)) = (Int32.ofNat n) from own_shr0 _]
  exact own_retI X2 hx hret hlk (hb hby d2_10) (by decide) (by decide) ⟨rfl, N2, e2⟩
theorem d5_0 : decode jdk_42_method_154_code 0 = .ok (.getstatic 38, 3) := by decide +kernel
theorem d5_3 : decode jdk_42_method_154_code 3 = .ok (.ifCond .eq 14, 3) := by decide +kernel
theorem d5_6 : decode jdk_42_method_154_code 6 = .ok (.aload_n 0, 1) := by decide +kernel
theorem d5_7 : decode jdk_42_method_154_code 7 = .ok (.getfield 15, 3) := by decide +kernel
theorem d5_10 : decode jdk_42_method_154_code 10 = .ok (.ifCond .ne 7, 3) := by decide +kernel
theorem d5_13 : decode jdk_42_method_154_code 13 = .ok (.iconst 1, 1) := by decide +kernel
theorem d5_14 : decode jdk_42_method_154_code 14 = .ok (.goto 4, 3) := by decide +kernel
theorem d5_17 : decode jdk_42_method_154_code 17 = .ok (.iconst 0, 1) := by decide +kernel
theorem d5_18 : decode jdk_42_method_154_code 18 = .ok (.ireturn, 1) := by decide +kernel
theorem ef_5_R (m : MethodId) (x0 : Addr) : entryFrame m #[(.ref x0)] 1 = mkF m 0 #[.val (.ref x0)] [] := by first | (simp [entryFrame, mkF, argsToLocals, Value.category]; done) | rfl
def Q_rmLat (Z : State) (a1 : Addr) (G1 : Int32) (h0 : Heap) (n0 : Nat) (v : Option Value) (h : Heap) (L : List Loc) : Prop := v = some (.int (1 : Int32)) ∧ Fr n0 L ∧ h = h0
set_option maxRecDepth 65536 in
set_option maxHeartbeats 40000000 in
theorem rmLat (l : Launch) (Z : State) (a0 : Array Value) (hw : ∀ d ∈ tables_1, d.before a0 Z = true) (ws : List Jvm.Cond) (a1 : Addr) (G1 : Int32) (h0 : Heap) (n0 : Nat) (Z0 : n0 ≤ h0.size) (O2 : Sta Z h0 "java/lang/String" "COMPACT_STRINGS" "Z" (.int G1)) (hG : ¬ G1 = (0 : Int32)) (F2 : Fld Z h0 a1 "java/lang/String" "coder" "B" (.int (0 : Int32))) :
    MetFree l (⟨"java/lang/String", "isLatin1", "()Z"⟩ : MethodName) (head1 (Jvm.Cond.code (⟨"java/lang/String", "isLatin1", "()Z"⟩ : MethodName) jdk_42_method_154_code 1 (some .boolean) :: ws) ({ frames := 0, cells := 0, slots := 0, locals := 0 } : Room)) (fun a U => a = #[(.ref a1)] ∧ Z.Warmed39 U.vm ∧ U.heap = h0) (fun _ _ _ _ _ => True) (fun _ U o U' => ∃ v L, o = .returned v ∧ Q_rmLat Z a1 G1 h0 n0 v U'.heap L ∧ FrameEnd U o U' L ({ frames := 0, cells := 0, slots := 0, locals := 0 } : Room).cells ({ frames := 0, cells := 0, slots := 0, locals := 0 } : Room).slots) := by
  refine own_met (y := (⟨"java/lang/String", "isLatin1", "()Z"⟩ : MethodName)) (Q := (Q_rmLat Z a1 G1 h0 n0)) (plainFor_of_name pn_3) fun p e s m below meth c s₁ X0 hx hby hml hret hlk hown hnm hZ e0 => ?_
  refine own_entry (ef_5_R m a1) ?_
  obtain ⟨T1, X1, e1, st1⟩ := getS2 X0 hx hZ hown (host := "") (Or.inl (own_w hw 24 rfl)) Via.refl e0 O2 (g := (mkF m 0 #[.val (.ref a1)] [])) rfl (hb hby d5_0)
  refine own_to T1 (mkF m 7 #[.val (.ref a1)] [(.ref a1)]) (fun tq kq => st1 _ (XS.ifNo X1.here hx rfl (hb hby d5_3) rfl ((if0 _ _).trans (feq hG).1) (XS.aloadN X1.here hx rfl (hb hby d5_6) rfl rfl kq))) ?_
  obtain ⟨T2, X2, e2, st2⟩ := getF X1 hx hZ hown (host := "") (Or.inl (own_w hw 25 rfl)) Via.refl e1 F2 (g := (mkF m 7 #[.val (.ref a1)] [(.ref a1)])) rfl rfl (hb hby d5_7)
  refine own_to T2 (mkF m 18 #[.val (.ref a1)] [(.int (1 : Int32))]) (fun tq kq => st2 _ (XS.ifNo X2.here hx rfl (hb hby d5_10) rfl ((if0 _ _).trans (teq (by decide : (0 : Int32) = (0 : Int32))).2) (XS.iconst X2.here hx rfl (hb hby d5_13) (XS.goto X2.here hx rfl (pc0 := 14) (pc' := 18) rfl (hb hby d5_14) (by decide) (by decide) kq)))) ?_
  exact own_retZ X2 hx hret hlk (hb hby d5_18) (by decide) (by decide) (Or.inr rfl) ⟨rfl, (Fr.nil n0), e2⟩
theorem d8_0 : decode jdk_41_method_11_code 0 = .ok (.iload_n 0, 1) := by decide +kernel
theorem d8_1 : decode jdk_41_method_11_code 1 = .ok (.ifCond .lt 8, 3) := by decide +kernel
theorem d8_4 : decode jdk_41_method_11_code 4 = .ok (.iload_n 0, 1) := by decide +kernel
theorem d8_5 : decode jdk_41_method_11_code 5 = .ok (.iload_n 1, 1) := by decide +kernel
theorem d8_6 : decode jdk_41_method_11_code 6 = .ok (.if_icmp .lt 10, 3) := by decide +kernel
theorem d8_9 : decode jdk_41_method_11_code 9 = .ok (.aload_n 2, 1) := by decide +kernel
theorem d8_10 : decode jdk_41_method_11_code 10 = .ok (.iload_n 0, 1) := by decide +kernel
theorem d8_11 : decode jdk_41_method_11_code 11 = .ok (.iload_n 1, 1) := by decide +kernel
theorem d8_12 : decode jdk_41_method_11_code 12 = .ok (.invokestatic 95, 3) := by decide +kernel
theorem d8_16 : decode jdk_41_method_11_code 16 = .ok (.iload_n 0, 1) := by decide +kernel
theorem d8_17 : decode jdk_41_method_11_code 17 = .ok (.ireturn, 1) := by decide +kernel
theorem pn_8 : plainName "jdk/internal/util/Preconditions" = true := by first | (simp [plainName, overriddenIn]; done) | decide +kernel
theorem ef_8_IIV (m : MethodId) (x0 : Int32) (x1 : Int32) (x2 : Value) (hx2 : x2.category = 1) : entryFrame m #[(.int x0), (.int x1), x2] 3 = mkF m 0 #[.val (.int x0), .val (.int x1), .val x2] [] := by first | (simp [entryFrame, mkF, argsToLocals, Value.category]; done) | rfl | (cases x2 <;> first | (cases hx2; done) | skip <;> rfl)
def Q_rmPC (Z : State) (i n : Nat) (vF : Value) (h0 : Heap) (n0 : Nat) (v : Option Value) (h : Heap) (L : List Loc) : Prop := v = some (.int (Int32.ofNat i)) ∧ Fr n0 L ∧ h = h0
set_option maxRecDepth 65536 in
set_option maxHeartbeats 40000000 in
theorem rmPC (l : Launch) (Z : State) (a0 : Array Value) (hw : ∀ d ∈ tables_1, d.before a0 Z = true) (ws : List Jvm.Cond) (i n : Nat) (vF : Value) (h0 : Heap) (n0 : Nat) (Z0 : n0 ≤ h0.size) (hvF : vF.isRef = true) (hi : i < n) (hn : n < 1000) :
    MetFree l (⟨"jdk/internal/util/Preconditions", "checkIndex", "(IILjava/util/function/BiFunction;)I"⟩ : MethodName) (head1 (Jvm.Cond.code (⟨"jdk/internal/util/Preconditions", "checkIndex", "(IILjava/util/function/BiFunction;)I"⟩ : MethodName) jdk_41_method_11_code 3 (some .int) :: ws) ({ frames := 0, cells := 0, slots := 0, locals := 0 } : Room)) (fun a U => a = #[(.int (Int32.ofNat i)), (.int (Int32.ofNat n)), vF] ∧ Z.Warmed39 U.vm ∧ U.heap = h0) (fun _ _ _ _ _ => True) (fun _ U o U' => ∃ v L, o = .returned v ∧ Q_rmPC Z i n vF h0 n0 v U'.heap L ∧ FrameEnd U o U' L ({ frames := 0, cells := 0, slots := 0, locals := 0 } : Room).cells ({ frames := 0, cells := 0, slots := 0, locals := 0 } : Room).slots) := by
  refine own_met (y := (⟨"jdk/internal/util/Preconditions", "checkIndex", "(IILjava/util/function/BiFunction;)I"⟩ : MethodName)) (Q := (Q_rmPC Z i n vF h0 n0)) (plainFor_of_name pn_8) fun p e s m below meth c s₁ X0 hx hby hml hret hlk hown hnm hZ e0 => ?_
  refine own_entry (ef_8_IIV m (Int32.ofNat i) (Int32.ofNat n) vF (own_cat1 hvF)) ?_
  refine own_to s₁ (mkF m 17 #[.val (.int (Int32.ofNat i)), .val (.int (Int32.ofNat n)), .val vF] [(.int (Int32.ofNat i))]) (fun tq kq => XS.iloadN X0.here hx rfl (hb hby d8_0) rfl (XS.ifNo X0.here hx rfl (hb hby d8_1) rfl ((if0 _ _).trans (flt (own_nonneg (by omega))).1) (XS.iloadN X0.here hx rfl (hb hby d8_4) rfl (XS.iloadN X0.here hx rfl (hb hby d8_5) rfl (XS.icmpYes X0.here hx rfl (pc0 := 6) (pc' := 16) rfl (hb hby d8_6) rfl (tlt ((own_ltn (by omega) (by omega)).mpr hi)).1 (by decide) (by decide) (XS.iloadN X0.here hx rfl (hb hby d8_16) rfl kq)))))) ?_
  exact own_retI X0 hx hret hlk (hb hby d8_17) (by decide) (by decide) ⟨rfl, (Fr.nil n0), e0⟩
theorem d7_0 : decode jdk_42_method_155_code 0 = .ok (.iload_n 0, 1) := by decide +kernel
theorem d7_1 : decode jdk_42_method_155_code 1 = .ok (.iload_n 1, 1) := by decide +kernel
theorem d7_2 : decode jdk_42_method_155_code 2 = .ok (.getstatic 1053, 3) := by decide +kernel
theorem d7_5 : decode jdk_42_method_155_code 5 = .ok (.invokestatic 1059, 3) := by decide +kernel
theorem d7_8 : decode jdk_42_method_155_code 8 = .ok (.pop, 1) := by decide +kernel
theorem d7_9 : decode jdk_42_method_155_code 9 = .ok (.return_, 1) := by decide +kernel
theorem ef_7_II (m : MethodId) (x0 : Int32) (x1 : Int32) : entryFrame m #[(.int x0), (.int x1)] 2 = mkF m 0 #[.val (.int x0), .val (.int x1)] [] := by first | (simp [entryFrame, mkF, argsToLocals, Value.category]; done) | rfl
def Q_rmCI (Z : State) (i n : Nat) (vF : Value) (h0 : Heap) (n0 : Nat) (v : Option Value) (h : Heap) (L : List Loc) : Prop := v = none ∧ Fr n0 L ∧ h = h0
theorem pd_7 : parseMethodDescriptor "(IILjava/util/function/BiFunction;)I" = some ⟨[.int, .int, (.object "java/util/function/BiFunction")], some .int⟩ := by decide +kernel
set_option maxRecDepth 65536 in
set_option maxHeartbeats 40000000 in
theorem rmCI (l : Launch) (Z : State) (a0 : Array Value) (hw : ∀ d ∈ tables_1, d.before a0 Z = true) (ws : List Jvm.Cond) (i n : Nat) (vF : Value) (h0 : Heap) (n0 : Nat) (Z0 : n0 ≤ h0.size) (O4 : Sta Z h0 "jdk/internal/util/Preconditions" "SIOOBE_FORMATTER" "Ljava/util/function/BiFunction;" vF) (hvF : vF.isRef = true) (hi : i < n) (hn : n < 1000) :
    MetFree l (⟨"java/lang/String", "checkIndex", "(II)V"⟩ : MethodName) (head1 (Jvm.Cond.code (⟨"java/lang/String", "checkIndex", "(II)V"⟩ : MethodName) jdk_42_method_155_code 2 none :: ws) ({ frames := 1, cells := 0, slots := 0, locals := 14 } : Room)) (fun a U => a = #[(.int (Int32.ofNat i)), (.int (Int32.ofNat n))] ∧ Z.Warmed39 U.vm ∧ U.heap = h0) (fun _ _ _ _ _ => True) (fun _ U o U' => ∃ v L, o = .returned v ∧ Q_rmCI Z i n vF h0 n0 v U'.heap L ∧ FrameEnd U o U' L ({ frames := 1, cells := 0, slots := 0, locals := 14 } : Room).cells ({ frames := 1, cells := 0, slots := 0, locals := 14 } : Room).slots) := by
  refine own_met (y := (⟨"java/lang/String", "checkIndex", "(II)V"⟩ : MethodName)) (Q := (Q_rmCI Z i n vF h0 n0)) (plainFor_of_name pn_3) fun p e s m below meth c s₁ X0 hx hby hml hret hlk hown hnm hZ e0 => ?_
  refine own_entry (ef_7_II m (Int32.ofNat i) (Int32.ofNat n)) ?_
  refine own_to s₁ (mkF m 2 #[.val (.int (Int32.ofNat i)), .val (.int (Int32.ofNat n))] [(.int (Int32.ofNat n)), (.int (Int32.ofNat i))]) (fun tq kq => XS.iloadN X0.here hx rfl (hb hby d7_0) rfl (XS.iloadN X0.here hx rfl (hb hby d7_1) rfl kq)) ?_
  obtain ⟨T1, X1, e1, st1⟩ := getS2 X0 hx hZ hown (host := "") (Or.inl (own_w hw 43 rfl)) Via.refl e0 O4 (g := (mkF m 2 #[.val (.int (Int32.ofNat i)), .val (.int (Int32.ofNat n))] [(.int (Int32.ofNat n)), (.int (Int32.ofNat i))])) rfl (hb hby d7_2)
  refine own_to T1 (mkF m 5 #[.val (.int (Int32.ofNat i)), .val (.int (Int32.ofNat n))] [vF, (.int (Int32.ofNat n)), (.int (Int32.ofNat i))]) (fun tq kq => st1 _ kq) ?_
  obtain ⟨_, _, ⟨T2, L2, k2, n2⟩, -, X2, ⟨Lc2, hQ2, l2, y2, z2⟩, st2⟩ := Jvm.LawKit.callS X1 hx (y := (⟨"jdk/internal/util/Preconditions", "checkIndex", "(IILjava/util/function/BiFunction;)I"⟩ : MethodName)) hown (mvT hZ (own_w hw 45 rfl)) (mvT hZ (own_w hw 46 rfl)) (mvT hZ (own_w hw 44 rfl)) (mvT hZ (own_w hw 47 rfl)) (by decide) (backOf (W := 0) (rmPC l Z a0 hw [] i n vF h0 n0 Z0 hvF hi hn) hZ (own_w hw 47 rfl) (own_w hw 44 rfl) (by decide) (by decide)) (g := (mkF m 5 #[.val (.int (Int32.ofNat i)), .val (.int (Int32.ofNat n))] [vF, (.int (Int32.ofNat n)), (.int (Int32.ofNat i))])) rfl (by rw [hml]; rfl) (argsL := [(.int (Int32.ofNat i)), (.int (Int32.ofNat n)), vF]) (rest := []) (lenOf pd_7 rfl) rfl (by show 2 * 0 + _ ≤ _; exact Nat.le_of_eq rfl) (hb hby d7_5) (fun _ _ => ⟨rfl, e1, (by decide : 0 + 0 ≤ _), (by decide : 0 + 0 ≤ _)⟩)
  dsimp only [Pt.U, Pt.locs, Pt.cells, Pt.slots] at X2 l2 y2 z2 st2 hQ2
  have l2y := l2.symm
  clear l2
  subst l2y
  obtain rfl : k2 = 0 := y2
  obtain rfl : n2 = 0 := z2
  obtain ⟨rfl, N2q, e2⟩ := hQ2
  have N2 := Fr.app (Fr.nil n0) N2q
  refine own_to T2 (mkF m 9 #[.val (.int (Int32.ofNat i)), .val (.int (Int32.ofNat n))] []) (fun tq kq => st2 _ (XS.pop X2.here hx rfl (hb hby d7_8) rfl rfl kq)) ?_
  exact own_retV X2 hx hret hlk (hb hby d7_9) (by decide) (by decide) ⟨rfl, N2, e2⟩
theorem d6_0 : decode jdk_43_method_2_code 0 = .ok (.iload_n 1, 1) := by decide +kernel
theorem d6_1 : decode jdk_43_method_2_code 1 = .ok (.aload_n 0, 1) := by decide +kernel
theorem d6_2 : decode jdk_43_method_2_code 2 = .ok (.arraylength, 1) := by decide +kernel
theorem d6_3 : decode jdk_43_method_2_code 3 = .ok (.invokestatic 9, 3) := by decide +kernel
theorem d6_6 : decode jdk_43_method_2_code 6 = .ok (.aload_n 0, 1) := by decide +kernel
theorem d6_7 : decode jdk_43_method_2_code 7 = .ok (.iload_n 1, 1) := by decide +kernel
theorem d6_8 : decode jdk_43_method_2_code 8 = .ok (.baload, 1) := by decide +kernel
theorem d6_9 : decode jdk_43_method_2_code 9 = .ok (.sipush 255, 3) := by decide +kernel
theorem d6_12 : decode jdk_43_method_2_code 12 = .ok (.iand, 1) := by decide +kernel
theorem d6_13 : decode jdk_43_method_2_code 13 = .ok (.i2c, 1) := by decide +kernel
theorem d6_14 : decode jdk_43_method_2_code 14 = .ok (.ireturn, 1) := by decide +kernel
theorem pn_6 : plainName "java/lang/StringLatin1" = true := by first | (simp [plainName, overriddenIn]; done) | decide +kernel
theorem ef_6_RI (m : MethodId) (x0 : Addr) (x1 : Int32) : entryFrame m #[(.ref x0), (.int x1)] 2 = mkF m 0 #[.val (.ref x0), .val (.int x1)] [] := by first | (simp [entryFrame, mkF, argsToLocals, Value.category]; done) | rfl
def Q_rmChL (Z : State) (t1 : Addr) (i n : Nat) (f : Nat → Int32) (y : Int32) (vF : Value) (h0 : Heap) (n0 : Nat) (v : Option Value) (h : Heap) (L : List Loc) : Prop := v = some (.int y) ∧ Fr n0 L ∧ h = h0
theorem pd_6 : parseMethodDescriptor "(II)V" = some ⟨[.int, .int], none⟩ := by decide +kernel
set_option maxRecDepth 65536 in
set_option maxHeartbeats 40000000 in
theorem rmChL (l : Launch) (Z : State) (a0 : Array Value) (hw : ∀ d ∈ tables_1, d.before a0 Z = true) (ws : List Jvm.Cond) (t1 : Addr) (i n : Nat) (f : Nat → Int32) (y : Int32) (vF : Value) (h0 : Heap) (n0 : Nat) (Z0 : n0 ≤ h0.size) (O4 : Sta Z h0 "jdk/internal/util/Preconditions" "SIOOBE_FORMATTER" "Ljava/util/function/BiFunction;" vF) (hvF : vF.isRef = true) (A1 : BArr Z h0 t1 n f) (hi : i < n) (hn : n < 1000) (hy : ((f i &&& (255 : Int32)).toUInt32.toUInt16.toUInt32.toInt32) = y) :
    MetFree l (⟨"java/lang/StringLatin1", "charAt", "([BI)C"⟩ : MethodName) (head1 (Jvm.Cond.code (⟨"java/lang/StringLatin1", "charAt", "([BI)C"⟩ : MethodName) jdk_43_method_2_code 2 (some .char) :: ws) ({ frames := 2, cells := 0, slots := 0, locals := 27 } : Room)) (fun a U => a = #[(.ref t1), (.int (Int32.ofNat i))] ∧ Z.Warmed39 U.vm ∧ U.heap = h0) (fun _ _ _ _ _ => True) (fun _ U o U' => ∃ v L, o = .returned v ∧ Q_rmChL Z t1 i n f y vF h0 n0 v U'.heap L ∧ FrameEnd U o U' L ({ frames := 2, cells := 0, slots := 0, locals := 27 } : Room).cells ({ frames := 2, cells := 0, slots := 0, locals := 27 } : Room).slots) := by
  refine own_met (y := (⟨"java/lang/StringLatin1", "charAt", "([BI)C"⟩ : MethodName)) (Q := (Q_rmChL Z t1 i n f y vF h0 n0)) (plainFor_of_name pn_6) fun p e s m below meth c s₁ X0 hx hby hml hret hlk hown hnm hZ e0 => ?_
  refine own_entry (ef_6_RI m t1 (Int32.ofNat i)) ?_
  obtain ⟨c1, Ar1, hsz1, hat1⟩ := A1
  have hin1 : ¬ ((Int32.ofNat i) < 0 ∨ c1.slots.size ≤ (Int32.ofNat i).toNatClampNeg) := by rw [hsz1]; exact within rfl hi (by omega)
  have hat2 : c1.slots[(Int32.ofNat i).toNatClampNeg]? = some (.int (f i)) := by rw [clamp_of rfl (by omega)]; exact hat1 _ hi
  refine own_to s₁ (mkF m 3 #[.val (.ref t1), .val (.int (Int32.ofNat i))] [(.int (c1.slots.size.toInt32)), (.int (Int32.ofNat i))]) (fun tq kq => XS.iloadN X0.here hx rfl (hb hby d6_0) rfl (XS.aloadN X0.here hx rfl (hb hby d6_1) rfl rfl (X0.arraylength hx (by rw [e0]; exact Ar1.1) (State.isArrayOf_alike hZ.alike Ar1.2.1) (g := (mkF m 2 #[.val (.ref t1), .val (.int (Int32.ofNat i))] [(.ref t1), (.int (Int32.ofNat i))])) rfl rfl (hb hby d6_2) _ kq))) ?_
  rw [show c1.slots.size.toInt32 = Int32.ofNat n from by rw [hsz1] <;> rfl]
  obtain ⟨_, _, ⟨T1, L1, k1, n1⟩, -, X1, ⟨Lc1, hQ1, l1, y1, z1⟩, st1⟩ := Jvm.LawKit.callS X0 hx (y := (⟨"java/lang/String", "checkIndex", "(II)V"⟩ : MethodName)) hown (mvT hZ (own_w hw 40 rfl)) (mvT hZ (own_w hw 41 rfl)) (mvT hZ (own_w hw 1 rfl)) (mvT hZ (own_w hw 42 rfl)) (by decide) (backOf (W := 0) (rmCI l Z a0 hw [] i n vF h0 n0 Z0 O4 hvF hi hn) hZ (own_w hw 42 rfl) (own_w hw 1 rfl) (by decide) (by decide)) (g := (mkF m 3 #[.val (.ref t1), .val (.int (Int32.ofNat i))] [(.int (Int32.ofNat n)), (.int (Int32.ofNat i))])) rfl (by rw [hml]; rfl) (argsL := [(.int (Int32.ofNat i)), (.int (Int32.ofNat n))]) (rest := []) (lenOf pd_6 rfl) rfl (by show 2 * 0 + _ ≤ _; exact Nat.le_of_eq rfl) (hb hby d6_3) (fun _ _ => ⟨rfl, e0, (by decide : 0 + 0 ≤ _), (by decide : 0 + 0 ≤ _)⟩)
  dsimp only [Pt.U, Pt.locs, Pt.cells, Pt.slots] at X1 l1 y1 z1 st1 hQ1
  have l1y := l1.symm
  clear l1
  subst l1y
  obtain rfl : k1 = 0 := y1
  obtain rfl : n1 = 0 := z1
  obtain ⟨rfl, N1q, e1⟩ := hQ1
  have N1 := Fr.app (Fr.nil n0) N1q
  refine own_to T1 (mkF m 14 #[.val (.ref t1), .val (.int (Int32.ofNat i))] [(.int (((f i) &&& (255 : Int32)).toUInt32.toUInt16.toUInt32.toInt32))]) (fun tq kq => st1 _ (XS.aloadN X1.here hx rfl (hb hby d6_6) rfl rfl (XS.iloadN X1.here hx rfl (hb hby d6_7) rfl (X1.baloadBytes hx (j := (Int32.ofNat i)) (v := (.int (f i))) (by rw [e1]; exact Ar1.1) (State.isArrayOf_alike hZ.alike Ar1.2.1) Ar1.2.2 hin1 hat2 (g := (mkF m 8 #[.val (.ref t1), .val (.int (Int32.ofNat i))] [(.int (Int32.ofNat i)), (.ref t1)])) rfl rfl (hb hby d6_8) _ (XS.sipush X1.here hx rfl (hb hby d6_9) (XS.iand X1.here hx rfl (hb hby d6_12) rfl (XS.i2c X1.here hx rfl (hb hby d6_13) rfl kq))))))) ?_
  rw [show (((f i) &&& (255 : Int32)).toUInt32.toUInt16.toUInt32.toInt32) = y from hy]
  exact own_retC X1 hx hret hlk (hb hby d6_14) (by decide) (by decide) (own_i2cc hy) ⟨rfl, N1, e1⟩
theorem d4_0 : decode jdk_42_method_56_code 0 = .ok (.aload_n 0, 1) := by decide +kernel
theorem d4_1 : decode jdk_42_method_56_code 1 = .ok (.invokevirtual 492, 3) := by decide +kernel
theorem d4_4 : decode jdk_42_method_56_code 4 = .ok (.ifCond .eq 12, 3) := by decide +kernel
theorem d4_7 : decode jdk_42_method_56_code 7 = .ok (.aload_n 0, 1) := by decide +kernel
theorem d4_8 : decode jdk_42_method_56_code 8 = .ok (.getfield 9, 3) := by decide +kernel
theorem d4_11 : decode jdk_42_method_56_code 11 = .ok (.iload_n 1, 1) := by decide +kernel
theorem d4_12 : decode jdk_42_method_56_code 12 = .ok (.invokestatic 495, 3) := by decide +kernel
theorem d4_15 : decode jdk_42_method_56_code 15 = .ok (.ireturn, 1) := by decide +kernel
theorem d4_16 : decode jdk_42_method_56_code 16 = .ok (.aload_n 0, 1) := by decide +kernel
theorem d4_17 : decode jdk_42_method_56_code 17 = .ok (.getfield 9, 3) := by decide +kernel
theorem d4_20 : decode jdk_42_method_56_code 20 = .ok (.iload_n 1, 1) := by decide +kernel
theorem d4_21 : decode jdk_42_method_56_code 21 = .ok (.invokestatic 498, 3) := by decide +kernel
theorem d4_24 : decode jdk_42_method_56_code 24 = .ok (.ireturn, 1) := by decide +kernel
theorem ef_4_RI (m : MethodId) (x0 : Addr) (x1 : Int32) : entryFrame m #[(.ref x0), (.int x1)] 2 = mkF m 0 #[.val (.ref x0), .val (.int x1)] [] := by first | (simp [entryFrame, mkF, argsToLocals, Value.category]; done) | rfl
def Q_rmCh (Z : State) (a1 t1 : Addr) (i n : Nat) (f : Nat → Int32) (y G1 : Int32) (vF : Value) (h0 : Heap) (n0 : Nat) (v : Option Value) (h : Heap) (L : List Loc) : Prop := v = some (.int y) ∧ Fr n0 L ∧ h = h0
theorem pd_4 : parseMethodDescriptor "()Z" = some ⟨[], some .boolean⟩ := by decide +kernel
theorem pd_5 : parseMethodDescriptor "([BI)C" = some ⟨[(.array .byte), .int], some .char⟩ := by decide +kernel
set_option maxRecDepth 65536 in
set_option maxHeartbeats 40000000 in
theorem rmCh (l : Launch) (Z : State) (a0 : Array Value) (hw : ∀ d ∈ tables_1, d.before a0 Z = true) (ws : List Jvm.Cond) (a1 t1 : Addr) (i n : Nat) (f : Nat → Int32) (y G1 : Int32) (vF : Value) (h0 : Heap) (n0 : Nat) (Z0 : n0 ≤ h0.size) (O2 : Sta Z h0 "java/lang/String" "COMPACT_STRINGS" "Z" (.int G1)) (hG : ¬ G1 = (0 : Int32)) (O4 : Sta Z h0 "jdk/internal/util/Preconditions" "SIOOBE_FORMATTER" "Ljava/util/function/BiFunction;" vF) (hvF : vF.isRef = true) (E1 : Exa Z h0 a1 "java/lang/String") (F1 : Fld Z h0 a1 "java/lang/String" "value" "[B" (.ref t1)) (F2 : Fld Z h0 a1 "java/lang/String" "coder" "B" (.int (0 : Int32))) (A1 : BArr Z h0 t1 n f) (hi : i < n) (hn : n < 1000) (hy : ((f i &&& (255 : Int32)).toUInt32.toUInt16.toUInt32.toInt32) = y) :
    MetFree l (⟨"java/lang/String", "charAt", "(I)C"⟩ : MethodName) (head1 (Jvm.Cond.code (⟨"java/lang/String", "charAt", "(I)C"⟩ : MethodName) jdk_42_method_56_code 2 (some .char) :: ws) ({ frames := 3, cells := 0, slots := 0, locals := 40 } : Room)) (fun a U => a = #[(.ref a1), (.int (Int32.ofNat i))] ∧ Z.Warmed39 U.vm ∧ U.heap = h0) (fun _ _ _ _ _ => True) (fun _ U o U' => ∃ v L, o = .returned v ∧ Q_rmCh Z a1 t1 i n f y G1 vF h0 n0 v U'.heap L ∧ FrameEnd U o U' L ({ frames := 3, cells := 0, slots := 0, locals := 40 } : Room).cells ({ frames := 3, cells := 0, slots := 0, locals := 40 } : Room).slots) := by
  refine own_met (y := (⟨"java/lang/String", "charAt", "(I)C"⟩ : MethodName)) (Q := (Q_rmCh Z a1 t1 i n f y G1 vF h0 n0)) (plainFor_of_name pn_3) fun p e s m below meth c s₁ X0 hx hby hml hret hlk hown hnm hZ e0 => ?_
  refine own_entry (ef_4_RI m a1 (Int32.ofNat i)) ?_
  refine own_to s₁ (mkF m 1 #[.val (.ref a1), .val (.int (Int32.ofNat i))] [(.ref a1)]) (fun tq kq => XS.aloadN X0.here hx rfl (hb hby d4_0) rfl rfl kq) ?_
  obtain ⟨cq1, kq1, q1a, q1b, q1c⟩ := isOf hZ e0 E1
  obtain ⟨_, _, ⟨T1, L1, k1, n1⟩, -, X1, ⟨Lc1, hQ1, l1, y1, z1⟩, st1⟩ := X0.virtualBack hx (y := (⟨"java/lang/String", "isLatin1", "()Z"⟩ : MethodName)) (z := (⟨"java/lang/String", "isLatin1", "()Z"⟩ : MethodName)) hown (mvT hZ (own_w hw 31 rfl)) (mvT hZ (own_w hw 32 rfl)) (notFace_of_selects (args := #[]) (mvT hZ (own_w hw 34 rfl))) (mvT hZ (own_w hw 34 rfl)) (mvT hZ (own_w hw 33 rfl)) (by decide) (backOf (W := 0) (rmLat l Z a0 hw [] a1 G1 h0 n0 Z0 O2 hG F2) hZ (own_w hw 35 rfl) (own_w hw 1 rfl) (by decide) (by decide)) q1a q1c (g := (mkF m 1 #[.val (.ref a1), .val (.int (Int32.ofNat i))] [(.ref a1)])) rfl (by rw [hml]; rfl) (Steps.refl _) (argsL := []) (rest := []) (lenOf pd_4 rfl) rfl (by show 2 * 0 + _ ≤ _; exact Nat.le_of_eq rfl) (hb hby d4_1) (fun _ _ => ⟨rfl, e0, (by decide : 0 + 0 ≤ _), (by decide : 0 + 0 ≤ _)⟩)
  dsimp only [Pt.U, Pt.locs, Pt.cells, Pt.slots] at X1 l1 y1 z1 st1 hQ1
  have l1y := l1.symm
  clear l1
  subst l1y
  obtain rfl : k1 = 0 := y1
  obtain rfl : n1 = 0 := z1
  obtain ⟨rfl, N1q, e1⟩ := hQ1
  have N1 := Fr.app (Fr.nil n0) N1q
  refine own_to T1 (mkF m 8 #[.val (.ref a1), .val (.int (Int32.ofNat i))] [(.ref a1)]) (fun tq kq => st1.trans (XS.ifNo X1.here hx rfl (hb hby d4_4) rfl ((if0 _ _).trans (feq (by decide : ¬ ((1 : Int32) = (0 : Int32)))).1) (XS.aloadN X1.here hx rfl (hb hby d4_7) rfl rfl kq))) ?_
  obtain ⟨T2, X2, e2, st2⟩ := getF X1 hx hZ hown (host := "") (Or.inl (own_w hw 18 rfl)) Via.refl e1 F1 (g := (mkF m 8 #[.val (.ref a1), .val (.int (Int32.ofNat i))] [(.ref a1)])) rfl rfl (hb hby d4_8)
  refine own_to T2 (mkF m 12 #[.val (.ref a1), .val (.int (Int32.ofNat i))] [(.int (Int32.ofNat i)), (.ref t1)]) (fun tq kq => st2 _ (XS.iloadN X2.here hx rfl (hb hby d4_11) rfl kq)) ?_
  obtain ⟨_, _, ⟨T3, L3, k3, n3⟩, -, X3, ⟨Lc3, hQ3, l3, y3, z3⟩, st3⟩ := Jvm.LawKit.callS X2 hx (y := (⟨"java/lang/StringLatin1", "charAt", "([BI)C"⟩ : MethodName)) hown (mvT hZ (own_w hw 36 rfl)) (mvT hZ (own_w hw 37 rfl)) (mvT hZ (own_w hw 38 rfl)) (mvT hZ (own_w hw 39 rfl)) (by decide) (backOf (W := 0) (rmChL l Z a0 hw [] t1 i n f y vF h0 n0 Z0 O4 hvF A1 hi hn hy) hZ (own_w hw 39 rfl) (own_w hw 38 rfl) (by decide) (by decide)) (g := (mkF m 12 #[.val (.ref a1), .val (.int (Int32.ofNat i))] [(.int (Int32.ofNat i)), (.ref t1)])) rfl (by rw [hml]; rfl) (argsL := [(.ref t1), (.int (Int32.ofNat i))]) (rest := []) (lenOf pd_5 rfl) rfl (by show 2 * 0 + _ ≤ _; exact Nat.le_of_eq rfl) (hb hby d4_12) (fun _ _ => ⟨rfl, e2, (by decide : 0 + 0 ≤ _), (by decide : 0 + 0 ≤ _)⟩)
  dsimp only [Pt.U, Pt.locs, Pt.cells, Pt.slots] at X3 l3 y3 z3 st3 hQ3
  have l3y := l3.symm
  clear l3
  subst l3y
  obtain rfl : k3 = 0 := y3
  obtain rfl : n3 = 0 := z3
  obtain ⟨rfl, N3q, e3⟩ := hQ3
  have N3 := Fr.app N1 N3q
  refine own_to T3 (mkF m 15 #[.val (.ref a1), .val (.int (Int32.ofNat i))] [(.int y)]) (fun tq kq => st3 _ kq) ?_
  exact own_retC X3 hx hret hlk (hb hby d4_15) (by decide) (by decide) (own_i2cc hy) ⟨rfl, N3, e3⟩
def own_ch (x : Int32) : Int32 := (x &&& (255 : Int32)).toUInt32.toUInt16.toUInt32.toInt32
theorem own_chr (x : Int32) : ¬ ((x &&& (255 : Int32)).toUInt32.toUInt16.toUInt32.toInt32) < (0 : Int32) ∧ ¬ (255 : Int32) < ((x &&& (255 : Int32)).toUInt32.toUInt16.toUInt32.toInt32) := by
  rw [i2c_mask]
  have b := c_and x (255 : Int32) (by decide)
  have z : (255 : Int32).toInt = 255 := by decide
  have z0 : (0 : Int32).toInt = 0 := by decide
  rw [Int32.lt_iff_toInt_lt, Int32.lt_iff_toInt_lt]
  omega
theorem own_chrJ (x : Int64) : ¬ ((x &&& (255 : Int64)).toInt32.toUInt32.toUInt16.toUInt32.toInt32) < (0 : Int32) ∧ ¬ (255 : Int32) < ((x &&& (255 : Int64)).toInt32.toUInt32.toUInt16.toUInt32.toInt32) := by
  rw [Int64.toInt32_and, show (255 : Int64).toInt32 = (255 : Int32) from by decide]
  exact own_chr _
theorem own_nar {v : Int32} (h : ¬ v < (0 : Int32) ∧ ¬ (255 : Int32) < v) : nar .char v = v := by
  have z : (255 : Int32).toInt = 255 := by decide
  have z0 : (0 : Int32).toInt = 0 := by decide
  rw [Int32.lt_iff_toInt_lt, Int32.lt_iff_toInt_lt] at h
  have q := c_i2c v
  show v.toUInt32.toUInt16.toUInt32.toInt32 = v
  rw [← Int32.toInt_inj]
  omega
theorem own_small (x k : Int32) (n : Nat) (hk : k.toInt = n) (hm : 0 ≤ k.toInt) : ∃ u, u ≤ n ∧ (x &&& k) = Int32.ofNat u := by
  have b := c_and x k hm
  generalize x &&& k = y at *
  have hn : ¬ y < 0 := by
    rw [Int32.lt_iff_toInt_lt]
    have z0 : (0 : Int32).toInt = 0 := by decide
    omega
  have q := nat_of hn
  exact ⟨y.toNatClampNeg, by omega, (back32 hn).1.symm⟩
def own_same (n : Nat) (f : Nat → Int32) (m : Nat) (g : Nat → Int32) : Prop := n = m ∧ ∀ i, i < n → f i = g i
def own_eq (n : Nat) (f : Nat → Int32) (m : Nat) (g : Nat → Int32) : Int32 := if n = m ∧ ∀ i, i < n → f i = g i then 1 else 0
theorem own_eqT {n m : Nat} {f g : Nat → Int32} (h : own_same n f m g) : own_eq n f m g = 1 := if_pos h
theorem own_eqF {n m : Nat} {f g : Nat → Int32} (h : ¬ own_same n f m g) : own_eq n f m g = 0 := if_neg h
theorem own_same_comm {n m : Nat} {f g : Nat → Int32} (h : own_same n f m g) : own_same m g n f := ⟨h.1.symm, fun i hi => (h.2 i (h.1 ▸ hi)).symm⟩
def own_fq : Nat → Int32 := fun i => ([(113 : Int32), (117 : Int32), (101 : Int32), (114 : Int32), (121 : Int32)] : List Int32).getD i 0
def own_fc : Nat → Int32 := fun i => ([(99 : Int32), (108 : Int32), (105 : Int32), (99 : Int32), (107 : Int32)] : List Int32).getD i 0
theorem own_apart {m : Nat} {g : Nat → Int32} (h1 : own_same 5 own_fq m g) (h2 : own_same 5 own_fc m g) : False := by
  have q := (h1.2 0 (by decide)).trans (h2.2 0 (by decide)).symm
  exact absurd q (by decide)
theorem own_fldd {Z : State} {h : Heap} {a : Addr} {K n d : String} {v w : Value} (F : Fld Z h a K n d v) (G : Fld Z h a K n d w) : v = w := Classical.byContradiction fun q => F.ne G q rfl
theorem own_barrd {Z : State} {h : Heap} {a : Addr} {n m : Nat} {f g : Nat → Int32} (F : BArr Z h a n f) (G : BArr Z h a m g) : own_same n f m g := by
  obtain ⟨c1, A1, s1, v1⟩ := F
  obtain ⟨c2, A2, s2, v2⟩ := G
  cases A1.1.symm.trans A2.1
  have hnm : n = m := s1.symm.trans s2
  refine ⟨hnm, fun i hi => ?_⟩
  have q := (v1 i hi).symm.trans (v2 i (hnm ▸ hi))
  injection q with q
  injection q
theorem d1_0 : decode method_2_code 0 = .ok (.lload_n 2, 1) := by decide +kernel
theorem d1_1 : decode method_2_code 1 = .ok (.bipush 8, 2) := by decide +kernel
theorem d1_3 : decode method_2_code 3 = .ok (.iload_n 0, 1) := by decide +kernel
theorem d1_4 : decode method_2_code 4 = .ok (.imul, 1) := by decide +kernel
theorem d1_5 : decode method_2_code 5 = .ok (.lushr, 1) := by decide +kernel
theorem d1_6 : decode method_2_code 6 = .ok (.ldc2_w 7, 3) := by decide +kernel
theorem d1_9 : decode method_2_code 9 = .ok (.land, 1) := by decide +kernel
theorem d1_10 : decode method_2_code 10 = .ok (.l2i, 1) := by decide +kernel
theorem d1_11 : decode method_2_code 11 = .ok (.i2c, 1) := by decide +kernel
theorem d1_12 : decode method_2_code 12 = .ok (.istore 5, 2) := by decide +kernel
theorem d1_14 : decode method_2_code 14 = .ok (.iload_n 1, 1) := by decide +kernel
theorem d1_15 : decode method_2_code 15 = .ok (.iconst 4, 1) := by decide +kernel
theorem d1_16 : decode method_2_code 16 = .ok (.iload_n 0, 1) := by decide +kernel
theorem d1_17 : decode method_2_code 17 = .ok (.iadd, 1) := by decide +kernel
theorem d1_18 : decode method_2_code 18 = .ok (.iushr, 1) := by decide +kernel
theorem d1_19 : decode method_2_code 19 = .ok (.iconst 1, 1) := by decide +kernel
theorem d1_20 : decode method_2_code 20 = .ok (.iand, 1) := by decide +kernel
theorem d1_21 : decode method_2_code 21 = .ok (.ifCond .eq 7, 3) := by decide +kernel
theorem d1_24 : decode method_2_code 24 = .ok (.iconst 1, 1) := by decide +kernel
theorem d1_25 : decode method_2_code 25 = .ok (.goto 4, 3) := by decide +kernel
theorem d1_28 : decode method_2_code 28 = .ok (.iconst 0, 1) := by decide +kernel
theorem d1_29 : decode method_2_code 29 = .ok (.istore 6, 2) := by decide +kernel
theorem d1_31 : decode method_2_code 31 = .ok (.iload 6, 2) := by decide +kernel
theorem d1_33 : decode method_2_code 33 = .ok (.ifCond .ne 19, 3) := by decide +kernel
theorem d1_36 : decode method_2_code 36 = .ok (.iload_n 0, 1) := by decide +kernel
theorem d1_37 : decode method_2_code 37 = .ok (.aload 4, 2) := by decide +kernel
theorem d1_39 : decode method_2_code 39 = .ok (.invokevirtual 9, 3) := by decide +kernel
theorem d1_42 : decode method_2_code 42 = .ok (.if_icmp .ge 10, 3) := by decide +kernel
theorem d1_45 : decode method_2_code 45 = .ok (.aload 4, 2) := by decide +kernel
theorem d1_47 : decode method_2_code 47 = .ok (.iload_n 0, 1) := by decide +kernel
theorem d1_48 : decode method_2_code 48 = .ok (.invokevirtual 15, 3) := by decide +kernel
theorem d1_51 : decode method_2_code 51 = .ok (.ireturn, 1) := by decide +kernel
theorem d1_52 : decode method_2_code 52 = .ok (.iload 5, 2) := by decide +kernel
theorem d1_54 : decode method_2_code 54 = .ok (.ireturn, 1) := by decide +kernel
theorem pn_1 : plainName "com/example/interest_ranker/interestranker/model/TypeByIdPinLaw" = true := by first | (simp [plainName, overriddenIn]; done) | decide +kernel
theorem ef_1_IIJR (m : MethodId) (x0 : Int32) (x1 : Int32) (x2 : Int64) (x3 : Addr) : entryFrame m #[(.int x0), (.int x1), (.long x2), (.ref x3)] 7 = mkF m 0 #[.val (.int x0), .val (.int x1), .val (.long x2), .second, .val (.ref x3), .unset, .unset] [] := by first | (simp [entryFrame, mkF, argsToLocals, Value.category]; done) | rfl
def Q_rmPick (Z : State) (i : Nat) (xa : Int32) (xb : Int64) (a2 t2 : Addr) (f : Nat → Int32) (G1 : Int32) (vF : Value) (h0 : Heap) (n0 : Nat) (v : Option Value) (h : Heap) (L : List Loc) : Prop := ∃ y, v = some (.int y) ∧ (¬ y < (0 : Int32) ∧ ¬ (255 : Int32) < y) ∧ Fr n0 L ∧ h = h0
theorem pd_1 : parseMethodDescriptor "()I" = some ⟨[], some .int⟩ := by decide +kernel
theorem pd_3 : parseMethodDescriptor "(I)C" = some ⟨[.int], some .char⟩ := by decide +kernel
set_option maxRecDepth 65536 in
set_option maxHeartbeats 40000000 in
theorem rmPick (l : Launch) (Z : State) (a0 : Array Value) (hw : ∀ d ∈ tables_1, d.before a0 Z = true) (ws : List Jvm.Cond) (i : Nat) (xa : Int32) (xb : Int64) (a2 t2 : Addr) (f : Nat → Int32) (G1 : Int32) (vF : Value) (h0 : Heap) (n0 : Nat) (Z0 : n0 ≤ h0.size) (O2 : Sta Z h0 "java/lang/String" "COMPACT_STRINGS" "Z" (.int G1)) (hG : ¬ G1 = (0 : Int32)) (O4 : Sta Z h0 "jdk/internal/util/Preconditions" "SIOOBE_FORMATTER" "Ljava/util/function/BiFunction;" vF) (hvF : vF.isRef = true) (Ea2 : Exa Z h0 a2 "java/lang/String") (Fa2 : Fld Z h0 a2 "java/lang/String" "value" "[B" (.ref t2)) (Ca2 : Fld Z h0 a2 "java/lang/String" "coder" "B" (.int (0 : Int32))) (Aa2 : BArr Z h0 t2 5 f) (hi6 : i < 6) :
    MetFree l (⟨"com/example/interest_ranker/interestranker/model/TypeByIdPinLaw", "pick", "(IIJLjava/lang/String;)C"⟩ : MethodName) (head1 (Jvm.Cond.code (⟨"com/example/interest_ranker/interestranker/model/TypeByIdPinLaw", "pick", "(IIJLjava/lang/String;)C"⟩ : MethodName) method_2_code 7 (some .char) :: ws) ({ frames := 4, cells := 0, slots := 0, locals := 60 } : Room)) (fun a U => a = #[(.int (Int32.ofNat i)), (.int xa), (.long xb), (.ref a2)] ∧ Z.Warmed39 U.vm ∧ U.heap = h0) (fun _ _ _ _ _ => True) (fun _ U o U' => ∃ v L, o = .returned v ∧ Q_rmPick Z i xa xb a2 t2 f G1 vF h0 n0 v U'.heap L ∧ FrameEnd U o U' L ({ frames := 4, cells := 0, slots := 0, locals := 60 } : Room).cells ({ frames := 4, cells := 0, slots := 0, locals := 60 } : Room).slots) := by
  refine own_met (y := (⟨"com/example/interest_ranker/interestranker/model/TypeByIdPinLaw", "pick", "(IIJLjava/lang/String;)C"⟩ : MethodName)) (Q := (Q_rmPick Z i xa xb a2 t2 f G1 vF h0 n0)) (plainFor_of_name pn_1) fun p e s m below meth c s₁ X0 hx hby hml hret hlk hown hnm hZ e0 => ?_
  refine own_entry (ef_1_IIJR m (Int32.ofNat i) xa xb a2) ?_
  refine own_to s₁ (mkF m 14 #[.val (.int (Int32.ofNat i)), .val (.int xa), .val (.long xb), .second, .val (.ref a2), .val (.int (((((xb.toUInt64 >>> (((8 : Int32) * (Int32.ofNat i)) &&& 0x3f).toInt64.toUInt64).toInt64) &&& (255 : Int64)).toInt32).toUInt32.toUInt16.toUInt32.toInt32)), .unset] []) (fun tq kq => XS.lloadN X0.here hx rfl (hb hby d1_0) rfl (XS.bipush X0.here hx rfl (hb hby d1_1) (XS.iloadN X0.here hx rfl (hb hby d1_3) rfl (XS.imul X0.here hx rfl (hb hby d1_4) rfl (XS.lushr X0.here hx rfl (hb hby d1_5) rfl (X0.ldc2Long hx hown (mvT hZ (own_w hw 12 rfl)) (g := (mkF m 6 #[.val (.int (Int32.ofNat i)), .val (.int xa), .val (.long xb), .second, .val (.ref a2), .unset, .unset] [(.long ((xb.toUInt64 >>> (((8 : Int32) * (Int32.ofNat i)) &&& 0x3f).toInt64.toUInt64).toInt64))])) rfl (hb hby d1_6) _ (XS.land X0.here hx rfl (hb hby d1_9) rfl (XS.l2i X0.here hx rfl (hb hby d1_10) rfl (XS.i2c X0.here hx rfl (hb hby d1_11) rfl (XS.istore X0.here hx rfl (hb hby d1_12) rfl (l' := #[.val (.int (Int32.ofNat i)), .val (.int xa), .val (.long xb), .second, .val (.ref a2), .val (.int (((((xb.toUInt64 >>> (((8 : Int32) * (Int32.ofNat i)) &&& 0x3f).toInt64.toUInt64).toInt64) &&& (255 : Int64)).toInt32).toUInt32.toUInt16.toUInt32.toInt32)), .unset]) rfl kq)))))))))) ?_
  refine own_to s₁ (mkF m 21 #[.val (.int (Int32.ofNat i)), .val (.int xa), .val (.long xb), .second, .val (.ref a2), .val (.int (((((xb.toUInt64 >>> (((8 : Int32) * (Int32.ofNat i)) &&& 0x3f).toInt64.toUInt64).toInt64) &&& (255 : Int64)).toInt32).toUInt32.toUInt16.toUInt32.toInt32)), .unset] [(.int (((xa.toUInt32 >>> (((4 : Int32) + (Int32.ofNat i)) &&& 31).toUInt32).toInt32) &&& (1 : Int32)))]) (fun tq kq => XS.iloadN X0.here hx rfl (hb hby d1_14) rfl (XS.iconst X0.here hx rfl (hb hby d1_15) (XS.iloadN X0.here hx rfl (hb hby d1_16) rfl (XS.iadd X0.here hx rfl (hb hby d1_17) rfl (XS.iushr X0.here hx rfl (hb hby d1_18) rfl (XS.iconst X0.here hx rfl (hb hby d1_19) (XS.iand X0.here hx rfl (hb hby d1_20) rfl kq))))))) ?_
  by_cases c21 : (((xa.toUInt32 >>> (((4 : Int32) + (Int32.ofNat i)) &&& 31).toUInt32).toInt32) &&& (1 : Int32)) = (0 : Int32)
  · skip
    refine own_to s₁ (mkF m 39 #[.val (.int (Int32.ofNat i)), .val (.int xa), .val (.long xb), .second, .val (.ref a2), .val (.int (((((xb.toUInt64 >>> (((8 : Int32) * (Int32.ofNat i)) &&& 0x3f).toInt64.toUInt64).toInt64) &&& (255 : Int64)).toInt32).toUInt32.toUInt16.toUInt32.toInt32)), .val (.int (0 : Int32))] [(.ref a2), (.int (Int32.ofNat i))]) (fun tq kq => XS.ifYes X0.here hx rfl (pc0 := 21) (pc' := 28) rfl (hb hby d1_21) rfl ((if0 _ _).trans (teq c21).1) (by decide) (by decide) (XS.iconst X0.here hx rfl (hb hby d1_28) (XS.istore X0.here hx rfl (hb hby d1_29) rfl (l' := #[.val (.int (Int32.ofNat i)), .val (.int xa), .val (.long xb), .second, .val (.ref a2), .val (.int (((((xb.toUInt64 >>> (((8 : Int32) * (Int32.ofNat i)) &&& 0x3f).toInt64.toUInt64).toInt64) &&& (255 : Int64)).toInt32).toUInt32.toUInt16.toUInt32.toInt32)), .val (.int (0 : Int32))]) rfl (XS.iload X0.here hx rfl (hb hby d1_31) rfl (XS.ifNo X0.here hx rfl (hb hby d1_33) rfl ((if0 _ _).trans (teq (by decide : (0 : Int32) = (0 : Int32))).2) (XS.iloadN X0.here hx rfl (hb hby d1_36) rfl (XS.aload X0.here hx rfl (hb hby d1_37) rfl rfl kq))))))) ?_
    obtain ⟨cq1, kq1, q1a, q1b, q1c⟩ := isOf hZ e0 Ea2
    obtain ⟨_, _, ⟨T1, L1, k1, n1⟩, -, X1, ⟨Lc1, hQ1, l1, y1, z1⟩, st1⟩ := X0.virtualBack hx (y := (⟨"java/lang/String", "length", "()I"⟩ : MethodName)) (z := (⟨"java/lang/String", "length", "()I"⟩ : MethodName)) hown (mvT hZ (own_w hw 13 rfl)) (mvT hZ (own_w hw 14 rfl)) (notFace_of_selects (args := #[]) (mvT hZ (own_w hw 16 rfl))) (mvT hZ (own_w hw 16 rfl)) (mvT hZ (own_w hw 15 rfl)) (by decide) (backOf (W := 1) (rmLen l Z a0 hw [] a2 t2 5 f G1 h0 n0 Z0 O2 hG Ea2 Fa2 Ca2 Aa2) hZ (own_w hw 17 rfl) (own_w hw 1 rfl) (by decide) (by decide)) q1a q1c (g := (mkF m 39 #[.val (.int (Int32.ofNat i)), .val (.int xa), .val (.long xb), .second, .val (.ref a2), .val (.int (((((xb.toUInt64 >>> (((8 : Int32) * (Int32.ofNat i)) &&& 0x3f).toInt64.toUInt64).toInt64) &&& (255 : Int64)).toInt32).toUInt32.toUInt16.toUInt32.toInt32)), .val (.int (0 : Int32))] [(.ref a2), (.int (Int32.ofNat i))])) rfl (by rw [hml]; rfl) (Steps.refl _) (argsL := []) (rest := [(.int (Int32.ofNat i))]) (lenOf pd_1 rfl) rfl (by show 2 * 0 + _ ≤ _; exact Nat.le_of_eq rfl) (hb hby d1_39) (fun _ _ => ⟨rfl, e0, (by decide : 0 + 0 ≤ _), (by decide : 0 + 0 ≤ _)⟩)
    dsimp only [Pt.U, Pt.locs, Pt.cells, Pt.slots] at X1 l1 y1 z1 st1 hQ1
    have l1y := l1.symm
    clear l1
    subst l1y
    obtain rfl : k1 = 0 := y1
    obtain rfl : n1 = 0 := z1
    obtain ⟨rfl, N1q, e1⟩ := hQ1
    have N1 := Fr.app (Fr.nil n0) N1q
    refine own_to T1 (mkF m 42 #[.val (.int (Int32.ofNat i)), .val (.int xa), .val (.long xb), .second, .val (.ref a2), .val (.int (((((xb.toUInt64 >>> (((8 : Int32) * (Int32.ofNat i)) &&& 0x3f).toInt64.toUInt64).toInt64) &&& (255 : Int64)).toInt32).toUInt32.toUInt16.toUInt32.toInt32)), .val (.int (0 : Int32))] [(.int (Int32.ofNat 5)), (.int (Int32.ofNat i))]) (fun tq kq => st1.trans kq) ?_
    by_cases c42 : (Int32.ofNat i) < (Int32.ofNat 5)
    · skip
      refine own_to T1 (mkF m 48 #[.val (.int (Int32.ofNat i)), .val (.int xa), .val (.long xb), .second, .val (.ref a2), .val (.int (((((xb.toUInt64 >>> (((8 : Int32) * (Int32.ofNat i)) &&& 0x3f).toInt64.toUInt64).toInt64) &&& (255 : Int64)).toInt32).toUInt32.toUInt16.toUInt32.toInt32)), .val (.int (0 : Int32))] [(.int (Int32.ofNat i)), (.ref a2)]) (fun tq kq => XS.icmpNo X1.here hx rfl (hb hby d1_42) rfl (tlt c42).2.1 (XS.aload X1.here hx rfl (hb hby d1_45) rfl rfl (XS.iloadN X1.here hx rfl (hb hby d1_47) rfl kq))) ?_
      have hi5 : i < 5 := (own_ltn (by omega) (by omega)).mp c42
      obtain ⟨cq2, kq2, q2a, q2b, q2c⟩ := isOf hZ e1 Ea2
      obtain ⟨_, _, ⟨T2, L2, k2, n2⟩, -, X2, ⟨Lc2, hQ2, l2, y2, z2⟩, st2⟩ := X1.virtualBack hx (y := (⟨"java/lang/String", "charAt", "(I)C"⟩ : MethodName)) (z := (⟨"java/lang/String", "charAt", "(I)C"⟩ : MethodName)) hown (mvT hZ (own_w hw 26 rfl)) (mvT hZ (own_w hw 27 rfl)) (notFace_of_selects (args := #[]) (mvT hZ (own_w hw 29 rfl))) (mvT hZ (own_w hw 29 rfl)) (mvT hZ (own_w hw 28 rfl)) (by decide) (backOf (W := 0) (rmCh l Z a0 hw [] a2 t2 i 5 f (own_ch (f i)) G1 vF h0 n0 Z0 O2 hG O4 hvF Ea2 Fa2 Ca2 Aa2 hi5 (by omega) rfl) hZ (own_w hw 30 rfl) (own_w hw 1 rfl) (by decide) (by decide)) q2a q2c (g := (mkF m 48 #[.val (.int (Int32.ofNat i)), .val (.int xa), .val (.long xb), .second, .val (.ref a2), .val (.int (((((xb.toUInt64 >>> (((8 : Int32) * (Int32.ofNat i)) &&& 0x3f).toInt64.toUInt64).toInt64) &&& (255 : Int64)).toInt32).toUInt32.toUInt16.toUInt32.toInt32)), .val (.int (0 : Int32))] [(.int (Int32.ofNat i)), (.ref a2)])) rfl (by rw [hml]; rfl) (Steps.refl _) (argsL := [(.int (Int32.ofNat i))]) (rest := []) (lenOf pd_3 rfl) rfl (by show 2 * 0 + _ ≤ _; exact Nat.le_of_eq rfl) (hb hby d1_48) (fun _ _ => ⟨rfl, e1, (by decide : 0 + 0 ≤ _), (by decide : 0 + 0 ≤ _)⟩)
      dsimp only [Pt.U, Pt.locs, Pt.cells, Pt.slots] at X2 l2 y2 z2 st2 hQ2
      have l2y := l2.symm
      clear l2
      subst l2y
      obtain rfl : k2 = 0 := y2
      obtain rfl : n2 = 0 := z2
      obtain ⟨rfl, N2q, e2⟩ := hQ2
      have N2 := Fr.app N1 N2q
      refine own_to T2 (mkF m 51 #[.val (.int (Int32.ofNat i)), .val (.int xa), .val (.long xb), .second, .val (.ref a2), .val (.int (((((xb.toUInt64 >>> (((8 : Int32) * (Int32.ofNat i)) &&& 0x3f).toInt64.toUInt64).toInt64) &&& (255 : Int64)).toInt32).toUInt32.toUInt16.toUInt32.toInt32)), .val (.int (0 : Int32))] [(.int (own_ch (f i)))]) (fun tq kq => st2.trans kq) ?_
      exact own_retC X2 hx hret hlk (hb hby d1_51) (by decide) (by decide) (own_i2cc rfl) ⟨(own_ch (f i)), rfl, own_chr (f i), N2, e2⟩
    · skip
      refine own_to T1 (mkF m 54 #[.val (.int (Int32.ofNat i)), .val (.int xa), .val (.long xb), .second, .val (.ref a2), .val (.int (((((xb.toUInt64 >>> (((8 : Int32) * (Int32.ofNat i)) &&& 0x3f).toInt64.toUInt64).toInt64) &&& (255 : Int64)).toInt32).toUInt32.toUInt16.toUInt32.toInt32)), .val (.int (0 : Int32))] [(.int (((((xb.toUInt64 >>> (((8 : Int32) * (Int32.ofNat i)) &&& 0x3f).toInt64.toUInt64).toInt64) &&& (255 : Int64)).toInt32).toUInt32.toUInt16.toUInt32.toInt32))]) (fun tq kq => XS.icmpYes X1.here hx rfl (pc0 := 42) (pc' := 52) rfl (hb hby d1_42) rfl (flt c42).2.1 (by decide) (by decide) (XS.iload X1.here hx rfl (hb hby d1_52) rfl kq)) ?_
      exact own_retC X1 hx hret hlk (hb hby d1_54) (by decide) (by decide) (own_i2cc rfl) ⟨(((((xb.toUInt64 >>> (((8 : Int32) * (Int32.ofNat i)) &&& 0x3f).toInt64.toUInt64).toInt64) &&& (255 : Int64)).toInt32).toUInt32.toUInt16.toUInt32.toInt32), rfl, own_chrJ _, N1, e1⟩
  · skip
    refine own_to s₁ (mkF m 54 #[.val (.int (Int32.ofNat i)), .val (.int xa), .val (.long xb), .second, .val (.ref a2), .val (.int (((((xb.toUInt64 >>> (((8 : Int32) * (Int32.ofNat i)) &&& 0x3f).toInt64.toUInt64).toInt64) &&& (255 : Int64)).toInt32).toUInt32.toUInt16.toUInt32.toInt32)), .val (.int (1 : Int32))] [(.int (((((xb.toUInt64 >>> (((8 : Int32) * (Int32.ofNat i)) &&& 0x3f).toInt64.toUInt64).toInt64) &&& (255 : Int64)).toInt32).toUInt32.toUInt16.toUInt32.toInt32))]) (fun tq kq => XS.ifNo X0.here hx rfl (hb hby d1_21) rfl ((if0 _ _).trans (feq c21).1) (XS.iconst X0.here hx rfl (hb hby d1_24) (XS.goto X0.here hx rfl (pc0 := 25) (pc' := 29) rfl (hb hby d1_25) (by decide) (by decide) (XS.istore X0.here hx rfl (hb hby d1_29) rfl (l' := #[.val (.int (Int32.ofNat i)), .val (.int xa), .val (.long xb), .second, .val (.ref a2), .val (.int (((((xb.toUInt64 >>> (((8 : Int32) * (Int32.ofNat i)) &&& 0x3f).toInt64.toUInt64).toInt64) &&& (255 : Int64)).toInt32).toUInt32.toUInt16.toUInt32.toInt32)), .val (.int (1 : Int32))]) rfl (XS.iload X0.here hx rfl (hb hby d1_31) rfl (XS.ifYes X0.here hx rfl (pc0 := 33) (pc' := 52) rfl (hb hby d1_33) rfl ((if0 _ _).trans (feq (by decide : ¬ ((1 : Int32) = (0 : Int32)))).2) (by decide) (by decide) (XS.iload X0.here hx rfl (hb hby d1_52) rfl kq))))))) ?_
    exact own_retC X0 hx hret hlk (hb hby d1_54) (by decide) (by decide) (own_i2cc rfl) ⟨(((((xb.toUInt64 >>> (((8 : Int32) * (Int32.ofNat i)) &&& 0x3f).toInt64.toUInt64).toInt64) &&& (255 : Int64)).toInt32).toUInt32.toUInt16.toUInt32.toInt32), rfl, own_chrJ _, (Fr.nil n0), e0⟩
theorem d11_0 : decode jdk_42_method_149_code 0 = .ok (.aload_n 0, 1) := by decide +kernel
theorem d11_1 : decode jdk_42_method_149_code 1 = .ok (.invokespecial 1, 3) := by decide +kernel
theorem d11_4 : decode jdk_42_method_149_code 4 = .ok (.iload_n 3, 1) := by decide +kernel
theorem d11_5 : decode jdk_42_method_149_code 5 = .ok (.ifCond .ne 22, 3) := by decide +kernel
theorem d11_8 : decode jdk_42_method_149_code 8 = .ok (.aload_n 0, 1) := by decide +kernel
theorem d11_9 : decode jdk_42_method_149_code 9 = .ok (.ldc 7, 2) := by decide +kernel
theorem d11_11 : decode jdk_42_method_149_code 11 = .ok (.getfield 9, 3) := by decide +kernel
theorem d11_14 : decode jdk_42_method_149_code 14 = .ok (.putfield 9, 3) := by decide +kernel
theorem d11_17 : decode jdk_42_method_149_code 17 = .ok (.aload_n 0, 1) := by decide +kernel
theorem d11_18 : decode jdk_42_method_149_code 18 = .ok (.ldc 7, 2) := by decide +kernel
theorem d11_20 : decode jdk_42_method_149_code 20 = .ok (.getfield 15, 3) := by decide +kernel
theorem d11_23 : decode jdk_42_method_149_code 23 = .ok (.putfield 15, 3) := by decide +kernel
theorem d11_26 : decode jdk_42_method_149_code 26 = .ok (.return_, 1) := by decide +kernel
theorem d11_27 : decode jdk_42_method_149_code 27 = .ok (.getstatic 38, 3) := by decide +kernel
theorem d11_30 : decode jdk_42_method_149_code 30 = .ok (.ifCond .eq 28, 3) := by decide +kernel
theorem d11_33 : decode jdk_42_method_149_code 33 = .ok (.aload_n 1, 1) := by decide +kernel
theorem d11_34 : decode jdk_42_method_149_code 34 = .ok (.iload_n 2, 1) := by decide +kernel
theorem d11_35 : decode jdk_42_method_149_code 35 = .ok (.iload_n 3, 1) := by decide +kernel
theorem d11_36 : decode jdk_42_method_149_code 36 = .ok (.invokestatic 177, 3) := by decide +kernel
theorem d11_39 : decode jdk_42_method_149_code 39 = .ok (.astore 5, 2) := by decide +kernel
theorem d11_41 : decode jdk_42_method_149_code 41 = .ok (.aload_n 0, 1) := by decide +kernel
theorem d11_42 : decode jdk_42_method_149_code 42 = .ok (.aload 5, 2) := by decide +kernel
theorem d11_44 : decode jdk_42_method_149_code 44 = .ok (.iload_n 3, 1) := by decide +kernel
theorem d11_45 : decode jdk_42_method_149_code 45 = .ok (.invokestatic 47, 3) := by decide +kernel
theorem d11_48 : decode jdk_42_method_149_code 48 = .ok (.putfield 15, 3) := by decide +kernel
theorem d11_51 : decode jdk_42_method_149_code 51 = .ok (.aload_n 0, 1) := by decide +kernel
theorem d11_52 : decode jdk_42_method_149_code 52 = .ok (.aload 5, 2) := by decide +kernel
theorem d11_54 : decode jdk_42_method_149_code 54 = .ok (.putfield 9, 3) := by decide +kernel
theorem d11_57 : decode jdk_42_method_149_code 57 = .ok (.return_, 1) := by decide +kernel
theorem d11_58 : decode jdk_42_method_149_code 58 = .ok (.aload_n 0, 1) := by decide +kernel
theorem d11_59 : decode jdk_42_method_149_code 59 = .ok (.iconst 1, 1) := by decide +kernel
theorem d11_60 : decode jdk_42_method_149_code 60 = .ok (.putfield 15, 3) := by decide +kernel
theorem d11_63 : decode jdk_42_method_149_code 63 = .ok (.aload_n 0, 1) := by decide +kernel
theorem d11_64 : decode jdk_42_method_149_code 64 = .ok (.aload_n 1, 1) := by decide +kernel
theorem d11_65 : decode jdk_42_method_149_code 65 = .ok (.iload_n 2, 1) := by decide +kernel
theorem d11_66 : decode jdk_42_method_149_code 66 = .ok (.iload_n 3, 1) := by decide +kernel
theorem d11_67 : decode jdk_42_method_149_code 67 = .ok (.invokestatic 180, 3) := by decide +kernel
theorem d11_70 : decode jdk_42_method_149_code 70 = .ok (.putfield 9, 3) := by decide +kernel
theorem d11_73 : decode jdk_42_method_149_code 73 = .ok (.return_, 1) := by decide +kernel
theorem ef_11_RRIIRn (m : MethodId) (x0 : Addr) (x1 : Addr) (x2 : Int32) (x3 : Int32) : entryFrame m #[(.ref x0), (.ref x1), (.int x2), (.int x3), .null] 6 = mkF m 0 #[.val (.ref x0), .val (.ref x1), .val (.int x2), .val (.int x3), .val .null, .unset] [] := by first | (simp [entryFrame, mkF, argsToLocals, Value.category]; done) | rfl
def Q_rmS0v (Z : State) (a1 a2 : Addr) (h0 : Heap) (n0 : Nat) (v : Option Value) (h : Heap) (L : List Loc) : Prop := v = none ∧ Fr n0 L ∧ Keep h0 h [a1] ∧ Exa Z h a1 "java/lang/String" ∧ Fld Z h a1 "java/lang/String" "coder" "B" (.int (0 : Int32)) ∧ ∃ t f, Fld Z h a1 "java/lang/String" "value" "[B" (.ref t) ∧ BArr Z h t 0 f ∧ own_ne a1 t
theorem sn_coder_value {Z : State} {a0 : Array Value} (hw : ∀ d ∈ tables_1, d.before a0 Z = true) : Jvm.RoadKit.slotOf Z "java/lang/String" "coder" "B" ≠ Jvm.RoadKit.slotOf Z "java/lang/String" "value" "[B" := Jvm.RoadKit.slot_ne (a0 := a0) (Or.inr (own_w hw 5 rfl)) (Or.inr (own_w hw 4 rfl)) (by decide) (t := .byte) (t' := (.array .byte)) (by decide) (by decide)
theorem sn_value_coder {Z : State} {a0 : Array Value} (hw : ∀ d ∈ tables_1, d.before a0 Z = true) : Jvm.RoadKit.slotOf Z "java/lang/String" "value" "[B" ≠ Jvm.RoadKit.slotOf Z "java/lang/String" "coder" "B" := Jvm.RoadKit.slot_ne (a0 := a0) (Or.inr (own_w hw 4 rfl)) (Or.inr (own_w hw 5 rfl)) (by decide) (t := (.array .byte)) (t' := .byte) (by decide) (by decide)
set_option maxRecDepth 65536 in
set_option maxHeartbeats 40000000 in
theorem rmS0v (l : Launch) (Z : State) (a0 : Array Value) (hw : ∀ d ∈ tables_1, d.before a0 Z = true) (ws : List Jvm.Cond) (a1 a2 : Addr) (h0 : Heap) (n0 : Nat) (Z0 : n0 ≤ h0.size) (hEL : EW Z a0 consts_1) (Ea1 : Exa Z h0 a1 "java/lang/String") (F1 : Fld Z h0 a1 "java/lang/String" "value" "[B" .null) (F2 : Fld Z h0 a1 "java/lang/String" "coder" "B" (.int (0 : Int32))) (g_a1 : n0 ≤ a1) :
    MetFree l (⟨"java/lang/String", "<init>", "([CIILjava/lang/Void;)V"⟩ : MethodName) (head1 (Jvm.Cond.code (⟨"java/lang/String", "<init>", "([CIILjava/lang/Void;)V"⟩ : MethodName) jdk_42_method_149_code 6 none :: ws) ({ frames := 1, cells := 4, slots := 8, locals := 12 } : Room)) (fun a U => a = #[(.ref a1), (.ref a2), (.int (0 : Int32)), (.int (0 : Int32)), .null] ∧ Z.Warmed39 U.vm ∧ U.heap = h0 ∧ CHv Z consts_1 U.vm h0 ∧ Safe Z consts_1 U.vm h0 a1) (fun _ _ _ _ _ => True) (fun _ U o U' => ∃ v L, o = .returned v ∧ Q_rmS0v Z a1 a2 h0 n0 v U'.heap L ∧ CHr Z consts_1 U.vm U.heap U'.vm U'.heap ∧ ReturnedEndW U o U' L ({ frames := 1, cells := 4, slots := 8, locals := 12 } : Room).cells ({ frames := 1, cells := 4, slots := 8, locals := 12 } : Room).slots) := by
  refine own_metHS (EL := consts_1) (xs := a1) (y := (⟨"java/lang/String", "<init>", "([CIILjava/lang/Void;)V"⟩ : MethodName)) (Q := (Q_rmS0v Z a1 a2 h0 n0)) (plainFor_of_name pn_3) fun p e s m below meth c s₁ X0 hx hby hml hret hlk hown hnm hZ e0 hS C0 Sf0 => ?_
  have hk := Nat.le_refl h0.size
  refine own_entryH (ef_11_RRIIRn m a1 a2 (0 : Int32) (0 : Int32)) ?_
  have own_wS : ∀ a ∈ Bundle.stringAtoms, a.before a0 Z = true := fun a ha => hw a (own_sub a ha)
  have K0 := Keep.refl h0 [a1]
  refine own_toH s₁ (mkF m 1 #[.val (.ref a1), .val (.ref a2), .val (.int (0 : Int32)), .val (.int (0 : Int32)), .val .null, .unset] [(.ref a1)]) (fun tq kq => XS.aloadN X0.here hx rfl (hb hby d11_0) rfl rfl kq) ?_
  obtain ⟨T1, X1, e1, st1⟩ := initO X0 hx hZ hown (own_w hw 60 rfl) (own_w hw 61 rfl) (own_w hw 62 rfl) e0 (g := (mkF m 1 #[.val (.ref a1), .val (.ref a2), .val (.int (0 : Int32)), .val (.int (0 : Int32)), .val .null, .unset] [(.ref a1)])) rfl (by rw [hml]; rfl) rfl (hb hby d11_1) (by decide) (W := 0) (by show 2 * 0 + _ ≤ _; exact Nat.le_of_eq rfl) (by decide)
  refine own_toH T1 (mkF m 9 #[.val (.ref a1), .val (.ref a2), .val (.int (0 : Int32)), .val (.int (0 : Int32)), .val .null, .unset] [(.ref a1)]) (fun tq kq => st1 _ (XS.iloadN X1.here hx rfl (hb hby d11_4) rfl (XS.ifNo X1.here hx rfl (hb hby d11_5) rfl ((if0 _ _).trans (teq (by decide : (0 : Int32) = (0 : Int32))).2) (XS.aloadN X1.here hx rfl (hb hby d11_8) rfl rfl kq)))) ?_
  have lt2_a1 := Ea1.lt
  obtain ⟨b2, T2, h2, k2, t2, kc2, X2, e2, E2, hS, hk, hZ, hown, Eb2, Cb2, Vb2, Ab2, la2, lb2, hC2, hL2, hsf2, st2⟩ := ldcCH X1 hx hZ hown (own_w hw 63 rfl) own_wS e1 hS hk hEL (by decide) C0.1 (vs := ([] : List Int32).map Value.int) (z := Int32.ofNat 0) ⟨by decide, by decide⟩ (by decide) (by decide) (g := (mkF m 9 #[.val (.ref a1), .val (.ref a2), .val (.int (0 : Int32)), .val (.int (0 : Int32)), .val .null, .unset] [(.ref a1)])) rfl (hb hby d11_9) (n := 0) (by decide) (by decide) (by decide) (by decide)
  have f3 := hC2.safe lt2_a1 Sf0
  have f4 := Ea1.ext E2
  have f5 := F1.ext E2
  have f6 := F2.ext E2
  have Zs2 : n0 ≤ h2.size := Nat.le_trans Z0 E2.1
  have K2 := K0.ext E2
  have C2 := C0.trans hC2
  have Vt2 : BArr Z h2 t2 0 (fun i => ([] : List Int32).getD i 0) := own_barr Ab2 (by decide) (by decide)
  have ne_a1_b2 := (hsf2 _ f3).1
  have ne_a1_t2 := (hsf2 _ f3).2
  refine own_toH T2 (mkF m 11 #[.val (.ref a1), .val (.ref a2), .val (.int (0 : Int32)), .val (.int (0 : Int32)), .val .null, .unset] [(.ref b2), (.ref a1)]) (fun tq kq => st2 _ kq) ?_
  obtain ⟨T7, X7, e7, st7⟩ := getF X2 hx hZ hown (host := "") (Or.inl (own_w hw 18 rfl)) Via.refl e2 Vb2 (g := (mkF m 11 #[.val (.ref a1), .val (.ref a2), .val (.int (0 : Int32)), .val (.int (0 : Int32)), .val .null, .unset] [(.ref b2), (.ref a1)])) rfl rfl (hb hby d11_11)
  refine own_toH T7 (mkF m 14 #[.val (.ref a1), .val (.ref a2), .val (.int (0 : Int32)), .val (.int (0 : Int32)), .val .null, .unset] [(.ref t2), (.ref a1)]) (fun tq kq => st7 _ kq) ?_
  obtain ⟨T8, h8, X8, e8, W8, st8⟩ := putF X7 hx hZ hown (host := "") (Or.inl (own_w hw 18 rfl)) Via.refl e7 f5 f4 (Or.inr ⟨(own_w hw 4 rfl), rfl, hnm⟩) (own_w hw 2 rfl) (ty := (.array .byte)) (by decide) rfl rfl (g := (mkF m 14 #[.val (.ref a1), .val (.ref a2), .val (.int (0 : Int32)), .val (.int (0 : Int32)), .val .null, .unset] [(.ref t2), (.ref a1)])) rfl rfl (hb hby d11_14)
  have f9 := Safe.wr W8 f3 C2.1 f3
  have f10 := f4.wr W8
  have f11 := f6.other W8 (Or.inr (sn_coder_value hw))
  have f12 := Eb2.wr W8
  have f13 := Vb2.other W8 (Or.inl (Ne.symm ne_a1_b2))
  have f14 := Cb2.other W8 (Or.inl (Ne.symm ne_a1_b2))
  have f15 := Vt2.other W8 (Ne.symm ne_a1_t2)
  have f16 := f5.same W8
  have N8 := Fr.snoc X8 (Fr.nil n0) g_a1
  have Zs8 : n0 ≤ h8.size := by rw [W8.size]; exact Zs2
  have K8 := K2.wr W8 (Or.inl (List.mem_of_getElem? (i := 0) rfl))
  have hk := Nat.le_trans hk (Nat.le_of_eq W8.size.symm)
  have C8 := C2.trans (CHr.wr W8 f3 C2.1)
  refine own_toH T8 (mkF m 18 #[.val (.ref a1), .val (.ref a2), .val (.int (0 : Int32)), .val (.int (0 : Int32)), .val .null, .unset] [(.ref a1)]) (fun tq kq => st8 _ (XS.aloadN X8.here hx rfl (hb hby d11_17) rfl rfl kq)) ?_
  have lt17_a1 := f10.lt
  obtain ⟨b17, T17, h17, k17, t17, kc17, X17, e17, E17, hS, hk, hZ, hown, Eb17, Cb17, Vb17, Ab17, la17, lb17, hC17, hL17, hsf17, st17⟩ := ldcCH X8 hx hZ hown (own_w hw 63 rfl) own_wS e8 hS hk hEL (by decide) C8.1 (vs := ([] : List Int32).map Value.int) (z := Int32.ofNat 0) ⟨by decide, by decide⟩ (by decide) (by decide) (g := (mkF m 18 #[.val (.ref a1), .val (.ref a2), .val (.int (0 : Int32)), .val (.int (0 : Int32)), .val .null, .unset] [(.ref a1)])) rfl (hb hby d11_18) (n := 0) (by decide) (by decide) (by decide) (by decide)
  have f18 := hC17.safe lt17_a1 f9
  have f19 := f10.ext E17
  have f20 := f16.ext E17
  have f21 := f11.ext E17
  have f22 := f12.ext E17
  have f23 := f13.ext E17
  have f24 := f14.ext E17
  have f25 := f15.ext E17
  have Zs17 : n0 ≤ h17.size := Nat.le_trans Zs8 E17.1
  have K17 := K8.ext E17
  have C17 := C8.trans hC17
  have Vt17 : BArr Z h17 t17 0 (fun i => ([] : List Int32).getD i 0) := own_barr Ab17 (by decide) (by decide)
  have ne_a1_b17 := (hsf17 _ f18).1
  have ne_a1_t17 := (hsf17 _ f18).2
  refine own_toH T17 (mkF m 20 #[.val (.ref a1), .val (.ref a2), .val (.int (0 : Int32)), .val (.int (0 : Int32)), .val .null, .unset] [(.ref b17), (.ref a1)]) (fun tq kq => st17 _ kq) ?_
  obtain ⟨T26, X26, e26, st26⟩ := getF X17 hx hZ hown (host := "") (Or.inl (own_w hw 25 rfl)) Via.refl e17 Cb17 (g := (mkF m 20 #[.val (.ref a1), .val (.ref a2), .val (.int (0 : Int32)), .val (.int (0 : Int32)), .val .null, .unset] [(.ref b17), (.ref a1)])) rfl rfl (hb hby d11_20)
  refine own_toH T26 (mkF m 23 #[.val (.ref a1), .val (.ref a2), .val (.int (0 : Int32)), .val (.int (0 : Int32)), .val .null, .unset] [(.int (0 : Int32)), (.ref a1)]) (fun tq kq => st26 _ kq) ?_
  obtain ⟨T27, h27, X27, e27, W27, st27⟩ := putFN X26 hx hZ hown (own_w hw 25 rfl) Via.refl e26 f21 f19 (Or.inr ⟨(own_w hw 5 rfl), rfl, hnm⟩) (own_w hw 2 rfl) (ty := .byte) (v' := (.int (0 : Int32))) (by decide) rfl rfl (g := (mkF m 23 #[.val (.ref a1), .val (.ref a2), .val (.int (0 : Int32)), .val (.int (0 : Int32)), .val .null, .unset] [(.int (0 : Int32)), (.ref a1)])) rfl rfl (hb hby d11_23)
  have f28 := Safe.wr W27 f18 C17.1 f18
  have f29 := f19.wr W27
  have f30 := f20.other W27 (Or.inr (sn_value_coder hw))
  have f31 := f22.wr W27
  have f32 := f23.other W27 (Or.inl (Ne.symm ne_a1_b2))
  have f33 := f24.other W27 (Or.inl (Ne.symm ne_a1_b2))
  have f34 := f25.other W27 (Ne.symm ne_a1_t2)
  have f35 := Eb17.wr W27
  have f36 := Vb17.other W27 (Or.inl (Ne.symm ne_a1_b17))
  have f37 := Cb17.other W27 (Or.inl (Ne.symm ne_a1_b17))
  have f38 := Vt17.other W27 (Ne.symm ne_a1_t17)
  have f39 := f21.same W27
  have N27 := Fr.snoc X27 N8 g_a1
  have Zs27 : n0 ≤ h27.size := by rw [W27.size]; exact Zs17
  have K27 := K17.wr W27 (Or.inl (List.mem_of_getElem? (i := 0) rfl))
  have hk := Nat.le_trans hk (Nat.le_of_eq W27.size.symm)
  have C27 := C17.trans (CHr.wr W27 f18 C17.1)
  refine own_toH T27 (mkF m 26 #[.val (.ref a1), .val (.ref a2), .val (.int (0 : Int32)), .val (.int (0 : Int32)), .val .null, .unset] []) (fun tq kq => st27 _ kq) ?_
  exact own_retVH X27 hS (by rw [e27]; exact hk) hZ hEL (by rw [e27]; exact C27) hx hret hlk (hb hby d11_26) (by decide) (by decide) (by rw [e27]; exact ⟨rfl, N27, K27, f29, f39, t2, _, f30, f34, ne_a1_t2⟩)
theorem d10_0 : decode jdk_42_method_3_code 0 = .ok (.aload_n 0, 1) := by decide +kernel
theorem d10_1 : decode jdk_42_method_3_code 1 = .ok (.aload_n 1, 1) := by decide +kernel
theorem d10_2 : decode jdk_42_method_3_code 2 = .ok (.iconst 0, 1) := by decide +kernel
theorem d10_3 : decode jdk_42_method_3_code 3 = .ok (.aload_n 1, 1) := by decide +kernel
theorem d10_4 : decode jdk_42_method_3_code 4 = .ok (.arraylength, 1) := by decide +kernel
theorem d10_5 : decode jdk_42_method_3_code 5 = .ok (.aconst_null, 1) := by decide +kernel
theorem d10_6 : decode jdk_42_method_3_code 6 = .ok (.invokespecial 27, 3) := by decide +kernel
theorem d10_9 : decode jdk_42_method_3_code 9 = .ok (.return_, 1) := by decide +kernel
theorem ef_10_RR (m : MethodId) (x0 : Addr) (x1 : Addr) : entryFrame m #[(.ref x0), (.ref x1)] 2 = mkF m 0 #[.val (.ref x0), .val (.ref x1)] [] := by first | (simp [entryFrame, mkF, argsToLocals, Value.category]; done) | rfl
def Q_rmS0 (Z : State) (a1 a2 : Addr) (c2 : Cell) (h0 : Heap) (n0 : Nat) (v : Option Value) (h : Heap) (L : List Loc) : Prop := v = none ∧ Fr n0 L ∧ Keep h0 h [a1] ∧ Exa Z h a1 "java/lang/String" ∧ Fld Z h a1 "java/lang/String" "coder" "B" (.int (0 : Int32)) ∧ ∃ t f, Fld Z h a1 "java/lang/String" "value" "[B" (.ref t) ∧ BArr Z h t 0 f ∧ own_ne a1 t
theorem pd_10 : parseMethodDescriptor "([CIILjava/lang/Void;)V" = some ⟨[(.array .char), .int, .int, (.object "java/lang/Void")], none⟩ := by decide +kernel
set_option maxRecDepth 65536 in
set_option maxHeartbeats 40000000 in
theorem rmS0 (l : Launch) (Z : State) (a0 : Array Value) (hw : ∀ d ∈ tables_1, d.before a0 Z = true) (ws : List Jvm.Cond) (a1 a2 : Addr) (c2 : Cell) (h0 : Heap) (n0 : Nat) (Z0 : n0 ≤ h0.size) (hEL : EW Z a0 consts_1) (Ea1 : Exa Z h0 a1 "java/lang/String") (F1 : Fld Z h0 a1 "java/lang/String" "value" "[B" .null) (F2 : Fld Z h0 a1 "java/lang/String" "coder" "B" (.int (0 : Int32))) (g_a1 : n0 ≤ a1) (A2 : Arr Z h0 a2 c2 .char) (hz2 : c2.slots.size = 0) :
    MetFree l (⟨"java/lang/String", "<init>", "([C)V"⟩ : MethodName) (head1 (Jvm.Cond.code (⟨"java/lang/String", "<init>", "([C)V"⟩ : MethodName) jdk_42_method_3_code 2 none :: ws) ({ frames := 2, cells := 4, slots := 8, locals := 40 } : Room)) (fun a U => a = #[(.ref a1), (.ref a2)] ∧ Z.Warmed39 U.vm ∧ U.heap = h0 ∧ CHv Z consts_1 U.vm h0 ∧ Safe Z consts_1 U.vm h0 a1) (fun _ _ _ _ _ => True) (fun _ U o U' => ∃ v L, o = .returned v ∧ Q_rmS0 Z a1 a2 c2 h0 n0 v U'.heap L ∧ CHr Z consts_1 U.vm U.heap U'.vm U'.heap ∧ ReturnedEndW U o U' L ({ frames := 2, cells := 4, slots := 8, locals := 40 } : Room).cells ({ frames := 2, cells := 4, slots := 8, locals := 40 } : Room).slots) := by
  refine own_metHS (EL := consts_1) (xs := a1) (y := (⟨"java/lang/String", "<init>", "([C)V"⟩ : MethodName)) (Q := (Q_rmS0 Z a1 a2 c2 h0 n0)) (plainFor_of_name pn_3) fun p e s m below meth c s₁ X0 hx hby hml hret hlk hown hnm hZ e0 hS C0 Sf0 => ?_
  have hk := Nat.le_refl h0.size
  refine own_entryH (ef_10_RR m a1 a2) ?_
  have K0 := Keep.refl h0 [a1]
  refine own_toH s₁ (mkF m 5 #[.val (.ref a1), .val (.ref a2)] [(.int (c2.slots.size.toInt32)), (.int (0 : Int32)), (.ref a2), (.ref a1)]) (fun tq kq => XS.aloadN X0.here hx rfl (hb hby d10_0) rfl rfl (XS.aloadN X0.here hx rfl (hb hby d10_1) rfl rfl (XS.iconst X0.here hx rfl (hb hby d10_2) (XS.aloadN X0.here hx rfl (hb hby d10_3) rfl rfl (X0.arraylength hx (by rw [e0]; exact A2.1) (State.isArrayOf_alike hZ.alike A2.2.1) (g := (mkF m 4 #[.val (.ref a1), .val (.ref a2)] [(.ref a2), (.int (0 : Int32)), (.ref a2), (.ref a1)])) rfl rfl (hb hby d10_4) _ kq))))) ?_
  rw [show c2.slots.size.toInt32 = (0 : Int32) from by rw [hz2] <;> rfl]
  refine own_toH s₁ (mkF m 6 #[.val (.ref a1), .val (.ref a2)] [.null, (.int (0 : Int32)), (.int (0 : Int32)), (.ref a2), (.ref a1)]) (fun tq kq => XS.aconstNull X0.here hx rfl (hb hby d10_5) kq) ?_
  obtain ⟨_, _, ⟨T1, L1, k1, n1⟩, -, X1, hS1, hgr1, ⟨Lc1, hQ1, l1, y1, z1, hC1⟩, st1⟩ := X0.specialBackS hx (y := (⟨"java/lang/String", "<init>", "([CIILjava/lang/Void;)V"⟩ : MethodName)) rfl hown (mvT hZ (own_w hw 56 rfl)) (mvT hZ (own_w hw 57 rfl)) (mvT hZ (own_w hw 59 rfl)) (by decide) (own_backSH (W := 0) (rmS0v l Z a0 hw [] a1 a2 h0 n0 Z0 hEL Ea1 F1 F2 g_a1) hZ (own_w hw 59 rfl) (own_w hw 1 rfl) (by decide) (by decide) hEL C0.1 Ea1.lt Sf0) (g := (mkF m 6 #[.val (.ref a1), .val (.ref a2)] [.null, (.int (0 : Int32)), (.int (0 : Int32)), (.ref a2), (.ref a1)])) rfl (by rw [hml]; rfl) (Steps.refl _) (a := a1) (argsL := [(.ref a2), (.int (0 : Int32)), (.int (0 : Int32)), .null]) (rest := []) (lenOf pd_10 rfl) rfl (by show 2 * 0 + _ ≤ _; exact Nat.le_of_eq rfl) (hb hby d10_6) (fun _ _ => ⟨rfl, e0, (by decide : 0 + 4 ≤ _), (by decide : 0 + 8 ≤ _)⟩)
  dsimp only [Pt.U, Pt.locs, Pt.cells, Pt.slots] at X1 l1 y1 z1 st1 hQ1
  have l1y := l1.symm
  clear l1
  subst l1y
  obtain rfl : k1 = 4 := y1
  obtain rfl : n1 = 8 := z1
  dsimp only [Pt.U, Pt.locs, Pt.cells, Pt.slots] at hS1 hgr1 hC1
  have C1 := C0.trans hC1
  obtain ⟨X1, hS, hZ, hown⟩ := rebS hS hk X1 hS1 (by rw [← e0]; exact hgr1) hZ hown
  have hk := Nat.le_refl T1.heap.size
  obtain ⟨rfl, N1q, K1q, E1q, C1q, t1, f1q, V1q, A1q, ne1⟩ := hQ1
  have N1 := Fr.app (Fr.nil n0) N1q
  have Zs1 : n0 ≤ T1.heap.size := Nat.le_trans Z0 K1q.1
  have KK1 := K0.trans K1q (allS (Or.inl (List.mem_of_getElem? (i := 0) rfl)) all0)
  refine own_toH T1 (mkF m 9 #[.val (.ref a1), .val (.ref a2)] []) (fun tq kq => st1.trans kq) ?_
  exact own_retVH X1 hS hk hZ hEL C1 hx hret hlk (hb hby d10_9) (by decide) (by decide) ⟨rfl, N1, KK1, E1q, C1q, t1, f1q, V1q, A1q, ne1⟩
theorem d9_0 : decode method_3_code 0 = .ok (.iload_n 0, 1) := by decide +kernel
theorem d9_1 : decode method_3_code 1 = .ok (.ifCond .ne 14, 3) := by decide +kernel
theorem d9_4 : decode method_3_code 4 = .ok (.new 10, 3) := by decide +kernel
theorem d9_7 : decode method_3_code 7 = .ok (.dup, 1) := by decide +kernel
theorem d9_8 : decode method_3_code 8 = .ok (.iconst 0, 1) := by decide +kernel
theorem d9_9 : decode method_3_code 9 = .ok (.newarray .char, 2) := by decide +kernel
theorem d9_11 : decode method_3_code 11 = .ok (.invokespecial 19, 3) := by decide +kernel
theorem d9_14 : decode method_3_code 14 = .ok (.areturn, 1) := by decide +kernel
theorem d9_15 : decode method_3_code 15 = .ok (.iload_n 0, 1) := by decide +kernel
theorem d9_16 : decode method_3_code 16 = .ok (.iconst 1, 1) := by decide +kernel
theorem d9_17 : decode method_3_code 17 = .ok (.if_icmp .ne 18, 3) := by decide +kernel
theorem d9_20 : decode method_3_code 20 = .ok (.new 10, 3) := by decide +kernel
theorem d9_23 : decode method_3_code 23 = .ok (.dup, 1) := by decide +kernel
theorem d9_24 : decode method_3_code 24 = .ok (.iconst 1, 1) := by decide +kernel
theorem d9_25 : decode method_3_code 25 = .ok (.newarray .char, 2) := by decide +kernel
theorem d9_27 : decode method_3_code 27 = .ok (.dup, 1) := by decide +kernel
theorem d9_28 : decode method_3_code 28 = .ok (.iconst 0, 1) := by decide +kernel
theorem d9_29 : decode method_3_code 29 = .ok (.iload_n 1, 1) := by decide +kernel
theorem d9_30 : decode method_3_code 30 = .ok (.castore, 1) := by decide +kernel
theorem d9_31 : decode method_3_code 31 = .ok (.invokespecial 19, 3) := by decide +kernel
theorem d9_34 : decode method_3_code 34 = .ok (.areturn, 1) := by decide +kernel
theorem d9_35 : decode method_3_code 35 = .ok (.iload_n 0, 1) := by decide +kernel
theorem d9_36 : decode method_3_code 36 = .ok (.iconst 2, 1) := by decide +kernel
theorem d9_37 : decode method_3_code 37 = .ok (.if_icmp .ne 22, 3) := by decide +kernel
theorem d9_40 : decode method_3_code 40 = .ok (.new 10, 3) := by decide +kernel
theorem d9_43 : decode method_3_code 43 = .ok (.dup, 1) := by decide +kernel
theorem d9_44 : decode method_3_code 44 = .ok (.iconst 2, 1) := by decide +kernel
theorem d9_45 : decode method_3_code 45 = .ok (.newarray .char, 2) := by decide +kernel
theorem d9_47 : decode method_3_code 47 = .ok (.dup, 1) := by decide +kernel
theorem d9_48 : decode method_3_code 48 = .ok (.iconst 0, 1) := by decide +kernel
theorem d9_49 : decode method_3_code 49 = .ok (.iload_n 1, 1) := by decide +kernel
theorem d9_50 : decode method_3_code 50 = .ok (.castore, 1) := by decide +kernel
theorem d9_51 : decode method_3_code 51 = .ok (.dup, 1) := by decide +kernel
theorem d9_52 : decode method_3_code 52 = .ok (.iconst 1, 1) := by decide +kernel
theorem d9_53 : decode method_3_code 53 = .ok (.iload_n 2, 1) := by decide +kernel
theorem d9_54 : decode method_3_code 54 = .ok (.castore, 1) := by decide +kernel
theorem d9_55 : decode method_3_code 55 = .ok (.invokespecial 19, 3) := by decide +kernel
theorem d9_58 : decode method_3_code 58 = .ok (.areturn, 1) := by decide +kernel
theorem d9_59 : decode method_3_code 59 = .ok (.iload_n 0, 1) := by decide +kernel
theorem d9_60 : decode method_3_code 60 = .ok (.iconst 3, 1) := by decide +kernel
theorem d9_61 : decode method_3_code 61 = .ok (.if_icmp .ne 26, 3) := by decide +kernel
theorem d9_64 : decode method_3_code 64 = .ok (.new 10, 3) := by decide +kernel
theorem d9_67 : decode method_3_code 67 = .ok (.dup, 1) := by decide +kernel
theorem d9_68 : decode method_3_code 68 = .ok (.iconst 3, 1) := by decide +kernel
theorem d9_69 : decode method_3_code 69 = .ok (.newarray .char, 2) := by decide +kernel
theorem d9_71 : decode method_3_code 71 = .ok (.dup, 1) := by decide +kernel
theorem d9_72 : decode method_3_code 72 = .ok (.iconst 0, 1) := by decide +kernel
theorem d9_73 : decode method_3_code 73 = .ok (.iload_n 1, 1) := by decide +kernel
theorem d9_74 : decode method_3_code 74 = .ok (.castore, 1) := by decide +kernel
theorem d9_75 : decode method_3_code 75 = .ok (.dup, 1) := by decide +kernel
theorem d9_76 : decode method_3_code 76 = .ok (.iconst 1, 1) := by decide +kernel
theorem d9_77 : decode method_3_code 77 = .ok (.iload_n 2, 1) := by decide +kernel
theorem d9_78 : decode method_3_code 78 = .ok (.castore, 1) := by decide +kernel
theorem d9_79 : decode method_3_code 79 = .ok (.dup, 1) := by decide +kernel
theorem d9_80 : decode method_3_code 80 = .ok (.iconst 2, 1) := by decide +kernel
theorem d9_81 : decode method_3_code 81 = .ok (.iload_n 3, 1) := by decide +kernel
theorem d9_82 : decode method_3_code 82 = .ok (.castore, 1) := by decide +kernel
theorem d9_83 : decode method_3_code 83 = .ok (.invokespecial 19, 3) := by decide +kernel
theorem d9_86 : decode method_3_code 86 = .ok (.areturn, 1) := by decide +kernel
theorem d9_87 : decode method_3_code 87 = .ok (.iload_n 0, 1) := by decide +kernel
theorem d9_88 : decode method_3_code 88 = .ok (.iconst 4, 1) := by decide +kernel
theorem d9_89 : decode method_3_code 89 = .ok (.if_icmp .ne 31, 3) := by decide +kernel
theorem d9_92 : decode method_3_code 92 = .ok (.new 10, 3) := by decide +kernel
theorem d9_95 : decode method_3_code 95 = .ok (.dup, 1) := by decide +kernel
theorem d9_96 : decode method_3_code 96 = .ok (.iconst 4, 1) := by decide +kernel
theorem d9_97 : decode method_3_code 97 = .ok (.newarray .char, 2) := by decide +kernel
theorem d9_99 : decode method_3_code 99 = .ok (.dup, 1) := by decide +kernel
theorem d9_100 : decode method_3_code 100 = .ok (.iconst 0, 1) := by decide +kernel
theorem d9_101 : decode method_3_code 101 = .ok (.iload_n 1, 1) := by decide +kernel
theorem d9_102 : decode method_3_code 102 = .ok (.castore, 1) := by decide +kernel
theorem d9_103 : decode method_3_code 103 = .ok (.dup, 1) := by decide +kernel
theorem d9_104 : decode method_3_code 104 = .ok (.iconst 1, 1) := by decide +kernel
theorem d9_105 : decode method_3_code 105 = .ok (.iload_n 2, 1) := by decide +kernel
theorem d9_106 : decode method_3_code 106 = .ok (.castore, 1) := by decide +kernel
theorem d9_107 : decode method_3_code 107 = .ok (.dup, 1) := by decide +kernel
theorem d9_108 : decode method_3_code 108 = .ok (.iconst 2, 1) := by decide +kernel
theorem d9_109 : decode method_3_code 109 = .ok (.iload_n 3, 1) := by decide +kernel
theorem d9_110 : decode method_3_code 110 = .ok (.castore, 1) := by decide +kernel
theorem d9_111 : decode method_3_code 111 = .ok (.dup, 1) := by decide +kernel
theorem d9_112 : decode method_3_code 112 = .ok (.iconst 3, 1) := by decide +kernel
theorem d9_113 : decode method_3_code 113 = .ok (.iload 4, 2) := by decide +kernel
theorem d9_115 : decode method_3_code 115 = .ok (.castore, 1) := by decide +kernel
theorem d9_116 : decode method_3_code 116 = .ok (.invokespecial 19, 3) := by decide +kernel
theorem d9_119 : decode method_3_code 119 = .ok (.areturn, 1) := by decide +kernel
theorem d9_120 : decode method_3_code 120 = .ok (.iload_n 0, 1) := by decide +kernel
theorem d9_121 : decode method_3_code 121 = .ok (.iconst 5, 1) := by decide +kernel
theorem d9_122 : decode method_3_code 122 = .ok (.if_icmp .ne 36, 3) := by decide +kernel
theorem d9_125 : decode method_3_code 125 = .ok (.new 10, 3) := by decide +kernel
theorem d9_128 : decode method_3_code 128 = .ok (.dup, 1) := by decide +kernel
theorem d9_129 : decode method_3_code 129 = .ok (.iconst 5, 1) := by decide +kernel
theorem d9_130 : decode method_3_code 130 = .ok (.newarray .char, 2) := by decide +kernel
theorem d9_132 : decode method_3_code 132 = .ok (.dup, 1) := by decide +kernel
theorem d9_133 : decode method_3_code 133 = .ok (.iconst 0, 1) := by decide +kernel
theorem d9_134 : decode method_3_code 134 = .ok (.iload_n 1, 1) := by decide +kernel
theorem d9_135 : decode method_3_code 135 = .ok (.castore, 1) := by decide +kernel
theorem d9_136 : decode method_3_code 136 = .ok (.dup, 1) := by decide +kernel
theorem d9_137 : decode method_3_code 137 = .ok (.iconst 1, 1) := by decide +kernel
theorem d9_138 : decode method_3_code 138 = .ok (.iload_n 2, 1) := by decide +kernel
theorem d9_139 : decode method_3_code 139 = .ok (.castore, 1) := by decide +kernel
theorem d9_140 : decode method_3_code 140 = .ok (.dup, 1) := by decide +kernel
theorem d9_141 : decode method_3_code 141 = .ok (.iconst 2, 1) := by decide +kernel
theorem d9_142 : decode method_3_code 142 = .ok (.iload_n 3, 1) := by decide +kernel
theorem d9_143 : decode method_3_code 143 = .ok (.castore, 1) := by decide +kernel
theorem d9_144 : decode method_3_code 144 = .ok (.dup, 1) := by decide +kernel
theorem d9_145 : decode method_3_code 145 = .ok (.iconst 3, 1) := by decide +kernel
theorem d9_146 : decode method_3_code 146 = .ok (.iload 4, 2) := by decide +kernel
theorem d9_148 : decode method_3_code 148 = .ok (.castore, 1) := by decide +kernel
theorem d9_149 : decode method_3_code 149 = .ok (.dup, 1) := by decide +kernel
theorem d9_150 : decode method_3_code 150 = .ok (.iconst 4, 1) := by decide +kernel
theorem d9_151 : decode method_3_code 151 = .ok (.iload 5, 2) := by decide +kernel
theorem d9_153 : decode method_3_code 153 = .ok (.castore, 1) := by decide +kernel
theorem d9_154 : decode method_3_code 154 = .ok (.invokespecial 19, 3) := by decide +kernel
theorem d9_157 : decode method_3_code 157 = .ok (.areturn, 1) := by decide +kernel
theorem d9_158 : decode method_3_code 158 = .ok (.new 10, 3) := by decide +kernel
theorem d9_161 : decode method_3_code 161 = .ok (.dup, 1) := by decide +kernel
theorem d9_162 : decode method_3_code 162 = .ok (.bipush 6, 2) := by decide +kernel
theorem d9_164 : decode method_3_code 164 = .ok (.newarray .char, 2) := by decide +kernel
theorem d9_166 : decode method_3_code 166 = .ok (.dup, 1) := by decide +kernel
theorem d9_167 : decode method_3_code 167 = .ok (.iconst 0, 1) := by decide +kernel
theorem d9_168 : decode method_3_code 168 = .ok (.iload_n 1, 1) := by decide +kernel
theorem d9_169 : decode method_3_code 169 = .ok (.castore, 1) := by decide +kernel
theorem d9_170 : decode method_3_code 170 = .ok (.dup, 1) := by decide +kernel
theorem d9_171 : decode method_3_code 171 = .ok (.iconst 1, 1) := by decide +kernel
theorem d9_172 : decode method_3_code 172 = .ok (.iload_n 2, 1) := by decide +kernel
theorem d9_173 : decode method_3_code 173 = .ok (.castore, 1) := by decide +kernel
theorem d9_174 : decode method_3_code 174 = .ok (.dup, 1) := by decide +kernel
theorem d9_175 : decode method_3_code 175 = .ok (.iconst 2, 1) := by decide +kernel
theorem d9_176 : decode method_3_code 176 = .ok (.iload_n 3, 1) := by decide +kernel
theorem d9_177 : decode method_3_code 177 = .ok (.castore, 1) := by decide +kernel
theorem d9_178 : decode method_3_code 178 = .ok (.dup, 1) := by decide +kernel
theorem d9_179 : decode method_3_code 179 = .ok (.iconst 3, 1) := by decide +kernel
theorem d9_180 : decode method_3_code 180 = .ok (.iload 4, 2) := by decide +kernel
theorem d9_182 : decode method_3_code 182 = .ok (.castore, 1) := by decide +kernel
theorem d9_183 : decode method_3_code 183 = .ok (.dup, 1) := by decide +kernel
theorem d9_184 : decode method_3_code 184 = .ok (.iconst 4, 1) := by decide +kernel
theorem d9_185 : decode method_3_code 185 = .ok (.iload 5, 2) := by decide +kernel
theorem d9_187 : decode method_3_code 187 = .ok (.castore, 1) := by decide +kernel
theorem d9_188 : decode method_3_code 188 = .ok (.dup, 1) := by decide +kernel
theorem d9_189 : decode method_3_code 189 = .ok (.iconst 5, 1) := by decide +kernel
theorem d9_190 : decode method_3_code 190 = .ok (.iload 6, 2) := by decide +kernel
theorem d9_192 : decode method_3_code 192 = .ok (.castore, 1) := by decide +kernel
theorem d9_193 : decode method_3_code 193 = .ok (.invokespecial 19, 3) := by decide +kernel
theorem d9_196 : decode method_3_code 196 = .ok (.areturn, 1) := by decide +kernel
theorem ef_9_IIIIIII (m : MethodId) (x0 : Int32) (x1 : Int32) (x2 : Int32) (x3 : Int32) (x4 : Int32) (x5 : Int32) (x6 : Int32) : entryFrame m #[(.int x0), (.int x1), (.int x2), (.int x3), (.int x4), (.int x5), (.int x6)] 7 = mkF m 0 #[.val (.int x0), .val (.int x1), .val (.int x2), .val (.int x3), .val (.int x4), .val (.int x5), .val (.int x6)] [] := by first | (simp [entryFrame, mkF, argsToLocals, Value.category]; done) | rfl
def Q_rmMake (Z : State) (n : Nat) (va vb vc vd ve vf G1 : Int32) (h0 : Heap) (n0 : Nat) (v : Option Value) (h : Heap) (L : List Loc) : Prop := ∃ b t g, v = some (.ref b) ∧ Fr n0 L ∧ Keep h0 h [] ∧ n0 ≤ b ∧ Exa Z h b "java/lang/String" ∧ Fld Z h b "java/lang/String" "coder" "B" (.int (0 : Int32)) ∧ Fld Z h b "java/lang/String" "value" "[B" (.ref t) ∧ BArr Z h t n g
theorem pd_9 : parseMethodDescriptor "([C)V" = some ⟨[(.array .char)], none⟩ := by decide +kernel
set_option maxRecDepth 65536 in
set_option maxHeartbeats 40000000 in
theorem rmMake (l : Launch) (Z : State) (a0 : Array Value) (hw : ∀ d ∈ tables_1, d.before a0 Z = true) (ws : List Jvm.Cond) (n : Nat) (va vb vc vd ve vf G1 : Int32) (h0 : Heap) (n0 : Nat) (Z0 : n0 ≤ h0.size) (O2 : Sta Z h0 "java/lang/String" "COMPACT_STRINGS" "Z" (.int G1)) (hG : ¬ G1 = (0 : Int32)) (hEL : EW Z a0 consts_1) (hcva : ¬ va < (0 : Int32) ∧ ¬ (255 : Int32) < va) (hcvb : ¬ vb < (0 : Int32) ∧ ¬ (255 : Int32) < vb) (hcvc : ¬ vc < (0 : Int32) ∧ ¬ (255 : Int32) < vc) (hcvd : ¬ vd < (0 : Int32) ∧ ¬ (255 : Int32) < vd) (hcve : ¬ ve < (0 : Int32) ∧ ¬ (255 : Int32) < ve) (hcvf : ¬ vf < (0 : Int32) ∧ ¬ (255 : Int32) < vf) (hn6 : n ≤ 6) :
    MetFree l (⟨"com/example/interest_ranker/interestranker/model/TypeByIdPinLaw", "make", "(ICCCCCC)Ljava/lang/String;"⟩ : MethodName) (head1 (Jvm.Cond.code (⟨"com/example/interest_ranker/interestranker/model/TypeByIdPinLaw", "make", "(ICCCCCC)Ljava/lang/String;"⟩ : MethodName) method_3_code 7 (some (.object "java/lang/String")) :: ws) ({ frames := 5, cells := 6, slots := 16, locals := 100 } : Room)) (fun a U => a = #[(.int (Int32.ofNat n)), (.int va), (.int vb), (.int vc), (.int vd), (.int ve), (.int vf)] ∧ Z.Warmed39 U.vm ∧ U.heap = h0 ∧ CHv Z consts_1 U.vm h0) (fun _ _ _ _ _ => True) (fun _ U o U' => ∃ v L, o = .returned v ∧ Q_rmMake Z n va vb vc vd ve vf G1 h0 n0 v U'.heap L ∧ CHr Z consts_1 U.vm U.heap U'.vm U'.heap ∧ ReturnedEndW U o U' L ({ frames := 5, cells := 6, slots := 16, locals := 100 } : Room).cells ({ frames := 5, cells := 6, slots := 16, locals := 100 } : Room).slots) := by
  refine own_metH (EL := consts_1) (y := (⟨"com/example/interest_ranker/interestranker/model/TypeByIdPinLaw", "make", "(ICCCCCC)Ljava/lang/String;"⟩ : MethodName)) (Q := (Q_rmMake Z n va vb vc vd ve vf G1 h0 n0)) (plainFor_of_name pn_1) fun p e s m below meth c s₁ X0 hx hby hml hret hlk hown hnm hZ e0 hS C0 => ?_
  have hk := Nat.le_refl h0.size
  refine own_entryH (ef_9_IIIIIII m (Int32.ofNat n) va vb vc vd ve vf) ?_
  have K0 := Keep.refl h0 []
  have hn7 : n = 0 ∨ n = 1 ∨ n = 2 ∨ n = 3 ∨ n = 4 ∨ n = 5 ∨ n = 6 := (by omega)
  rcases hn7 with rfl | rfl | rfl | rfl | rfl | rfl | rfl
  · skip
    rw [show Int32.ofNat 0 = (0 : Int32) from rfl]
    refine own_toH s₁ (mkF m 4 #[.val (.int (0 : Int32)), .val (.int va), .val (.int vb), .val (.int vc), .val (.int vd), .val (.int ve), .val (.int vf)] []) (fun tq kq => XS.iloadN X0.here hx rfl (hb hby d9_0) rfl (XS.ifNo X0.here hx rfl (hb hby d9_1) rfl ((if0 _ _).trans (teq (by decide : (0 : Int32) = (0 : Int32))).2) kq)) ?_
    obtain ⟨T1, h1, X1, e1, E1, A1, D1, -, st1⟩ := newO X0 hx hZ hown (own_w hw 51 rfl) (own_w hw 2 rfl) (own_w hw 1 rfl) e0 (g := (mkF m 4 #[.val (.int (0 : Int32)), .val (.int va), .val (.int vb), .val (.int vc), .val (.int vd), .val (.int ve), .val (.int vf)] [])) rfl (hb hby d9_4) (by decide) (by decide)
    obtain ⟨b1, g1⟩ : ∃ z, z = h0.size := ⟨_, rfl⟩
    rw [← g1] at A1 D1 st1
    have f2 := O2.ext E1
    have Sf1 := Safe.ext (x := b1) E1 C0.1 (Safe.new (Nat.le_of_eq g1.symm))
    have C1 := C0.trans (CHr.ext E1 C0.1)
    have sz1 : n0 ≤ b1 := Nat.le_trans Z0 (Nat.le_of_eq g1.symm)
    have hs1 : h0.size ≤ b1 := Nat.le_trans K0.1 (Nat.le_of_eq g1.symm)
    have Zs1 : n0 ≤ h1.size := Nat.le_trans Z0 E1.1
    have K1 := K0.ext E1
    have hk := Nat.le_trans hk E1.1
    have F1_value : Fld Z h1 b1 "java/lang/String" "value" "[B" .null := D1 (Or.inr (own_w hw 4 rfl)) (ty := (.array .byte)) (by decide)
    have F1_coder : Fld Z h1 b1 "java/lang/String" "coder" "B" (.int (0 : Int32)) := D1 (Or.inr (own_w hw 5 rfl)) (ty := .byte) (by decide)
    refine own_toH T1 (mkF m 9 #[.val (.int (0 : Int32)), .val (.int va), .val (.int vb), .val (.int vc), .val (.int vd), .val (.int ve), .val (.int vf)] [(.int (0 : Int32)), (.ref b1), (.ref b1)]) (fun tq kq => st1 _ (XS.dup X1.here hx rfl (hb hby d9_7) rfl rfl (XS.iconst X1.here hx rfl (hb hby d9_8) kq))) ?_
    obtain ⟨T3, h3, k3, X3, e3, E3, A3, st3⟩ := newP X1 hx hZ (own_w hw 52 rfl) e1 (g := (mkF m 9 #[.val (.int (0 : Int32)), .val (.int va), .val (.int vb), .val (.int vc), .val (.int vd), .val (.int ve), .val (.int vf)] [(.int (0 : Int32)), (.ref b1), (.ref b1)])) rfl (hb hby d9_9) rfl (by decide) (cap := 0) (by decide) (by decide) (by decide) (by decide)
    obtain ⟨b3, g3⟩ : ∃ z, z = h1.size := ⟨_, rfl⟩
    rw [← g3] at A3 st3
    have ne_b1_b3 : own_ne b1 b3 := Nat.ne_of_lt (Nat.lt_of_lt_of_le A1.lt (Nat.le_of_eq g3.symm))
    have f4 := f2.ext E3
    have f5 := Safe.ext E3 C1.1 Sf1
    have f6 := A1.ext E3
    have f7 := F1_value.ext E3
    have f8 := F1_coder.ext E3
    have Sf3 := Safe.ext (x := b3) E3 C1.1 (Safe.new (Nat.le_of_eq g3.symm))
    have C3 := C1.trans (CHr.ext E3 C1.1)
    have sz3 : n0 ≤ b3 := Nat.le_trans Zs1 (Nat.le_of_eq g3.symm)
    have hs3 : h0.size ≤ b3 := Nat.le_trans K1.1 (Nat.le_of_eq g3.symm)
    have Zs3 : n0 ≤ h3.size := Nat.le_trans Zs1 E3.1
    have K3 := K1.ext E3
    have hk := Nat.le_trans hk E3.1
    have V3 : Arv Z h3 b3 k3 .char (0 : Int32) [] (.int (0 : Int32)) := Arv.new A3 (by decide)
    refine own_toH T3 (mkF m 11 #[.val (.int (0 : Int32)), .val (.int va), .val (.int vb), .val (.int vc), .val (.int vd), .val (.int ve), .val (.int vf)] [(.ref b3), (.ref b1), (.ref b1)]) (fun tq kq => st3 _ kq) ?_
    obtain ⟨cz, Az, qz, Sz, -⟩ := id V3
    obtain ⟨_, _, ⟨T9, L9, k9, n9⟩, -, X9, hS9, hgr9, ⟨Lc9, hQ9, l9, y9, z9, hC9⟩, st9⟩ := X3.specialBackS hx (y := (⟨"java/lang/String", "<init>", "([C)V"⟩ : MethodName)) rfl hown (mvT hZ (own_w hw 53 rfl)) (mvT hZ (own_w hw 54 rfl)) (mvT hZ (own_w hw 55 rfl)) (by decide) (own_backSH (W := 1) (rmS0 l Z a0 hw [] b1 b3 cz h3 n0 Zs3 hEL f6 f7 f8 sz1 Az (Sz.trans (by decide))) hZ (own_w hw 55 rfl) (own_w hw 1 rfl) (by decide) (by decide) hEL C3.1 f6.lt f5) (g := (mkF m 11 #[.val (.int (0 : Int32)), .val (.int va), .val (.int vb), .val (.int vc), .val (.int vd), .val (.int ve), .val (.int vf)] [(.ref b3), (.ref b1), (.ref b1)])) rfl (by rw [hml]; rfl) (Steps.refl _) (a := b1) (argsL := [(.ref b3)]) (rest := [(.ref b1)]) (lenOf pd_9 rfl) rfl (by show 2 * 0 + _ ≤ _; exact Nat.le_of_eq rfl) (hb hby d9_11) (fun _ _ => ⟨rfl, e3, (by decide : 2 + 4 ≤ _), (by decide : 4 + 8 ≤ _)⟩)
    dsimp only [Pt.U, Pt.locs, Pt.cells, Pt.slots] at X9 l9 y9 z9 st9 hQ9
    have l9y := l9.symm
    clear l9
    subst l9y
    obtain rfl : k9 = 6 := y9
    obtain rfl : n9 = 12 := z9
    dsimp only [Pt.U, Pt.locs, Pt.cells, Pt.slots] at hS9 hgr9 hC9
    have C9 := C3.trans hC9
    obtain ⟨X9, hS, hZ, hown⟩ := rebS hS hk X9 hS9 (by rw [← e3]; exact hgr9) hZ hown
    have hk := Nat.le_refl T9.heap.size
    obtain ⟨rfl, N9q, K9q, E9q, C9q, t9, f9q, V9q, A9q, ne9⟩ := hQ9
    have N9 := Fr.app (Fr.nil n0) N9q
    have Zs9 : n0 ≤ T9.heap.size := Nat.le_trans Zs3 K9q.1
    have KK9 := K3.trans K9q (allS (Or.inr hs1) all0)
    refine own_toH T9 (mkF m 14 #[.val (.int (0 : Int32)), .val (.int va), .val (.int vb), .val (.int vc), .val (.int vd), .val (.int ve), .val (.int vf)] [(.ref b1)]) (fun tq kq => st9.trans kq) ?_
    exact own_retAH X9 hS hk hZ hEL C9 hx hret hlk rfl rfl (hb hby d9_14) (by decide) (by decide) ⟨b1, t9, f9q, rfl, N9, KK9, sz1, E9q, C9q, V9q, A9q⟩
  · skip
    rw [show Int32.ofNat 1 = (1 : Int32) from rfl]
    refine own_toH s₁ (mkF m 20 #[.val (.int (1 : Int32)), .val (.int va), .val (.int vb), .val (.int vc), .val (.int vd), .val (.int ve), .val (.int vf)] []) (fun tq kq => XS.iloadN X0.here hx rfl (hb hby d9_0) rfl (XS.ifYes X0.here hx rfl (pc0 := 1) (pc' := 15) rfl (hb hby d9_1) rfl ((if0 _ _).trans (feq (by decide : ¬ ((1 : Int32) = (0 : Int32)))).2) (by decide) (by decide) (XS.iloadN X0.here hx rfl (hb hby d9_15) rfl (XS.iconst X0.here hx rfl (hb hby d9_16) (XS.icmpNo X0.here hx rfl (hb hby d9_17) rfl (teq (by decide : (1 : Int32) = (1 : Int32))).2 kq))))) ?_
    obtain ⟨T10, h10, X10, e10, E10, A10, D10, -, st10⟩ := newO X0 hx hZ hown (own_w hw 51 rfl) (own_w hw 2 rfl) (own_w hw 1 rfl) e0 (g := (mkF m 20 #[.val (.int (1 : Int32)), .val (.int va), .val (.int vb), .val (.int vc), .val (.int vd), .val (.int ve), .val (.int vf)] [])) rfl (hb hby d9_20) (by decide) (by decide)
    obtain ⟨b10, g10⟩ : ∃ z, z = h0.size := ⟨_, rfl⟩
    rw [← g10] at A10 D10 st10
    have f11 := O2.ext E10
    have Sf10 := Safe.ext (x := b10) E10 C0.1 (Safe.new (Nat.le_of_eq g10.symm))
    have C10 := C0.trans (CHr.ext E10 C0.1)
    have sz10 : n0 ≤ b10 := Nat.le_trans Z0 (Nat.le_of_eq g10.symm)
    have hs10 : h0.size ≤ b10 := Nat.le_trans K0.1 (Nat.le_of_eq g10.symm)
    have Zs10 : n0 ≤ h10.size := Nat.le_trans Z0 E10.1
    have K10 := K0.ext E10
    have hk := Nat.le_trans hk E10.1
    have F10_value : Fld Z h10 b10 "java/lang/String" "value" "[B" .null := D10 (Or.inr (own_w hw 4 rfl)) (ty := (.array .byte)) (by decide)
    have F10_coder : Fld Z h10 b10 "java/lang/String" "coder" "B" (.int (0 : Int32)) := D10 (Or.inr (own_w hw 5 rfl)) (ty := .byte) (by decide)
    refine own_toH T10 (mkF m 25 #[.val (.int (1 : Int32)), .val (.int va), .val (.int vb), .val (.int vc), .val (.int vd), .val (.int ve), .val (.int vf)] [(.int (1 : Int32)), (.ref b10), (.ref b10)]) (fun tq kq => st10 _ (XS.dup X10.here hx rfl (hb hby d9_23) rfl rfl (XS.iconst X10.here hx rfl (hb hby d9_24) kq))) ?_
    obtain ⟨T12, h12, k12, X12, e12, E12, A12, st12⟩ := newP X10 hx hZ (own_w hw 52 rfl) e10 (g := (mkF m 25 #[.val (.int (1 : Int32)), .val (.int va), .val (.int vb), .val (.int vc), .val (.int vd), .val (.int ve), .val (.int vf)] [(.int (1 : Int32)), (.ref b10), (.ref b10)])) rfl (hb hby d9_25) rfl (by decide) (cap := 1) (by decide) (by decide) (by decide) (by decide)
    obtain ⟨b12, g12⟩ : ∃ z, z = h10.size := ⟨_, rfl⟩
    rw [← g12] at A12 st12
    have ne_b10_b12 : own_ne b10 b12 := Nat.ne_of_lt (Nat.lt_of_lt_of_le A10.lt (Nat.le_of_eq g12.symm))
    have f13 := f11.ext E12
    have f14 := Safe.ext E12 C10.1 Sf10
    have f15 := A10.ext E12
    have f16 := F10_value.ext E12
    have f17 := F10_coder.ext E12
    have Sf12 := Safe.ext (x := b12) E12 C10.1 (Safe.new (Nat.le_of_eq g12.symm))
    have C12 := C10.trans (CHr.ext E12 C10.1)
    have sz12 : n0 ≤ b12 := Nat.le_trans Zs10 (Nat.le_of_eq g12.symm)
    have hs12 : h0.size ≤ b12 := Nat.le_trans K10.1 (Nat.le_of_eq g12.symm)
    have Zs12 : n0 ≤ h12.size := Nat.le_trans Zs10 E12.1
    have K12 := K10.ext E12
    have hk := Nat.le_trans hk E12.1
    have V12 : Arv Z h12 b12 k12 .char (1 : Int32) [] (.int (0 : Int32)) := Arv.new A12 (by decide)
    refine own_toH T12 (mkF m 30 #[.val (.int (1 : Int32)), .val (.int va), .val (.int vb), .val (.int vc), .val (.int vd), .val (.int ve), .val (.int vf)] [(.int va), (.int (0 : Int32)), (.ref b12), (.ref b12), (.ref b10), (.ref b10)]) (fun tq kq => st12 _ (XS.dup X12.here hx rfl (hb hby d9_27) rfl rfl (XS.iconst X12.here hx rfl (hb hby d9_28) (XS.iloadN X12.here hx rfl (hb hby d9_29) rfl kq)))) ?_
    have Po19 := V12.pad (pad_rep [] (.int (0 : Int32)) 1)
    obtain ⟨co19, Aro19, qo19, So19, Mo19, Ho19, Uo19⟩ := Po19
    obtain ⟨T18, h18, X18, e18, W18, st18⟩ := stC X12 hx hZ e12 Aro19 (j := (0 : Int32)) (inb_of So19 ⟨by decide, by decide⟩) (g := (mkF m 30 #[.val (.int (1 : Int32)), .val (.int va), .val (.int vb), .val (.int vc), .val (.int vd), .val (.int ve), .val (.int vf)] [(.int va), (.int (0 : Int32)), (.ref b12), (.ref b12), (.ref b10), (.ref b10)])) rfl rfl (hb hby d9_30)
    have f20 := f13.wr W18
    have f21 := Safe.wr W18 Sf12 C12.1 f14
    have f22 := f15.wr W18
    have f23 := f16.other W18 (Or.inl ne_b10_b12)
    have f24 := f17.other W18 (Or.inl ne_b10_b12)
    have f25 := Safe.wr W18 Sf12 C12.1 Sf12
    have N18 := Fr.snoc X18 (Fr.nil n0) sz12
    have Zs18 : n0 ≤ h18.size := by rw [W18.size]; exact Zs12
    have K18 := K12.wr W18 (Or.inr hs12)
    have hk := Nat.le_trans hk (Nat.le_of_eq W18.size.symm)
    have C18 := C12.trans (CHr.wr W18 Sf12 C12.1)
    have V18 := Arv.set Aro19 qo19 So19 Mo19 Ho19 Uo19 (fits_nar_char _) W18 0 rfl (Nat.le_of_ble_eq_true rfl)
    rw [own_nar hcva] at V18
    have V18 : Arv Z h18 b12 k12 .char (1 : Int32) [(.int va)] (.int (0 : Int32)) := V18
    refine own_toH T18 (mkF m 31 #[.val (.int (1 : Int32)), .val (.int va), .val (.int vb), .val (.int vc), .val (.int vd), .val (.int ve), .val (.int vf)] [(.ref b12), (.ref b10), (.ref b10)]) (fun tq kq => st18 _ kq) ?_
    have hws : ∀ d ∈ StrChars.Road.words, d.before a0 Z = true := fun d hd => hw d ((by decide +kernel : ∀ d ∈ StrChars.Road.words, d ∈ tables_1) d hd)
    have hpc : ∀ q ∈ ([va] : List Int32), ¬ q < 0 ∧ ¬ (255 : Int32) < q := by
      intro q hq
      simp only [List.mem_cons, List.not_mem_nil, or_false] at hq
      rcases hq with rfl
      · exact hcva
    obtain ⟨_, _, ⟨T26, L26, k26, n26⟩, -, X26, ⟨Lc26, hQ26, l26, y26, z26⟩, st26⟩ := X18.specialBack hx (y := (⟨"java/lang/String", "<init>", "([C)V"⟩ : MethodName)) rfl hown (mvT hZ (own_w hw 53 rfl)) (mvT hZ (own_w hw 54 rfl)) (mvT hZ (own_w hw 55 rfl)) (by decide) (StrChars.Road.backV (W := 1) hZ hws (kI := 4) (own_w hw 2 rfl) (cs := ([va] : List Int32)) (bs := (([va] : List Int32)).map (fun c => c.toInt8.toInt32)) (n := 1) sz10 Zs18 f22 f23 f24 V18 f20 hG rfl rfl (by decide) (by decide) hpc rfl (by decide) (by decide)) (g := (mkF m 31 #[.val (.int (1 : Int32)), .val (.int va), .val (.int vb), .val (.int vc), .val (.int vd), .val (.int ve), .val (.int vf)] [(.ref b12), (.ref b10), (.ref b10)])) rfl (by rw [hml]; rfl) (Steps.refl _) (a := b10) (argsL := [(.ref b12)]) (rest := [(.ref b10)]) (lenOf pd_9 rfl) rfl (by show 2 * 0 + _ ≤ _; exact Nat.le_of_eq rfl) (hb hby d9_31) (fun _ _ => ⟨rfl, e18, (by decide : 2 + 1 ≤ _), (by decide : 5 + 1 ≤ _)⟩)
    dsimp only [Pt.U, Pt.locs, Pt.cells, Pt.slots] at X26 l26 y26 z26 st26 hQ26
    have l26y := l26.symm
    clear l26
    subst l26y
    obtain rfl : k26 = 3 := y26
    obtain rfl : n26 = 6 := z26
    obtain ⟨rfl, N26q, K26q, E26q, C26q, t26, kb26, gt26, ht26, ne26, V26q, A26q⟩ := hQ26
    have N26 := Fr.app N18 N26q
    have f27 := Safe.keep K26q (allS f21 all0) C18.1 f21
    have f28 := Safe.keep K26q (allS f21 all0) C18.1 f25
    have Zs26 : n0 ≤ T26.heap.size := Nat.le_trans Zs18 K26q.1
    have hk := Nat.le_trans hk K26q.1
    have C26 := C18.trans (CHr.keep K26q (allS f21 all0) C18.1)
    have KK26 := K18.trans K26q (allS (Or.inr hs10) all0)
    have B26 : BArr Z T26.heap t26 1 (fun i => (([va] : List Int32).map (fun c => c.toInt8.toInt32)).getD i 0) := own_barr A26q rfl (by decide)
    refine own_toH T26 (mkF m 34 #[.val (.int (1 : Int32)), .val (.int va), .val (.int vb), .val (.int vc), .val (.int vd), .val (.int ve), .val (.int vf)] [(.ref b10)]) (fun tq kq => st26.trans kq) ?_
    exact own_retAH X26 hS hk hZ hEL C26 hx hret hlk rfl rfl (hb hby d9_34) (by decide) (by decide) ⟨b10, t26, (fun i => (([va] : List Int32).map (fun c => c.toInt8.toInt32)).getD i 0), rfl, N26, KK26, sz10, E26q, C26q, V26q, B26⟩
  · skip
    rw [show Int32.ofNat 2 = (2 : Int32) from rfl]
    refine own_toH s₁ (mkF m 40 #[.val (.int (2 : Int32)), .val (.int va), .val (.int vb), .val (.int vc), .val (.int vd), .val (.int ve), .val (.int vf)] []) (fun tq kq => XS.iloadN X0.here hx rfl (hb hby d9_0) rfl (XS.ifYes X0.here hx rfl (pc0 := 1) (pc' := 15) rfl (hb hby d9_1) rfl ((if0 _ _).trans (feq (by decide : ¬ ((2 : Int32) = (0 : Int32)))).2) (by decide) (by decide) (XS.iloadN X0.here hx rfl (hb hby d9_15) rfl (XS.iconst X0.here hx rfl (hb hby d9_16) (XS.icmpYes X0.here hx rfl (pc0 := 17) (pc' := 35) rfl (hb hby d9_17) rfl (feq (by decide : ¬ ((2 : Int32) = (1 : Int32)))).2 (by decide) (by decide) (XS.iloadN X0.here hx rfl (hb hby d9_35) rfl (XS.iconst X0.here hx rfl (hb hby d9_36) (XS.icmpNo X0.here hx rfl (hb hby d9_37) rfl (teq (by decide : (2 : Int32) = (2 : Int32))).2 kq)))))))) ?_
    obtain ⟨T29, h29, X29, e29, E29, A29, D29, -, st29⟩ := newO X0 hx hZ hown (own_w hw 51 rfl) (own_w hw 2 rfl) (own_w hw 1 rfl) e0 (g := (mkF m 40 #[.val (.int (2 : Int32)), .val (.int va), .val (.int vb), .val (.int vc), .val (.int vd), .val (.int ve), .val (.int vf)] [])) rfl (hb hby d9_40) (by decide) (by decide)
    obtain ⟨b29, g29⟩ : ∃ z, z = h0.size := ⟨_, rfl⟩
    rw [← g29] at A29 D29 st29
    have f30 := O2.ext E29
    have Sf29 := Safe.ext (x := b29) E29 C0.1 (Safe.new (Nat.le_of_eq g29.symm))
    have C29 := C0.trans (CHr.ext E29 C0.1)
    have sz29 : n0 ≤ b29 := Nat.le_trans Z0 (Nat.le_of_eq g29.symm)
    have hs29 : h0.size ≤ b29 := Nat.le_trans K0.1 (Nat.le_of_eq g29.symm)
    have Zs29 : n0 ≤ h29.size := Nat.le_trans Z0 E29.1
    have K29 := K0.ext E29
    have hk := Nat.le_trans hk E29.1
    have F29_value : Fld Z h29 b29 "java/lang/String" "value" "[B" .null := D29 (Or.inr (own_w hw 4 rfl)) (ty := (.array .byte)) (by decide)
    have F29_coder : Fld Z h29 b29 "java/lang/String" "coder" "B" (.int (0 : Int32)) := D29 (Or.inr (own_w hw 5 rfl)) (ty := .byte) (by decide)
    refine own_toH T29 (mkF m 45 #[.val (.int (2 : Int32)), .val (.int va), .val (.int vb), .val (.int vc), .val (.int vd), .val (.int ve), .val (.int vf)] [(.int (2 : Int32)), (.ref b29), (.ref b29)]) (fun tq kq => st29 _ (XS.dup X29.here hx rfl (hb hby d9_43) rfl rfl (XS.iconst X29.here hx rfl (hb hby d9_44) kq))) ?_
    obtain ⟨T31, h31, k31, X31, e31, E31, A31, st31⟩ := newP X29 hx hZ (own_w hw 52 rfl) e29 (g := (mkF m 45 #[.val (.int (2 : Int32)), .val (.int va), .val (.int vb), .val (.int vc), .val (.int vd), .val (.int ve), .val (.int vf)] [(.int (2 : Int32)), (.ref b29), (.ref b29)])) rfl (hb hby d9_45) rfl (by decide) (cap := 2) (by decide) (by decide) (by decide) (by decide)
    obtain ⟨b31, g31⟩ : ∃ z, z = h29.size := ⟨_, rfl⟩
    rw [← g31] at A31 st31
    have ne_b29_b31 : own_ne b29 b31 := Nat.ne_of_lt (Nat.lt_of_lt_of_le A29.lt (Nat.le_of_eq g31.symm))
    have f32 := f30.ext E31
    have f33 := Safe.ext E31 C29.1 Sf29
    have f34 := A29.ext E31
    have f35 := F29_value.ext E31
    have f36 := F29_coder.ext E31
    have Sf31 := Safe.ext (x := b31) E31 C29.1 (Safe.new (Nat.le_of_eq g31.symm))
    have C31 := C29.trans (CHr.ext E31 C29.1)
    have sz31 : n0 ≤ b31 := Nat.le_trans Zs29 (Nat.le_of_eq g31.symm)
    have hs31 : h0.size ≤ b31 := Nat.le_trans K29.1 (Nat.le_of_eq g31.symm)
    have Zs31 : n0 ≤ h31.size := Nat.le_trans Zs29 E31.1
    have K31 := K29.ext E31
    have hk := Nat.le_trans hk E31.1
    have V31 : Arv Z h31 b31 k31 .char (2 : Int32) [] (.int (0 : Int32)) := Arv.new A31 (by decide)
    refine own_toH T31 (mkF m 50 #[.val (.int (2 : Int32)), .val (.int va), .val (.int vb), .val (.int vc), .val (.int vd), .val (.int ve), .val (.int vf)] [(.int va), (.int (0 : Int32)), (.ref b31), (.ref b31), (.ref b29), (.ref b29)]) (fun tq kq => st31 _ (XS.dup X31.here hx rfl (hb hby d9_47) rfl rfl (XS.iconst X31.here hx rfl (hb hby d9_48) (XS.iloadN X31.here hx rfl (hb hby d9_49) rfl kq)))) ?_
    have Po38 := V31.pad (pad_rep [] (.int (0 : Int32)) 1)
    obtain ⟨co38, Aro38, qo38, So38, Mo38, Ho38, Uo38⟩ := Po38
    obtain ⟨T37, h37, X37, e37, W37, st37⟩ := stC X31 hx hZ e31 Aro38 (j := (0 : Int32)) (inb_of So38 ⟨by decide, by decide⟩) (g := (mkF m 50 #[.val (.int (2 : Int32)), .val (.int va), .val (.int vb), .val (.int vc), .val (.int vd), .val (.int ve), .val (.int vf)] [(.int va), (.int (0 : Int32)), (.ref b31), (.ref b31), (.ref b29), (.ref b29)])) rfl rfl (hb hby d9_50)
    have f39 := f32.wr W37
    have f40 := Safe.wr W37 Sf31 C31.1 f33
    have f41 := f34.wr W37
    have f42 := f35.other W37 (Or.inl ne_b29_b31)
    have f43 := f36.other W37 (Or.inl ne_b29_b31)
    have f44 := Safe.wr W37 Sf31 C31.1 Sf31
    have N37 := Fr.snoc X37 (Fr.nil n0) sz31
    have Zs37 : n0 ≤ h37.size := by rw [W37.size]; exact Zs31
    have K37 := K31.wr W37 (Or.inr hs31)
    have hk := Nat.le_trans hk (Nat.le_of_eq W37.size.symm)
    have C37 := C31.trans (CHr.wr W37 Sf31 C31.1)
    have V37 := Arv.set Aro38 qo38 So38 Mo38 Ho38 Uo38 (fits_nar_char _) W37 0 rfl (Nat.le_of_ble_eq_true rfl)
    rw [own_nar hcva] at V37
    have V37 : Arv Z h37 b31 k31 .char (2 : Int32) [(.int va)] (.int (0 : Int32)) := V37
    refine own_toH T37 (mkF m 54 #[.val (.int (2 : Int32)), .val (.int va), .val (.int vb), .val (.int vc), .val (.int vd), .val (.int ve), .val (.int vf)] [(.int vb), (.int (1 : Int32)), (.ref b31), (.ref b31), (.ref b29), (.ref b29)]) (fun tq kq => st37 _ (XS.dup X37.here hx rfl (hb hby d9_51) rfl rfl (XS.iconst X37.here hx rfl (hb hby d9_52) (XS.iloadN X37.here hx rfl (hb hby d9_53) rfl kq)))) ?_
    have Po46 := V37.pad (pad_rep [(.int va)] (.int (0 : Int32)) 1)
    obtain ⟨co46, Aro46, qo46, So46, Mo46, Ho46, Uo46⟩ := Po46
    obtain ⟨T45, h45, X45, e45, W45, st45⟩ := stC X37 hx hZ e37 Aro46 (j := (1 : Int32)) (inb_of So46 ⟨by decide, by decide⟩) (g := (mkF m 54 #[.val (.int (2 : Int32)), .val (.int va), .val (.int vb), .val (.int vc), .val (.int vd), .val (.int ve), .val (.int vf)] [(.int vb), (.int (1 : Int32)), (.ref b31), (.ref b31), (.ref b29), (.ref b29)])) rfl rfl (hb hby d9_54)
    have f47 := f39.wr W45
    have f48 := Safe.wr W45 f44 C37.1 f40
    have f49 := f41.wr W45
    have f50 := f42.other W45 (Or.inl ne_b29_b31)
    have f51 := f43.other W45 (Or.inl ne_b29_b31)
    have f52 := Safe.wr W45 f44 C37.1 f44
    have N45 := Fr.snoc X45 N37 sz31
    have Zs45 : n0 ≤ h45.size := by rw [W45.size]; exact Zs37
    have K45 := K37.wr W45 (Or.inr hs31)
    have hk := Nat.le_trans hk (Nat.le_of_eq W45.size.symm)
    have C45 := C37.trans (CHr.wr W45 f44 C37.1)
    have V45 := Arv.set Aro46 qo46 So46 Mo46 Ho46 Uo46 (fits_nar_char _) W45 1 rfl (Nat.le_of_ble_eq_true rfl)
    rw [own_nar hcvb] at V45
    have V45 : Arv Z h45 b31 k31 .char (2 : Int32) [(.int va), (.int vb)] (.int (0 : Int32)) := V45
    refine own_toH T45 (mkF m 55 #[.val (.int (2 : Int32)), .val (.int va), .val (.int vb), .val (.int vc), .val (.int vd), .val (.int ve), .val (.int vf)] [(.ref b31), (.ref b29), (.ref b29)]) (fun tq kq => st45 _ kq) ?_
    have hws : ∀ d ∈ StrChars.Road.words, d.before a0 Z = true := fun d hd => hw d ((by decide +kernel : ∀ d ∈ StrChars.Road.words, d ∈ tables_1) d hd)
    have hpc : ∀ q ∈ ([va, vb] : List Int32), ¬ q < 0 ∧ ¬ (255 : Int32) < q := by
      intro q hq
      simp only [List.mem_cons, List.not_mem_nil, or_false] at hq
      rcases hq with rfl | rfl
      · exact hcva
      · exact hcvb
    obtain ⟨_, _, ⟨T53, L53, k53, n53⟩, -, X53, ⟨Lc53, hQ53, l53, y53, z53⟩, st53⟩ := X45.specialBack hx (y := (⟨"java/lang/String", "<init>", "([C)V"⟩ : MethodName)) rfl hown (mvT hZ (own_w hw 53 rfl)) (mvT hZ (own_w hw 54 rfl)) (mvT hZ (own_w hw 55 rfl)) (by decide) (StrChars.Road.backV (W := 1) hZ hws (kI := 4) (own_w hw 2 rfl) (cs := ([va, vb] : List Int32)) (bs := (([va, vb] : List Int32)).map (fun c => c.toInt8.toInt32)) (n := 2) sz29 Zs45 f49 f50 f51 V45 f47 hG rfl rfl (by decide) (by decide) hpc rfl (by decide) (by decide)) (g := (mkF m 55 #[.val (.int (2 : Int32)), .val (.int va), .val (.int vb), .val (.int vc), .val (.int vd), .val (.int ve), .val (.int vf)] [(.ref b31), (.ref b29), (.ref b29)])) rfl (by rw [hml]; rfl) (Steps.refl _) (a := b29) (argsL := [(.ref b31)]) (rest := [(.ref b29)]) (lenOf pd_9 rfl) rfl (by show 2 * 0 + _ ≤ _; exact Nat.le_of_eq rfl) (hb hby d9_55) (fun _ _ => ⟨rfl, e45, (by decide : 2 + 1 ≤ _), (by decide : 6 + 2 ≤ _)⟩)
    dsimp only [Pt.U, Pt.locs, Pt.cells, Pt.slots] at X53 l53 y53 z53 st53 hQ53
    have l53y := l53.symm
    clear l53
    subst l53y
    obtain rfl : k53 = 3 := y53
    obtain rfl : n53 = 8 := z53
    obtain ⟨rfl, N53q, K53q, E53q, C53q, t53, kb53, gt53, ht53, ne53, V53q, A53q⟩ := hQ53
    have N53 := Fr.app N45 N53q
    have f54 := Safe.keep K53q (allS f48 all0) C45.1 f48
    have f55 := Safe.keep K53q (allS f48 all0) C45.1 f52
    have Zs53 : n0 ≤ T53.heap.size := Nat.le_trans Zs45 K53q.1
    have hk := Nat.le_trans hk K53q.1
    have C53 := C45.trans (CHr.keep K53q (allS f48 all0) C45.1)
    have KK53 := K45.trans K53q (allS (Or.inr hs29) all0)
    have B53 : BArr Z T53.heap t53 2 (fun i => (([va, vb] : List Int32).map (fun c => c.toInt8.toInt32)).getD i 0) := own_barr A53q rfl (by decide)
    refine own_toH T53 (mkF m 58 #[.val (.int (2 : Int32)), .val (.int va), .val (.int vb), .val (.int vc), .val (.int vd), .val (.int ve), .val (.int vf)] [(.ref b29)]) (fun tq kq => st53.trans kq) ?_
    exact own_retAH X53 hS hk hZ hEL C53 hx hret hlk rfl rfl (hb hby d9_58) (by decide) (by decide) ⟨b29, t53, (fun i => (([va, vb] : List Int32).map (fun c => c.toInt8.toInt32)).getD i 0), rfl, N53, KK53, sz29, E53q, C53q, V53q, B53⟩
  · skip
    rw [show Int32.ofNat 3 = (3 : Int32) from rfl]
    refine own_toH s₁ (mkF m 61 #[.val (.int (3 : Int32)), .val (.int va), .val (.int vb), .val (.int vc), .val (.int vd), .val (.int ve), .val (.int vf)] [(.int (3 : Int32)), (.int (3 : Int32))]) (fun tq kq => XS.iloadN X0.here hx rfl (hb hby d9_0) rfl (XS.ifYes X0.here hx rfl (pc0 := 1) (pc' := 15) rfl (hb hby d9_1) rfl ((if0 _ _).trans (feq (by decide : ¬ ((3 : Int32) = (0 : Int32)))).2) (by decide) (by decide) (XS.iloadN X0.here hx rfl (hb hby d9_15) rfl (XS.iconst X0.here hx rfl (hb hby d9_16) (XS.icmpYes X0.here hx rfl (pc0 := 17) (pc' := 35) rfl (hb hby d9_17) rfl (feq (by decide : ¬ ((3 : Int32) = (1 : Int32)))).2 (by decide) (by decide) (XS.iloadN X0.here hx rfl (hb hby d9_35) rfl (XS.iconst X0.here hx rfl (hb hby d9_36) (XS.icmpYes X0.here hx rfl (pc0 := 37) (pc' := 59) rfl (hb hby d9_37) rfl (feq (by decide : ¬ ((3 : Int32) = (2 : Int32)))).2 (by decide) (by decide) (XS.iloadN X0.here hx rfl (hb hby d9_59) rfl (XS.iconst X0.here hx rfl (hb hby d9_60) kq)))))))))) ?_
    refine own_toH s₁ (mkF m 64 #[.val (.int (3 : Int32)), .val (.int va), .val (.int vb), .val (.int vc), .val (.int vd), .val (.int ve), .val (.int vf)] []) (fun tq kq => XS.icmpNo X0.here hx rfl (hb hby d9_61) rfl (teq (by decide : (3 : Int32) = (3 : Int32))).2 kq) ?_
    obtain ⟨T56, h56, X56, e56, E56, A56, D56, -, st56⟩ := newO X0 hx hZ hown (own_w hw 51 rfl) (own_w hw 2 rfl) (own_w hw 1 rfl) e0 (g := (mkF m 64 #[.val (.int (3 : Int32)), .val (.int va), .val (.int vb), .val (.int vc), .val (.int vd), .val (.int ve), .val (.int vf)] [])) rfl (hb hby d9_64) (by decide) (by decide)
    obtain ⟨b56, g56⟩ : ∃ z, z = h0.size := ⟨_, rfl⟩
    rw [← g56] at A56 D56 st56
    have f57 := O2.ext E56
    have Sf56 := Safe.ext (x := b56) E56 C0.1 (Safe.new (Nat.le_of_eq g56.symm))
    have C56 := C0.trans (CHr.ext E56 C0.1)
    have sz56 : n0 ≤ b56 := Nat.le_trans Z0 (Nat.le_of_eq g56.symm)
    have hs56 : h0.size ≤ b56 := Nat.le_trans K0.1 (Nat.le_of_eq g56.symm)
    have Zs56 : n0 ≤ h56.size := Nat.le_trans Z0 E56.1
    have K56 := K0.ext E56
    have hk := Nat.le_trans hk E56.1
    have F56_value : Fld Z h56 b56 "java/lang/String" "value" "[B" .null := D56 (Or.inr (own_w hw 4 rfl)) (ty := (.array .byte)) (by decide)
    have F56_coder : Fld Z h56 b56 "java/lang/String" "coder" "B" (.int (0 : Int32)) := D56 (Or.inr (own_w hw 5 rfl)) (ty := .byte) (by decide)
    refine own_toH T56 (mkF m 69 #[.val (.int (3 : Int32)), .val (.int va), .val (.int vb), .val (.int vc), .val (.int vd), .val (.int ve), .val (.int vf)] [(.int (3 : Int32)), (.ref b56), (.ref b56)]) (fun tq kq => st56 _ (XS.dup X56.here hx rfl (hb hby d9_67) rfl rfl (XS.iconst X56.here hx rfl (hb hby d9_68) kq))) ?_
    obtain ⟨T58, h58, k58, X58, e58, E58, A58, st58⟩ := newP X56 hx hZ (own_w hw 52 rfl) e56 (g := (mkF m 69 #[.val (.int (3 : Int32)), .val (.int va), .val (.int vb), .val (.int vc), .val (.int vd), .val (.int ve), .val (.int vf)] [(.int (3 : Int32)), (.ref b56), (.ref b56)])) rfl (hb hby d9_69) rfl (by decide) (cap := 3) (by decide) (by decide) (by decide) (by decide)
    obtain ⟨b58, g58⟩ : ∃ z, z = h56.size := ⟨_, rfl⟩
    rw [← g58] at A58 st58
    have ne_b56_b58 : own_ne b56 b58 := Nat.ne_of_lt (Nat.lt_of_lt_of_le A56.lt (Nat.le_of_eq g58.symm))
    have f59 := f57.ext E58
    have f60 := Safe.ext E58 C56.1 Sf56
    have f61 := A56.ext E58
    have f62 := F56_value.ext E58
    have f63 := F56_coder.ext E58
    have Sf58 := Safe.ext (x := b58) E58 C56.1 (Safe.new (Nat.le_of_eq g58.symm))
    have C58 := C56.trans (CHr.ext E58 C56.1)
    have sz58 : n0 ≤ b58 := Nat.le_trans Zs56 (Nat.le_of_eq g58.symm)
    have hs58 : h0.size ≤ b58 := Nat.le_trans K56.1 (Nat.le_of_eq g58.symm)
    have Zs58 : n0 ≤ h58.size := Nat.le_trans Zs56 E58.1
    have K58 := K56.ext E58
    have hk := Nat.le_trans hk E58.1
    have V58 : Arv Z h58 b58 k58 .char (3 : Int32) [] (.int (0 : Int32)) := Arv.new A58 (by decide)
    refine own_toH T58 (mkF m 74 #[.val (.int (3 : Int32)), .val (.int va), .val (.int vb), .val (.int vc), .val (.int vd), .val (.int ve), .val (.int vf)] [(.int va), (.int (0 : Int32)), (.ref b58), (.ref b58), (.ref b56), (.ref b56)]) (fun tq kq => st58 _ (XS.dup X58.here hx rfl (hb hby d9_71) rfl rfl (XS.iconst X58.here hx rfl (hb hby d9_72) (XS.iloadN X58.here hx rfl (hb hby d9_73) rfl kq)))) ?_
    have Po65 := V58.pad (pad_rep [] (.int (0 : Int32)) 1)
    obtain ⟨co65, Aro65, qo65, So65, Mo65, Ho65, Uo65⟩ := Po65
    obtain ⟨T64, h64, X64, e64, W64, st64⟩ := stC X58 hx hZ e58 Aro65 (j := (0 : Int32)) (inb_of So65 ⟨by decide, by decide⟩) (g := (mkF m 74 #[.val (.int (3 : Int32)), .val (.int va), .val (.int vb), .val (.int vc), .val (.int vd), .val (.int ve), .val (.int vf)] [(.int va), (.int (0 : Int32)), (.ref b58), (.ref b58), (.ref b56), (.ref b56)])) rfl rfl (hb hby d9_74)
    have f66 := f59.wr W64
    have f67 := Safe.wr W64 Sf58 C58.1 f60
    have f68 := f61.wr W64
    have f69 := f62.other W64 (Or.inl ne_b56_b58)
    have f70 := f63.other W64 (Or.inl ne_b56_b58)
    have f71 := Safe.wr W64 Sf58 C58.1 Sf58
    have N64 := Fr.snoc X64 (Fr.nil n0) sz58
    have Zs64 : n0 ≤ h64.size := by rw [W64.size]; exact Zs58
    have K64 := K58.wr W64 (Or.inr hs58)
    have hk := Nat.le_trans hk (Nat.le_of_eq W64.size.symm)
    have C64 := C58.trans (CHr.wr W64 Sf58 C58.1)
    have V64 := Arv.set Aro65 qo65 So65 Mo65 Ho65 Uo65 (fits_nar_char _) W64 0 rfl (Nat.le_of_ble_eq_true rfl)
    rw [own_nar hcva] at V64
    have V64 : Arv Z h64 b58 k58 .char (3 : Int32) [(.int va)] (.int (0 : Int32)) := V64
    refine own_toH T64 (mkF m 78 #[.val (.int (3 : Int32)), .val (.int va), .val (.int vb), .val (.int vc), .val (.int vd), .val (.int ve), .val (.int vf)] [(.int vb), (.int (1 : Int32)), (.ref b58), (.ref b58), (.ref b56), (.ref b56)]) (fun tq kq => st64 _ (XS.dup X64.here hx rfl (hb hby d9_75) rfl rfl (XS.iconst X64.here hx rfl (hb hby d9_76) (XS.iloadN X64.here hx rfl (hb hby d9_77) rfl kq)))) ?_
    have Po73 := V64.pad (pad_rep [(.int va)] (.int (0 : Int32)) 1)
    obtain ⟨co73, Aro73, qo73, So73, Mo73, Ho73, Uo73⟩ := Po73
    obtain ⟨T72, h72, X72, e72, W72, st72⟩ := stC X64 hx hZ e64 Aro73 (j := (1 : Int32)) (inb_of So73 ⟨by decide, by decide⟩) (g := (mkF m 78 #[.val (.int (3 : Int32)), .val (.int va), .val (.int vb), .val (.int vc), .val (.int vd), .val (.int ve), .val (.int vf)] [(.int vb), (.int (1 : Int32)), (.ref b58), (.ref b58), (.ref b56), (.ref b56)])) rfl rfl (hb hby d9_78)
    have f74 := f66.wr W72
    have f75 := Safe.wr W72 f71 C64.1 f67
    have f76 := f68.wr W72
    have f77 := f69.other W72 (Or.inl ne_b56_b58)
    have f78 := f70.other W72 (Or.inl ne_b56_b58)
    have f79 := Safe.wr W72 f71 C64.1 f71
    have N72 := Fr.snoc X72 N64 sz58
    have Zs72 : n0 ≤ h72.size := by rw [W72.size]; exact Zs64
    have K72 := K64.wr W72 (Or.inr hs58)
    have hk := Nat.le_trans hk (Nat.le_of_eq W72.size.symm)
    have C72 := C64.trans (CHr.wr W72 f71 C64.1)
    have V72 := Arv.set Aro73 qo73 So73 Mo73 Ho73 Uo73 (fits_nar_char _) W72 1 rfl (Nat.le_of_ble_eq_true rfl)
    rw [own_nar hcvb] at V72
    have V72 : Arv Z h72 b58 k58 .char (3 : Int32) [(.int va), (.int vb)] (.int (0 : Int32)) := V72
    refine own_toH T72 (mkF m 82 #[.val (.int (3 : Int32)), .val (.int va), .val (.int vb), .val (.int vc), .val (.int vd), .val (.int ve), .val (.int vf)] [(.int vc), (.int (2 : Int32)), (.ref b58), (.ref b58), (.ref b56), (.ref b56)]) (fun tq kq => st72 _ (XS.dup X72.here hx rfl (hb hby d9_79) rfl rfl (XS.iconst X72.here hx rfl (hb hby d9_80) (XS.iloadN X72.here hx rfl (hb hby d9_81) rfl kq)))) ?_
    have Po81 := V72.pad (pad_rep [(.int va), (.int vb)] (.int (0 : Int32)) 1)
    obtain ⟨co81, Aro81, qo81, So81, Mo81, Ho81, Uo81⟩ := Po81
    obtain ⟨T80, h80, X80, e80, W80, st80⟩ := stC X72 hx hZ e72 Aro81 (j := (2 : Int32)) (inb_of So81 ⟨by decide, by decide⟩) (g := (mkF m 82 #[.val (.int (3 : Int32)), .val (.int va), .val (.int vb), .val (.int vc), .val (.int vd), .val (.int ve), .val (.int vf)] [(.int vc), (.int (2 : Int32)), (.ref b58), (.ref b58), (.ref b56), (.ref b56)])) rfl rfl (hb hby d9_82)
    have f82 := f74.wr W80
    have f83 := Safe.wr W80 f79 C72.1 f75
    have f84 := f76.wr W80
    have f85 := f77.other W80 (Or.inl ne_b56_b58)
    have f86 := f78.other W80 (Or.inl ne_b56_b58)
    have f87 := Safe.wr W80 f79 C72.1 f79
    have N80 := Fr.snoc X80 N72 sz58
    have Zs80 : n0 ≤ h80.size := by rw [W80.size]; exact Zs72
    have K80 := K72.wr W80 (Or.inr hs58)
    have hk := Nat.le_trans hk (Nat.le_of_eq W80.size.symm)
    have C80 := C72.trans (CHr.wr W80 f79 C72.1)
    have V80 := Arv.set Aro81 qo81 So81 Mo81 Ho81 Uo81 (fits_nar_char _) W80 2 rfl (Nat.le_of_ble_eq_true rfl)
    rw [own_nar hcvc] at V80
    have V80 : Arv Z h80 b58 k58 .char (3 : Int32) [(.int va), (.int vb), (.int vc)] (.int (0 : Int32)) := V80
    refine own_toH T80 (mkF m 83 #[.val (.int (3 : Int32)), .val (.int va), .val (.int vb), .val (.int vc), .val (.int vd), .val (.int ve), .val (.int vf)] [(.ref b58), (.ref b56), (.ref b56)]) (fun tq kq => st80 _ kq) ?_
    have hws : ∀ d ∈ StrChars.Road.words, d.before a0 Z = true := fun d hd => hw d ((by decide +kernel : ∀ d ∈ StrChars.Road.words, d ∈ tables_1) d hd)
    have hpc : ∀ q ∈ ([va, vb, vc] : List Int32), ¬ q < 0 ∧ ¬ (255 : Int32) < q := by
      intro q hq
      simp only [List.mem_cons, List.not_mem_nil, or_false] at hq
      rcases hq with rfl | rfl | rfl
      · exact hcva
      · exact hcvb
      · exact hcvc
    obtain ⟨_, _, ⟨T88, L88, k88, n88⟩, -, X88, ⟨Lc88, hQ88, l88, y88, z88⟩, st88⟩ := X80.specialBack hx (y := (⟨"java/lang/String", "<init>", "([C)V"⟩ : MethodName)) rfl hown (mvT hZ (own_w hw 53 rfl)) (mvT hZ (own_w hw 54 rfl)) (mvT hZ (own_w hw 55 rfl)) (by decide) (StrChars.Road.backV (W := 1) hZ hws (kI := 4) (own_w hw 2 rfl) (cs := ([va, vb, vc] : List Int32)) (bs := (([va, vb, vc] : List Int32)).map (fun c => c.toInt8.toInt32)) (n := 3) sz56 Zs80 f84 f85 f86 V80 f82 hG rfl rfl (by decide) (by decide) hpc rfl (by decide) (by decide)) (g := (mkF m 83 #[.val (.int (3 : Int32)), .val (.int va), .val (.int vb), .val (.int vc), .val (.int vd), .val (.int ve), .val (.int vf)] [(.ref b58), (.ref b56), (.ref b56)])) rfl (by rw [hml]; rfl) (Steps.refl _) (a := b56) (argsL := [(.ref b58)]) (rest := [(.ref b56)]) (lenOf pd_9 rfl) rfl (by show 2 * 0 + _ ≤ _; exact Nat.le_of_eq rfl) (hb hby d9_83) (fun _ _ => ⟨rfl, e80, (by decide : 2 + 1 ≤ _), (by decide : 7 + 3 ≤ _)⟩)
    dsimp only [Pt.U, Pt.locs, Pt.cells, Pt.slots] at X88 l88 y88 z88 st88 hQ88
    have l88y := l88.symm
    clear l88
    subst l88y
    obtain rfl : k88 = 3 := y88
    obtain rfl : n88 = 10 := z88
    obtain ⟨rfl, N88q, K88q, E88q, C88q, t88, kb88, gt88, ht88, ne88, V88q, A88q⟩ := hQ88
    have N88 := Fr.app N80 N88q
    have f89 := Safe.keep K88q (allS f83 all0) C80.1 f83
    have f90 := Safe.keep K88q (allS f83 all0) C80.1 f87
    have Zs88 : n0 ≤ T88.heap.size := Nat.le_trans Zs80 K88q.1
    have hk := Nat.le_trans hk K88q.1
    have C88 := C80.trans (CHr.keep K88q (allS f83 all0) C80.1)
    have KK88 := K80.trans K88q (allS (Or.inr hs56) all0)
    have B88 : BArr Z T88.heap t88 3 (fun i => (([va, vb, vc] : List Int32).map (fun c => c.toInt8.toInt32)).getD i 0) := own_barr A88q rfl (by decide)
    refine own_toH T88 (mkF m 86 #[.val (.int (3 : Int32)), .val (.int va), .val (.int vb), .val (.int vc), .val (.int vd), .val (.int ve), .val (.int vf)] [(.ref b56)]) (fun tq kq => st88.trans kq) ?_
    exact own_retAH X88 hS hk hZ hEL C88 hx hret hlk rfl rfl (hb hby d9_86) (by decide) (by decide) ⟨b56, t88, (fun i => (([va, vb, vc] : List Int32).map (fun c => c.toInt8.toInt32)).getD i 0), rfl, N88, KK88, sz56, E88q, C88q, V88q, B88⟩
  · skip
    rw [show Int32.ofNat 4 = (4 : Int32) from rfl]
    refine own_toH s₁ (mkF m 61 #[.val (.int (4 : Int32)), .val (.int va), .val (.int vb), .val (.int vc), .val (.int vd), .val (.int ve), .val (.int vf)] [(.int (3 : Int32)), (.int (4 : Int32))]) (fun tq kq => XS.iloadN X0.here hx rfl (hb hby d9_0) rfl (XS.ifYes X0.here hx rfl (pc0 := 1) (pc' := 15) rfl (hb hby d9_1) rfl ((if0 _ _).trans (feq (by decide : ¬ ((4 : Int32) = (0 : Int32)))).2) (by decide) (by decide) (XS.iloadN X0.here hx rfl (hb hby d9_15) rfl (XS.iconst X0.here hx rfl (hb hby d9_16) (XS.icmpYes X0.here hx rfl (pc0 := 17) (pc' := 35) rfl (hb hby d9_17) rfl (feq (by decide : ¬ ((4 : Int32) = (1 : Int32)))).2 (by decide) (by decide) (XS.iloadN X0.here hx rfl (hb hby d9_35) rfl (XS.iconst X0.here hx rfl (hb hby d9_36) (XS.icmpYes X0.here hx rfl (pc0 := 37) (pc' := 59) rfl (hb hby d9_37) rfl (feq (by decide : ¬ ((4 : Int32) = (2 : Int32)))).2 (by decide) (by decide) (XS.iloadN X0.here hx rfl (hb hby d9_59) rfl (XS.iconst X0.here hx rfl (hb hby d9_60) kq)))))))))) ?_
    refine own_toH s₁ (mkF m 92 #[.val (.int (4 : Int32)), .val (.int va), .val (.int vb), .val (.int vc), .val (.int vd), .val (.int ve), .val (.int vf)] []) (fun tq kq => XS.icmpYes X0.here hx rfl (pc0 := 61) (pc' := 87) rfl (hb hby d9_61) rfl (feq (by decide : ¬ ((4 : Int32) = (3 : Int32)))).2 (by decide) (by decide) (XS.iloadN X0.here hx rfl (hb hby d9_87) rfl (XS.iconst X0.here hx rfl (hb hby d9_88) (XS.icmpNo X0.here hx rfl (hb hby d9_89) rfl (teq (by decide : (4 : Int32) = (4 : Int32))).2 kq)))) ?_
    obtain ⟨T91, h91, X91, e91, E91, A91, D91, -, st91⟩ := newO X0 hx hZ hown (own_w hw 51 rfl) (own_w hw 2 rfl) (own_w hw 1 rfl) e0 (g := (mkF m 92 #[.val (.int (4 : Int32)), .val (.int va), .val (.int vb), .val (.int vc), .val (.int vd), .val (.int ve), .val (.int vf)] [])) rfl (hb hby d9_92) (by decide) (by decide)
    obtain ⟨b91, g91⟩ : ∃ z, z = h0.size := ⟨_, rfl⟩
    rw [← g91] at A91 D91 st91
    have f92 := O2.ext E91
    have Sf91 := Safe.ext (x := b91) E91 C0.1 (Safe.new (Nat.le_of_eq g91.symm))
    have C91 := C0.trans (CHr.ext E91 C0.1)
    have sz91 : n0 ≤ b91 := Nat.le_trans Z0 (Nat.le_of_eq g91.symm)
    have hs91 : h0.size ≤ b91 := Nat.le_trans K0.1 (Nat.le_of_eq g91.symm)
    have Zs91 : n0 ≤ h91.size := Nat.le_trans Z0 E91.1
    have K91 := K0.ext E91
    have hk := Nat.le_trans hk E91.1
    have F91_value : Fld Z h91 b91 "java/lang/String" "value" "[B" .null := D91 (Or.inr (own_w hw 4 rfl)) (ty := (.array .byte)) (by decide)
    have F91_coder : Fld Z h91 b91 "java/lang/String" "coder" "B" (.int (0 : Int32)) := D91 (Or.inr (own_w hw 5 rfl)) (ty := .byte) (by decide)
    refine own_toH T91 (mkF m 97 #[.val (.int (4 : Int32)), .val (.int va), .val (.int vb), .val (.int vc), .val (.int vd), .val (.int ve), .val (.int vf)] [(.int (4 : Int32)), (.ref b91), (.ref b91)]) (fun tq kq => st91 _ (XS.dup X91.here hx rfl (hb hby d9_95) rfl rfl (XS.iconst X91.here hx rfl (hb hby d9_96) kq))) ?_
    obtain ⟨T93, h93, k93, X93, e93, E93, A93, st93⟩ := newP X91 hx hZ (own_w hw 52 rfl) e91 (g := (mkF m 97 #[.val (.int (4 : Int32)), .val (.int va), .val (.int vb), .val (.int vc), .val (.int vd), .val (.int ve), .val (.int vf)] [(.int (4 : Int32)), (.ref b91), (.ref b91)])) rfl (hb hby d9_97) rfl (by decide) (cap := 4) (by decide) (by decide) (by decide) (by decide)
    obtain ⟨b93, g93⟩ : ∃ z, z = h91.size := ⟨_, rfl⟩
    rw [← g93] at A93 st93
    have ne_b91_b93 : own_ne b91 b93 := Nat.ne_of_lt (Nat.lt_of_lt_of_le A91.lt (Nat.le_of_eq g93.symm))
    have f94 := f92.ext E93
    have f95 := Safe.ext E93 C91.1 Sf91
    have f96 := A91.ext E93
    have f97 := F91_value.ext E93
    have f98 := F91_coder.ext E93
    have Sf93 := Safe.ext (x := b93) E93 C91.1 (Safe.new (Nat.le_of_eq g93.symm))
    have C93 := C91.trans (CHr.ext E93 C91.1)
    have sz93 : n0 ≤ b93 := Nat.le_trans Zs91 (Nat.le_of_eq g93.symm)
    have hs93 : h0.size ≤ b93 := Nat.le_trans K91.1 (Nat.le_of_eq g93.symm)
    have Zs93 : n0 ≤ h93.size := Nat.le_trans Zs91 E93.1
    have K93 := K91.ext E93
    have hk := Nat.le_trans hk E93.1
    have V93 : Arv Z h93 b93 k93 .char (4 : Int32) [] (.int (0 : Int32)) := Arv.new A93 (by decide)
    refine own_toH T93 (mkF m 102 #[.val (.int (4 : Int32)), .val (.int va), .val (.int vb), .val (.int vc), .val (.int vd), .val (.int ve), .val (.int vf)] [(.int va), (.int (0 : Int32)), (.ref b93), (.ref b93), (.ref b91), (.ref b91)]) (fun tq kq => st93 _ (XS.dup X93.here hx rfl (hb hby d9_99) rfl rfl (XS.iconst X93.here hx rfl (hb hby d9_100) (XS.iloadN X93.here hx rfl (hb hby d9_101) rfl kq)))) ?_
    have Po100 := V93.pad (pad_rep [] (.int (0 : Int32)) 1)
    obtain ⟨co100, Aro100, qo100, So100, Mo100, Ho100, Uo100⟩ := Po100
    obtain ⟨T99, h99, X99, e99, W99, st99⟩ := stC X93 hx hZ e93 Aro100 (j := (0 : Int32)) (inb_of So100 ⟨by decide, by decide⟩) (g := (mkF m 102 #[.val (.int (4 : Int32)), .val (.int va), .val (.int vb), .val (.int vc), .val (.int vd), .val (.int ve), .val (.int vf)] [(.int va), (.int (0 : Int32)), (.ref b93), (.ref b93), (.ref b91), (.ref b91)])) rfl rfl (hb hby d9_102)
    have f101 := f94.wr W99
    have f102 := Safe.wr W99 Sf93 C93.1 f95
    have f103 := f96.wr W99
    have f104 := f97.other W99 (Or.inl ne_b91_b93)
    have f105 := f98.other W99 (Or.inl ne_b91_b93)
    have f106 := Safe.wr W99 Sf93 C93.1 Sf93
    have N99 := Fr.snoc X99 (Fr.nil n0) sz93
    have Zs99 : n0 ≤ h99.size := by rw [W99.size]; exact Zs93
    have K99 := K93.wr W99 (Or.inr hs93)
    have hk := Nat.le_trans hk (Nat.le_of_eq W99.size.symm)
    have C99 := C93.trans (CHr.wr W99 Sf93 C93.1)
    have V99 := Arv.set Aro100 qo100 So100 Mo100 Ho100 Uo100 (fits_nar_char _) W99 0 rfl (Nat.le_of_ble_eq_true rfl)
    rw [own_nar hcva] at V99
    have V99 : Arv Z h99 b93 k93 .char (4 : Int32) [(.int va)] (.int (0 : Int32)) := V99
    refine own_toH T99 (mkF m 106 #[.val (.int (4 : Int32)), .val (.int va), .val (.int vb), .val (.int vc), .val (.int vd), .val (.int ve), .val (.int vf)] [(.int vb), (.int (1 : Int32)), (.ref b93), (.ref b93), (.ref b91), (.ref b91)]) (fun tq kq => st99 _ (XS.dup X99.here hx rfl (hb hby d9_103) rfl rfl (XS.iconst X99.here hx rfl (hb hby d9_104) (XS.iloadN X99.here hx rfl (hb hby d9_105) rfl kq)))) ?_
    have Po108 := V99.pad (pad_rep [(.int va)] (.int (0 : Int32)) 1)
    obtain ⟨co108, Aro108, qo108, So108, Mo108, Ho108, Uo108⟩ := Po108
    obtain ⟨T107, h107, X107, e107, W107, st107⟩ := stC X99 hx hZ e99 Aro108 (j := (1 : Int32)) (inb_of So108 ⟨by decide, by decide⟩) (g := (mkF m 106 #[.val (.int (4 : Int32)), .val (.int va), .val (.int vb), .val (.int vc), .val (.int vd), .val (.int ve), .val (.int vf)] [(.int vb), (.int (1 : Int32)), (.ref b93), (.ref b93), (.ref b91), (.ref b91)])) rfl rfl (hb hby d9_106)
    have f109 := f101.wr W107
    have f110 := Safe.wr W107 f106 C99.1 f102
    have f111 := f103.wr W107
    have f112 := f104.other W107 (Or.inl ne_b91_b93)
    have f113 := f105.other W107 (Or.inl ne_b91_b93)
    have f114 := Safe.wr W107 f106 C99.1 f106
    have N107 := Fr.snoc X107 N99 sz93
    have Zs107 : n0 ≤ h107.size := by rw [W107.size]; exact Zs99
    have K107 := K99.wr W107 (Or.inr hs93)
    have hk := Nat.le_trans hk (Nat.le_of_eq W107.size.symm)
    have C107 := C99.trans (CHr.wr W107 f106 C99.1)
    have V107 := Arv.set Aro108 qo108 So108 Mo108 Ho108 Uo108 (fits_nar_char _) W107 1 rfl (Nat.le_of_ble_eq_true rfl)
    rw [own_nar hcvb] at V107
    have V107 : Arv Z h107 b93 k93 .char (4 : Int32) [(.int va), (.int vb)] (.int (0 : Int32)) := V107
    refine own_toH T107 (mkF m 110 #[.val (.int (4 : Int32)), .val (.int va), .val (.int vb), .val (.int vc), .val (.int vd), .val (.int ve), .val (.int vf)] [(.int vc), (.int (2 : Int32)), (.ref b93), (.ref b93), (.ref b91), (.ref b91)]) (fun tq kq => st107 _ (XS.dup X107.here hx rfl (hb hby d9_107) rfl rfl (XS.iconst X107.here hx rfl (hb hby d9_108) (XS.iloadN X107.here hx rfl (hb hby d9_109) rfl kq)))) ?_
    have Po116 := V107.pad (pad_rep [(.int va), (.int vb)] (.int (0 : Int32)) 1)
    obtain ⟨co116, Aro116, qo116, So116, Mo116, Ho116, Uo116⟩ := Po116
    obtain ⟨T115, h115, X115, e115, W115, st115⟩ := stC X107 hx hZ e107 Aro116 (j := (2 : Int32)) (inb_of So116 ⟨by decide, by decide⟩) (g := (mkF m 110 #[.val (.int (4 : Int32)), .val (.int va), .val (.int vb), .val (.int vc), .val (.int vd), .val (.int ve), .val (.int vf)] [(.int vc), (.int (2 : Int32)), (.ref b93), (.ref b93), (.ref b91), (.ref b91)])) rfl rfl (hb hby d9_110)
    have f117 := f109.wr W115
    have f118 := Safe.wr W115 f114 C107.1 f110
    have f119 := f111.wr W115
    have f120 := f112.other W115 (Or.inl ne_b91_b93)
    have f121 := f113.other W115 (Or.inl ne_b91_b93)
    have f122 := Safe.wr W115 f114 C107.1 f114
    have N115 := Fr.snoc X115 N107 sz93
    have Zs115 : n0 ≤ h115.size := by rw [W115.size]; exact Zs107
    have K115 := K107.wr W115 (Or.inr hs93)
    have hk := Nat.le_trans hk (Nat.le_of_eq W115.size.symm)
    have C115 := C107.trans (CHr.wr W115 f114 C107.1)
    have V115 := Arv.set Aro116 qo116 So116 Mo116 Ho116 Uo116 (fits_nar_char _) W115 2 rfl (Nat.le_of_ble_eq_true rfl)
    rw [own_nar hcvc] at V115
    have V115 : Arv Z h115 b93 k93 .char (4 : Int32) [(.int va), (.int vb), (.int vc)] (.int (0 : Int32)) := V115
    refine own_toH T115 (mkF m 115 #[.val (.int (4 : Int32)), .val (.int va), .val (.int vb), .val (.int vc), .val (.int vd), .val (.int ve), .val (.int vf)] [(.int vd), (.int (3 : Int32)), (.ref b93), (.ref b93), (.ref b91), (.ref b91)]) (fun tq kq => st115 _ (XS.dup X115.here hx rfl (hb hby d9_111) rfl rfl (XS.iconst X115.here hx rfl (hb hby d9_112) (XS.iload X115.here hx rfl (hb hby d9_113) rfl kq)))) ?_
    have Po124 := V115.pad (pad_rep [(.int va), (.int vb), (.int vc)] (.int (0 : Int32)) 1)
    obtain ⟨co124, Aro124, qo124, So124, Mo124, Ho124, Uo124⟩ := Po124
    obtain ⟨T123, h123, X123, e123, W123, st123⟩ := stC X115 hx hZ e115 Aro124 (j := (3 : Int32)) (inb_of So124 ⟨by decide, by decide⟩) (g := (mkF m 115 #[.val (.int (4 : Int32)), .val (.int va), .val (.int vb), .val (.int vc), .val (.int vd), .val (.int ve), .val (.int vf)] [(.int vd), (.int (3 : Int32)), (.ref b93), (.ref b93), (.ref b91), (.ref b91)])) rfl rfl (hb hby d9_115)
    have f125 := f117.wr W123
    have f126 := Safe.wr W123 f122 C115.1 f118
    have f127 := f119.wr W123
    have f128 := f120.other W123 (Or.inl ne_b91_b93)
    have f129 := f121.other W123 (Or.inl ne_b91_b93)
    have f130 := Safe.wr W123 f122 C115.1 f122
    have N123 := Fr.snoc X123 N115 sz93
    have Zs123 : n0 ≤ h123.size := by rw [W123.size]; exact Zs115
    have K123 := K115.wr W123 (Or.inr hs93)
    have hk := Nat.le_trans hk (Nat.le_of_eq W123.size.symm)
    have C123 := C115.trans (CHr.wr W123 f122 C115.1)
    have V123 := Arv.set Aro124 qo124 So124 Mo124 Ho124 Uo124 (fits_nar_char _) W123 3 rfl (Nat.le_of_ble_eq_true rfl)
    rw [own_nar hcvd] at V123
    have V123 : Arv Z h123 b93 k93 .char (4 : Int32) [(.int va), (.int vb), (.int vc), (.int vd)] (.int (0 : Int32)) := V123
    refine own_toH T123 (mkF m 116 #[.val (.int (4 : Int32)), .val (.int va), .val (.int vb), .val (.int vc), .val (.int vd), .val (.int ve), .val (.int vf)] [(.ref b93), (.ref b91), (.ref b91)]) (fun tq kq => st123 _ kq) ?_
    have hws : ∀ d ∈ StrChars.Road.words, d.before a0 Z = true := fun d hd => hw d ((by decide +kernel : ∀ d ∈ StrChars.Road.words, d ∈ tables_1) d hd)
    have hpc : ∀ q ∈ ([va, vb, vc, vd] : List Int32), ¬ q < 0 ∧ ¬ (255 : Int32) < q := by
      intro q hq
      simp only [List.mem_cons, List.not_mem_nil, or_false] at hq
      rcases hq with rfl | rfl | rfl | rfl
      · exact hcva
      · exact hcvb
      · exact hcvc
      · exact hcvd
    obtain ⟨_, _, ⟨T131, L131, k131, n131⟩, -, X131, ⟨Lc131, hQ131, l131, y131, z131⟩, st131⟩ := X123.specialBack hx (y := (⟨"java/lang/String", "<init>", "([C)V"⟩ : MethodName)) rfl hown (mvT hZ (own_w hw 53 rfl)) (mvT hZ (own_w hw 54 rfl)) (mvT hZ (own_w hw 55 rfl)) (by decide) (StrChars.Road.backV (W := 1) hZ hws (kI := 4) (own_w hw 2 rfl) (cs := ([va, vb, vc, vd] : List Int32)) (bs := (([va, vb, vc, vd] : List Int32)).map (fun c => c.toInt8.toInt32)) (n := 4) sz91 Zs123 f127 f128 f129 V123 f125 hG rfl rfl (by decide) (by decide) hpc rfl (by decide) (by decide)) (g := (mkF m 116 #[.val (.int (4 : Int32)), .val (.int va), .val (.int vb), .val (.int vc), .val (.int vd), .val (.int ve), .val (.int vf)] [(.ref b93), (.ref b91), (.ref b91)])) rfl (by rw [hml]; rfl) (Steps.refl _) (a := b91) (argsL := [(.ref b93)]) (rest := [(.ref b91)]) (lenOf pd_9 rfl) rfl (by show 2 * 0 + _ ≤ _; exact Nat.le_of_eq rfl) (hb hby d9_116) (fun _ _ => ⟨rfl, e123, (by decide : 2 + 1 ≤ _), (by decide : 8 + 4 ≤ _)⟩)
    dsimp only [Pt.U, Pt.locs, Pt.cells, Pt.slots] at X131 l131 y131 z131 st131 hQ131
    have l131y := l131.symm
    clear l131
    subst l131y
    obtain rfl : k131 = 3 := y131
    obtain rfl : n131 = 12 := z131
    obtain ⟨rfl, N131q, K131q, E131q, C131q, t131, kb131, gt131, ht131, ne131, V131q, A131q⟩ := hQ131
    have N131 := Fr.app N123 N131q
    have f132 := Safe.keep K131q (allS f126 all0) C123.1 f126
    have f133 := Safe.keep K131q (allS f126 all0) C123.1 f130
    have Zs131 : n0 ≤ T131.heap.size := Nat.le_trans Zs123 K131q.1
    have hk := Nat.le_trans hk K131q.1
    have C131 := C123.trans (CHr.keep K131q (allS f126 all0) C123.1)
    have KK131 := K123.trans K131q (allS (Or.inr hs91) all0)
    have B131 : BArr Z T131.heap t131 4 (fun i => (([va, vb, vc, vd] : List Int32).map (fun c => c.toInt8.toInt32)).getD i 0) := own_barr A131q rfl (by decide)
    refine own_toH T131 (mkF m 119 #[.val (.int (4 : Int32)), .val (.int va), .val (.int vb), .val (.int vc), .val (.int vd), .val (.int ve), .val (.int vf)] [(.ref b91)]) (fun tq kq => st131.trans kq) ?_
    exact own_retAH X131 hS hk hZ hEL C131 hx hret hlk rfl rfl (hb hby d9_119) (by decide) (by decide) ⟨b91, t131, (fun i => (([va, vb, vc, vd] : List Int32).map (fun c => c.toInt8.toInt32)).getD i 0), rfl, N131, KK131, sz91, E131q, C131q, V131q, B131⟩
  · skip
    rw [show Int32.ofNat 5 = (5 : Int32) from rfl]
    refine own_toH s₁ (mkF m 61 #[.val (.int (5 : Int32)), .val (.int va), .val (.int vb), .val (.int vc), .val (.int vd), .val (.int ve), .val (.int vf)] [(.int (3 : Int32)), (.int (5 : Int32))]) (fun tq kq => XS.iloadN X0.here hx rfl (hb hby d9_0) rfl (XS.ifYes X0.here hx rfl (pc0 := 1) (pc' := 15) rfl (hb hby d9_1) rfl ((if0 _ _).trans (feq (by decide : ¬ ((5 : Int32) = (0 : Int32)))).2) (by decide) (by decide) (XS.iloadN X0.here hx rfl (hb hby d9_15) rfl (XS.iconst X0.here hx rfl (hb hby d9_16) (XS.icmpYes X0.here hx rfl (pc0 := 17) (pc' := 35) rfl (hb hby d9_17) rfl (feq (by decide : ¬ ((5 : Int32) = (1 : Int32)))).2 (by decide) (by decide) (XS.iloadN X0.here hx rfl (hb hby d9_35) rfl (XS.iconst X0.here hx rfl (hb hby d9_36) (XS.icmpYes X0.here hx rfl (pc0 := 37) (pc' := 59) rfl (hb hby d9_37) rfl (feq (by decide : ¬ ((5 : Int32) = (2 : Int32)))).2 (by decide) (by decide) (XS.iloadN X0.here hx rfl (hb hby d9_59) rfl (XS.iconst X0.here hx rfl (hb hby d9_60) kq)))))))))) ?_
    refine own_toH s₁ (mkF m 125 #[.val (.int (5 : Int32)), .val (.int va), .val (.int vb), .val (.int vc), .val (.int vd), .val (.int ve), .val (.int vf)] []) (fun tq kq => XS.icmpYes X0.here hx rfl (pc0 := 61) (pc' := 87) rfl (hb hby d9_61) rfl (feq (by decide : ¬ ((5 : Int32) = (3 : Int32)))).2 (by decide) (by decide) (XS.iloadN X0.here hx rfl (hb hby d9_87) rfl (XS.iconst X0.here hx rfl (hb hby d9_88) (XS.icmpYes X0.here hx rfl (pc0 := 89) (pc' := 120) rfl (hb hby d9_89) rfl (feq (by decide : ¬ ((5 : Int32) = (4 : Int32)))).2 (by decide) (by decide) (XS.iloadN X0.here hx rfl (hb hby d9_120) rfl (XS.iconst X0.here hx rfl (hb hby d9_121) (XS.icmpNo X0.here hx rfl (hb hby d9_122) rfl (teq (by decide : (5 : Int32) = (5 : Int32))).2 kq))))))) ?_
    obtain ⟨T134, h134, X134, e134, E134, A134, D134, -, st134⟩ := newO X0 hx hZ hown (own_w hw 51 rfl) (own_w hw 2 rfl) (own_w hw 1 rfl) e0 (g := (mkF m 125 #[.val (.int (5 : Int32)), .val (.int va), .val (.int vb), .val (.int vc), .val (.int vd), .val (.int ve), .val (.int vf)] [])) rfl (hb hby d9_125) (by decide) (by decide)
    obtain ⟨b134, g134⟩ : ∃ z, z = h0.size := ⟨_, rfl⟩
    rw [← g134] at A134 D134 st134
    have f135 := O2.ext E134
    have Sf134 := Safe.ext (x := b134) E134 C0.1 (Safe.new (Nat.le_of_eq g134.symm))
    have C134 := C0.trans (CHr.ext E134 C0.1)
    have sz134 : n0 ≤ b134 := Nat.le_trans Z0 (Nat.le_of_eq g134.symm)
    have hs134 : h0.size ≤ b134 := Nat.le_trans K0.1 (Nat.le_of_eq g134.symm)
    have Zs134 : n0 ≤ h134.size := Nat.le_trans Z0 E134.1
    have K134 := K0.ext E134
    have hk := Nat.le_trans hk E134.1
    have F134_value : Fld Z h134 b134 "java/lang/String" "value" "[B" .null := D134 (Or.inr (own_w hw 4 rfl)) (ty := (.array .byte)) (by decide)
    have F134_coder : Fld Z h134 b134 "java/lang/String" "coder" "B" (.int (0 : Int32)) := D134 (Or.inr (own_w hw 5 rfl)) (ty := .byte) (by decide)
    refine own_toH T134 (mkF m 130 #[.val (.int (5 : Int32)), .val (.int va), .val (.int vb), .val (.int vc), .val (.int vd), .val (.int ve), .val (.int vf)] [(.int (5 : Int32)), (.ref b134), (.ref b134)]) (fun tq kq => st134 _ (XS.dup X134.here hx rfl (hb hby d9_128) rfl rfl (XS.iconst X134.here hx rfl (hb hby d9_129) kq))) ?_
    obtain ⟨T136, h136, k136, X136, e136, E136, A136, st136⟩ := newP X134 hx hZ (own_w hw 52 rfl) e134 (g := (mkF m 130 #[.val (.int (5 : Int32)), .val (.int va), .val (.int vb), .val (.int vc), .val (.int vd), .val (.int ve), .val (.int vf)] [(.int (5 : Int32)), (.ref b134), (.ref b134)])) rfl (hb hby d9_130) rfl (by decide) (cap := 5) (by decide) (by decide) (by decide) (by decide)
    obtain ⟨b136, g136⟩ : ∃ z, z = h134.size := ⟨_, rfl⟩
    rw [← g136] at A136 st136
    have ne_b134_b136 : own_ne b134 b136 := Nat.ne_of_lt (Nat.lt_of_lt_of_le A134.lt (Nat.le_of_eq g136.symm))
    have f137 := f135.ext E136
    have f138 := Safe.ext E136 C134.1 Sf134
    have f139 := A134.ext E136
    have f140 := F134_value.ext E136
    have f141 := F134_coder.ext E136
    have Sf136 := Safe.ext (x := b136) E136 C134.1 (Safe.new (Nat.le_of_eq g136.symm))
    have C136 := C134.trans (CHr.ext E136 C134.1)
    have sz136 : n0 ≤ b136 := Nat.le_trans Zs134 (Nat.le_of_eq g136.symm)
    have hs136 : h0.size ≤ b136 := Nat.le_trans K134.1 (Nat.le_of_eq g136.symm)
    have Zs136 : n0 ≤ h136.size := Nat.le_trans Zs134 E136.1
    have K136 := K134.ext E136
    have hk := Nat.le_trans hk E136.1
    have V136 : Arv Z h136 b136 k136 .char (5 : Int32) [] (.int (0 : Int32)) := Arv.new A136 (by decide)
    refine own_toH T136 (mkF m 135 #[.val (.int (5 : Int32)), .val (.int va), .val (.int vb), .val (.int vc), .val (.int vd), .val (.int ve), .val (.int vf)] [(.int va), (.int (0 : Int32)), (.ref b136), (.ref b136), (.ref b134), (.ref b134)]) (fun tq kq => st136 _ (XS.dup X136.here hx rfl (hb hby d9_132) rfl rfl (XS.iconst X136.here hx rfl (hb hby d9_133) (XS.iloadN X136.here hx rfl (hb hby d9_134) rfl kq)))) ?_
    have Po143 := V136.pad (pad_rep [] (.int (0 : Int32)) 1)
    obtain ⟨co143, Aro143, qo143, So143, Mo143, Ho143, Uo143⟩ := Po143
    obtain ⟨T142, h142, X142, e142, W142, st142⟩ := stC X136 hx hZ e136 Aro143 (j := (0 : Int32)) (inb_of So143 ⟨by decide, by decide⟩) (g := (mkF m 135 #[.val (.int (5 : Int32)), .val (.int va), .val (.int vb), .val (.int vc), .val (.int vd), .val (.int ve), .val (.int vf)] [(.int va), (.int (0 : Int32)), (.ref b136), (.ref b136), (.ref b134), (.ref b134)])) rfl rfl (hb hby d9_135)
    have f144 := f137.wr W142
    have f145 := Safe.wr W142 Sf136 C136.1 f138
    have f146 := f139.wr W142
    have f147 := f140.other W142 (Or.inl ne_b134_b136)
    have f148 := f141.other W142 (Or.inl ne_b134_b136)
    have f149 := Safe.wr W142 Sf136 C136.1 Sf136
    have N142 := Fr.snoc X142 (Fr.nil n0) sz136
    have Zs142 : n0 ≤ h142.size := by rw [W142.size]; exact Zs136
    have K142 := K136.wr W142 (Or.inr hs136)
    have hk := Nat.le_trans hk (Nat.le_of_eq W142.size.symm)
    have C142 := C136.trans (CHr.wr W142 Sf136 C136.1)
    have V142 := Arv.set Aro143 qo143 So143 Mo143 Ho143 Uo143 (fits_nar_char _) W142 0 rfl (Nat.le_of_ble_eq_true rfl)
    rw [own_nar hcva] at V142
    have V142 : Arv Z h142 b136 k136 .char (5 : Int32) [(.int va)] (.int (0 : Int32)) := V142
    refine own_toH T142 (mkF m 139 #[.val (.int (5 : Int32)), .val (.int va), .val (.int vb), .val (.int vc), .val (.int vd), .val (.int ve), .val (.int vf)] [(.int vb), (.int (1 : Int32)), (.ref b136), (.ref b136), (.ref b134), (.ref b134)]) (fun tq kq => st142 _ (XS.dup X142.here hx rfl (hb hby d9_136) rfl rfl (XS.iconst X142.here hx rfl (hb hby d9_137) (XS.iloadN X142.here hx rfl (hb hby d9_138) rfl kq)))) ?_
    have Po151 := V142.pad (pad_rep [(.int va)] (.int (0 : Int32)) 1)
    obtain ⟨co151, Aro151, qo151, So151, Mo151, Ho151, Uo151⟩ := Po151
    obtain ⟨T150, h150, X150, e150, W150, st150⟩ := stC X142 hx hZ e142 Aro151 (j := (1 : Int32)) (inb_of So151 ⟨by decide, by decide⟩) (g := (mkF m 139 #[.val (.int (5 : Int32)), .val (.int va), .val (.int vb), .val (.int vc), .val (.int vd), .val (.int ve), .val (.int vf)] [(.int vb), (.int (1 : Int32)), (.ref b136), (.ref b136), (.ref b134), (.ref b134)])) rfl rfl (hb hby d9_139)
    have f152 := f144.wr W150
    have f153 := Safe.wr W150 f149 C142.1 f145
    have f154 := f146.wr W150
    have f155 := f147.other W150 (Or.inl ne_b134_b136)
    have f156 := f148.other W150 (Or.inl ne_b134_b136)
    have f157 := Safe.wr W150 f149 C142.1 f149
    have N150 := Fr.snoc X150 N142 sz136
    have Zs150 : n0 ≤ h150.size := by rw [W150.size]; exact Zs142
    have K150 := K142.wr W150 (Or.inr hs136)
    have hk := Nat.le_trans hk (Nat.le_of_eq W150.size.symm)
    have C150 := C142.trans (CHr.wr W150 f149 C142.1)
    have V150 := Arv.set Aro151 qo151 So151 Mo151 Ho151 Uo151 (fits_nar_char _) W150 1 rfl (Nat.le_of_ble_eq_true rfl)
    rw [own_nar hcvb] at V150
    have V150 : Arv Z h150 b136 k136 .char (5 : Int32) [(.int va), (.int vb)] (.int (0 : Int32)) := V150
    refine own_toH T150 (mkF m 143 #[.val (.int (5 : Int32)), .val (.int va), .val (.int vb), .val (.int vc), .val (.int vd), .val (.int ve), .val (.int vf)] [(.int vc), (.int (2 : Int32)), (.ref b136), (.ref b136), (.ref b134), (.ref b134)]) (fun tq kq => st150 _ (XS.dup X150.here hx rfl (hb hby d9_140) rfl rfl (XS.iconst X150.here hx rfl (hb hby d9_141) (XS.iloadN X150.here hx rfl (hb hby d9_142) rfl kq)))) ?_
    have Po159 := V150.pad (pad_rep [(.int va), (.int vb)] (.int (0 : Int32)) 1)
    obtain ⟨co159, Aro159, qo159, So159, Mo159, Ho159, Uo159⟩ := Po159
    obtain ⟨T158, h158, X158, e158, W158, st158⟩ := stC X150 hx hZ e150 Aro159 (j := (2 : Int32)) (inb_of So159 ⟨by decide, by decide⟩) (g := (mkF m 143 #[.val (.int (5 : Int32)), .val (.int va), .val (.int vb), .val (.int vc), .val (.int vd), .val (.int ve), .val (.int vf)] [(.int vc), (.int (2 : Int32)), (.ref b136), (.ref b136), (.ref b134), (.ref b134)])) rfl rfl (hb hby d9_143)
    have f160 := f152.wr W158
    have f161 := Safe.wr W158 f157 C150.1 f153
    have f162 := f154.wr W158
    have f163 := f155.other W158 (Or.inl ne_b134_b136)
    have f164 := f156.other W158 (Or.inl ne_b134_b136)
    have f165 := Safe.wr W158 f157 C150.1 f157
    have N158 := Fr.snoc X158 N150 sz136
    have Zs158 : n0 ≤ h158.size := by rw [W158.size]; exact Zs150
    have K158 := K150.wr W158 (Or.inr hs136)
    have hk := Nat.le_trans hk (Nat.le_of_eq W158.size.symm)
    have C158 := C150.trans (CHr.wr W158 f157 C150.1)
    have V158 := Arv.set Aro159 qo159 So159 Mo159 Ho159 Uo159 (fits_nar_char _) W158 2 rfl (Nat.le_of_ble_eq_true rfl)
    rw [own_nar hcvc] at V158
    have V158 : Arv Z h158 b136 k136 .char (5 : Int32) [(.int va), (.int vb), (.int vc)] (.int (0 : Int32)) := V158
    refine own_toH T158 (mkF m 148 #[.val (.int (5 : Int32)), .val (.int va), .val (.int vb), .val (.int vc), .val (.int vd), .val (.int ve), .val (.int vf)] [(.int vd), (.int (3 : Int32)), (.ref b136), (.ref b136), (.ref b134), (.ref b134)]) (fun tq kq => st158 _ (XS.dup X158.here hx rfl (hb hby d9_144) rfl rfl (XS.iconst X158.here hx rfl (hb hby d9_145) (XS.iload X158.here hx rfl (hb hby d9_146) rfl kq)))) ?_
    have Po167 := V158.pad (pad_rep [(.int va), (.int vb), (.int vc)] (.int (0 : Int32)) 1)
    obtain ⟨co167, Aro167, qo167, So167, Mo167, Ho167, Uo167⟩ := Po167
    obtain ⟨T166, h166, X166, e166, W166, st166⟩ := stC X158 hx hZ e158 Aro167 (j := (3 : Int32)) (inb_of So167 ⟨by decide, by decide⟩) (g := (mkF m 148 #[.val (.int (5 : Int32)), .val (.int va), .val (.int vb), .val (.int vc), .val (.int vd), .val (.int ve), .val (.int vf)] [(.int vd), (.int (3 : Int32)), (.ref b136), (.ref b136), (.ref b134), (.ref b134)])) rfl rfl (hb hby d9_148)
    have f168 := f160.wr W166
    have f169 := Safe.wr W166 f165 C158.1 f161
    have f170 := f162.wr W166
    have f171 := f163.other W166 (Or.inl ne_b134_b136)
    have f172 := f164.other W166 (Or.inl ne_b134_b136)
    have f173 := Safe.wr W166 f165 C158.1 f165
    have N166 := Fr.snoc X166 N158 sz136
    have Zs166 : n0 ≤ h166.size := by rw [W166.size]; exact Zs158
    have K166 := K158.wr W166 (Or.inr hs136)
    have hk := Nat.le_trans hk (Nat.le_of_eq W166.size.symm)
    have C166 := C158.trans (CHr.wr W166 f165 C158.1)
    have V166 := Arv.set Aro167 qo167 So167 Mo167 Ho167 Uo167 (fits_nar_char _) W166 3 rfl (Nat.le_of_ble_eq_true rfl)
    rw [own_nar hcvd] at V166
    have V166 : Arv Z h166 b136 k136 .char (5 : Int32) [(.int va), (.int vb), (.int vc), (.int vd)] (.int (0 : Int32)) := V166
    refine own_toH T166 (mkF m 153 #[.val (.int (5 : Int32)), .val (.int va), .val (.int vb), .val (.int vc), .val (.int vd), .val (.int ve), .val (.int vf)] [(.int ve), (.int (4 : Int32)), (.ref b136), (.ref b136), (.ref b134), (.ref b134)]) (fun tq kq => st166 _ (XS.dup X166.here hx rfl (hb hby d9_149) rfl rfl (XS.iconst X166.here hx rfl (hb hby d9_150) (XS.iload X166.here hx rfl (hb hby d9_151) rfl kq)))) ?_
    have Po175 := V166.pad (pad_rep [(.int va), (.int vb), (.int vc), (.int vd)] (.int (0 : Int32)) 1)
    obtain ⟨co175, Aro175, qo175, So175, Mo175, Ho175, Uo175⟩ := Po175
    obtain ⟨T174, h174, X174, e174, W174, st174⟩ := stC X166 hx hZ e166 Aro175 (j := (4 : Int32)) (inb_of So175 ⟨by decide, by decide⟩) (g := (mkF m 153 #[.val (.int (5 : Int32)), .val (.int va), .val (.int vb), .val (.int vc), .val (.int vd), .val (.int ve), .val (.int vf)] [(.int ve), (.int (4 : Int32)), (.ref b136), (.ref b136), (.ref b134), (.ref b134)])) rfl rfl (hb hby d9_153)
    have f176 := f168.wr W174
    have f177 := Safe.wr W174 f173 C166.1 f169
    have f178 := f170.wr W174
    have f179 := f171.other W174 (Or.inl ne_b134_b136)
    have f180 := f172.other W174 (Or.inl ne_b134_b136)
    have f181 := Safe.wr W174 f173 C166.1 f173
    have N174 := Fr.snoc X174 N166 sz136
    have Zs174 : n0 ≤ h174.size := by rw [W174.size]; exact Zs166
    have K174 := K166.wr W174 (Or.inr hs136)
    have hk := Nat.le_trans hk (Nat.le_of_eq W174.size.symm)
    have C174 := C166.trans (CHr.wr W174 f173 C166.1)
    have V174 := Arv.set Aro175 qo175 So175 Mo175 Ho175 Uo175 (fits_nar_char _) W174 4 rfl (Nat.le_of_ble_eq_true rfl)
    rw [own_nar hcve] at V174
    have V174 : Arv Z h174 b136 k136 .char (5 : Int32) [(.int va), (.int vb), (.int vc), (.int vd), (.int ve)] (.int (0 : Int32)) := V174
    refine own_toH T174 (mkF m 154 #[.val (.int (5 : Int32)), .val (.int va), .val (.int vb), .val (.int vc), .val (.int vd), .val (.int ve), .val (.int vf)] [(.ref b136), (.ref b134), (.ref b134)]) (fun tq kq => st174 _ kq) ?_
    have hws : ∀ d ∈ StrChars.Road.words, d.before a0 Z = true := fun d hd => hw d ((by decide +kernel : ∀ d ∈ StrChars.Road.words, d ∈ tables_1) d hd)
    have hpc : ∀ q ∈ ([va, vb, vc, vd, ve] : List Int32), ¬ q < 0 ∧ ¬ (255 : Int32) < q := by
      intro q hq
      simp only [List.mem_cons, List.not_mem_nil, or_false] at hq
      rcases hq with rfl | rfl | rfl | rfl | rfl
      · exact hcva
      · exact hcvb
      · exact hcvc
      · exact hcvd
      · exact hcve
    obtain ⟨_, _, ⟨T182, L182, k182, n182⟩, -, X182, ⟨Lc182, hQ182, l182, y182, z182⟩, st182⟩ := X174.specialBack hx (y := (⟨"java/lang/String", "<init>", "([C)V"⟩ : MethodName)) rfl hown (mvT hZ (own_w hw 53 rfl)) (mvT hZ (own_w hw 54 rfl)) (mvT hZ (own_w hw 55 rfl)) (by decide) (StrChars.Road.backV (W := 1) hZ hws (kI := 4) (own_w hw 2 rfl) (cs := ([va, vb, vc, vd, ve] : List Int32)) (bs := (([va, vb, vc, vd, ve] : List Int32)).map (fun c => c.toInt8.toInt32)) (n := 5) sz134 Zs174 f178 f179 f180 V174 f176 hG rfl rfl (by decide) (by decide) hpc rfl (by decide) (by decide)) (g := (mkF m 154 #[.val (.int (5 : Int32)), .val (.int va), .val (.int vb), .val (.int vc), .val (.int vd), .val (.int ve), .val (.int vf)] [(.ref b136), (.ref b134), (.ref b134)])) rfl (by rw [hml]; rfl) (Steps.refl _) (a := b134) (argsL := [(.ref b136)]) (rest := [(.ref b134)]) (lenOf pd_9 rfl) rfl (by show 2 * 0 + _ ≤ _; exact Nat.le_of_eq rfl) (hb hby d9_154) (fun _ _ => ⟨rfl, e174, (by decide : 2 + 1 ≤ _), (by decide : 9 + 5 ≤ _)⟩)
    dsimp only [Pt.U, Pt.locs, Pt.cells, Pt.slots] at X182 l182 y182 z182 st182 hQ182
    have l182y := l182.symm
    clear l182
    subst l182y
    obtain rfl : k182 = 3 := y182
    obtain rfl : n182 = 14 := z182
    obtain ⟨rfl, N182q, K182q, E182q, C182q, t182, kb182, gt182, ht182, ne182, V182q, A182q⟩ := hQ182
    have N182 := Fr.app N174 N182q
    have f183 := Safe.keep K182q (allS f177 all0) C174.1 f177
    have f184 := Safe.keep K182q (allS f177 all0) C174.1 f181
    have Zs182 : n0 ≤ T182.heap.size := Nat.le_trans Zs174 K182q.1
    have hk := Nat.le_trans hk K182q.1
    have C182 := C174.trans (CHr.keep K182q (allS f177 all0) C174.1)
    have KK182 := K174.trans K182q (allS (Or.inr hs134) all0)
    have B182 : BArr Z T182.heap t182 5 (fun i => (([va, vb, vc, vd, ve] : List Int32).map (fun c => c.toInt8.toInt32)).getD i 0) := own_barr A182q rfl (by decide)
    refine own_toH T182 (mkF m 157 #[.val (.int (5 : Int32)), .val (.int va), .val (.int vb), .val (.int vc), .val (.int vd), .val (.int ve), .val (.int vf)] [(.ref b134)]) (fun tq kq => st182.trans kq) ?_
    exact own_retAH X182 hS hk hZ hEL C182 hx hret hlk rfl rfl (hb hby d9_157) (by decide) (by decide) ⟨b134, t182, (fun i => (([va, vb, vc, vd, ve] : List Int32).map (fun c => c.toInt8.toInt32)).getD i 0), rfl, N182, KK182, sz134, E182q, C182q, V182q, B182⟩
  · skip
    rw [show Int32.ofNat 6 = (6 : Int32) from rfl]
    refine own_toH s₁ (mkF m 61 #[.val (.int (6 : Int32)), .val (.int va), .val (.int vb), .val (.int vc), .val (.int vd), .val (.int ve), .val (.int vf)] [(.int (3 : Int32)), (.int (6 : Int32))]) (fun tq kq => XS.iloadN X0.here hx rfl (hb hby d9_0) rfl (XS.ifYes X0.here hx rfl (pc0 := 1) (pc' := 15) rfl (hb hby d9_1) rfl ((if0 _ _).trans (feq (by decide : ¬ ((6 : Int32) = (0 : Int32)))).2) (by decide) (by decide) (XS.iloadN X0.here hx rfl (hb hby d9_15) rfl (XS.iconst X0.here hx rfl (hb hby d9_16) (XS.icmpYes X0.here hx rfl (pc0 := 17) (pc' := 35) rfl (hb hby d9_17) rfl (feq (by decide : ¬ ((6 : Int32) = (1 : Int32)))).2 (by decide) (by decide) (XS.iloadN X0.here hx rfl (hb hby d9_35) rfl (XS.iconst X0.here hx rfl (hb hby d9_36) (XS.icmpYes X0.here hx rfl (pc0 := 37) (pc' := 59) rfl (hb hby d9_37) rfl (feq (by decide : ¬ ((6 : Int32) = (2 : Int32)))).2 (by decide) (by decide) (XS.iloadN X0.here hx rfl (hb hby d9_59) rfl (XS.iconst X0.here hx rfl (hb hby d9_60) kq)))))))))) ?_
    refine own_toH s₁ (mkF m 158 #[.val (.int (6 : Int32)), .val (.int va), .val (.int vb), .val (.int vc), .val (.int vd), .val (.int ve), .val (.int vf)] []) (fun tq kq => XS.icmpYes X0.here hx rfl (pc0 := 61) (pc' := 87) rfl (hb hby d9_61) rfl (feq (by decide : ¬ ((6 : Int32) = (3 : Int32)))).2 (by decide) (by decide) (XS.iloadN X0.here hx rfl (hb hby d9_87) rfl (XS.iconst X0.here hx rfl (hb hby d9_88) (XS.icmpYes X0.here hx rfl (pc0 := 89) (pc' := 120) rfl (hb hby d9_89) rfl (feq (by decide : ¬ ((6 : Int32) = (4 : Int32)))).2 (by decide) (by decide) (XS.iloadN X0.here hx rfl (hb hby d9_120) rfl (XS.iconst X0.here hx rfl (hb hby d9_121) (XS.icmpYes X0.here hx rfl (pc0 := 122) (pc' := 158) rfl (hb hby d9_122) rfl (feq (by decide : ¬ ((6 : Int32) = (5 : Int32)))).2 (by decide) (by decide) kq))))))) ?_
    obtain ⟨T185, h185, X185, e185, E185, A185, D185, -, st185⟩ := newO X0 hx hZ hown (own_w hw 51 rfl) (own_w hw 2 rfl) (own_w hw 1 rfl) e0 (g := (mkF m 158 #[.val (.int (6 : Int32)), .val (.int va), .val (.int vb), .val (.int vc), .val (.int vd), .val (.int ve), .val (.int vf)] [])) rfl (hb hby d9_158) (by decide) (by decide)
    obtain ⟨b185, g185⟩ : ∃ z, z = h0.size := ⟨_, rfl⟩
    rw [← g185] at A185 D185 st185
    have f186 := O2.ext E185
    have Sf185 := Safe.ext (x := b185) E185 C0.1 (Safe.new (Nat.le_of_eq g185.symm))
    have C185 := C0.trans (CHr.ext E185 C0.1)
    have sz185 : n0 ≤ b185 := Nat.le_trans Z0 (Nat.le_of_eq g185.symm)
    have hs185 : h0.size ≤ b185 := Nat.le_trans K0.1 (Nat.le_of_eq g185.symm)
    have Zs185 : n0 ≤ h185.size := Nat.le_trans Z0 E185.1
    have K185 := K0.ext E185
    have hk := Nat.le_trans hk E185.1
    have F185_value : Fld Z h185 b185 "java/lang/String" "value" "[B" .null := D185 (Or.inr (own_w hw 4 rfl)) (ty := (.array .byte)) (by decide)
    have F185_coder : Fld Z h185 b185 "java/lang/String" "coder" "B" (.int (0 : Int32)) := D185 (Or.inr (own_w hw 5 rfl)) (ty := .byte) (by decide)
    refine own_toH T185 (mkF m 164 #[.val (.int (6 : Int32)), .val (.int va), .val (.int vb), .val (.int vc), .val (.int vd), .val (.int ve), .val (.int vf)] [(.int (6 : Int32)), (.ref b185), (.ref b185)]) (fun tq kq => st185 _ (XS.dup X185.here hx rfl (hb hby d9_161) rfl rfl (XS.bipush X185.here hx rfl (hb hby d9_162) kq))) ?_
    obtain ⟨T187, h187, k187, X187, e187, E187, A187, st187⟩ := newP X185 hx hZ (own_w hw 52 rfl) e185 (g := (mkF m 164 #[.val (.int (6 : Int32)), .val (.int va), .val (.int vb), .val (.int vc), .val (.int vd), .val (.int ve), .val (.int vf)] [(.int (6 : Int32)), (.ref b185), (.ref b185)])) rfl (hb hby d9_164) rfl (by decide) (cap := 6) (by decide) (by decide) (by decide) (by decide)
    obtain ⟨b187, g187⟩ : ∃ z, z = h185.size := ⟨_, rfl⟩
    rw [← g187] at A187 st187
    have ne_b185_b187 : own_ne b185 b187 := Nat.ne_of_lt (Nat.lt_of_lt_of_le A185.lt (Nat.le_of_eq g187.symm))
    have f188 := f186.ext E187
    have f189 := Safe.ext E187 C185.1 Sf185
    have f190 := A185.ext E187
    have f191 := F185_value.ext E187
    have f192 := F185_coder.ext E187
    have Sf187 := Safe.ext (x := b187) E187 C185.1 (Safe.new (Nat.le_of_eq g187.symm))
    have C187 := C185.trans (CHr.ext E187 C185.1)
    have sz187 : n0 ≤ b187 := Nat.le_trans Zs185 (Nat.le_of_eq g187.symm)
    have hs187 : h0.size ≤ b187 := Nat.le_trans K185.1 (Nat.le_of_eq g187.symm)
    have Zs187 : n0 ≤ h187.size := Nat.le_trans Zs185 E187.1
    have K187 := K185.ext E187
    have hk := Nat.le_trans hk E187.1
    have V187 : Arv Z h187 b187 k187 .char (6 : Int32) [] (.int (0 : Int32)) := Arv.new A187 (by decide)
    refine own_toH T187 (mkF m 169 #[.val (.int (6 : Int32)), .val (.int va), .val (.int vb), .val (.int vc), .val (.int vd), .val (.int ve), .val (.int vf)] [(.int va), (.int (0 : Int32)), (.ref b187), (.ref b187), (.ref b185), (.ref b185)]) (fun tq kq => st187 _ (XS.dup X187.here hx rfl (hb hby d9_166) rfl rfl (XS.iconst X187.here hx rfl (hb hby d9_167) (XS.iloadN X187.here hx rfl (hb hby d9_168) rfl kq)))) ?_
    have Po194 := V187.pad (pad_rep [] (.int (0 : Int32)) 1)
    obtain ⟨co194, Aro194, qo194, So194, Mo194, Ho194, Uo194⟩ := Po194
    obtain ⟨T193, h193, X193, e193, W193, st193⟩ := stC X187 hx hZ e187 Aro194 (j := (0 : Int32)) (inb_of So194 ⟨by decide, by decide⟩) (g := (mkF m 169 #[.val (.int (6 : Int32)), .val (.int va), .val (.int vb), .val (.int vc), .val (.int vd), .val (.int ve), .val (.int vf)] [(.int va), (.int (0 : Int32)), (.ref b187), (.ref b187), (.ref b185), (.ref b185)])) rfl rfl (hb hby d9_169)
    have f195 := f188.wr W193
    have f196 := Safe.wr W193 Sf187 C187.1 f189
    have f197 := f190.wr W193
    have f198 := f191.other W193 (Or.inl ne_b185_b187)
    have f199 := f192.other W193 (Or.inl ne_b185_b187)
    have f200 := Safe.wr W193 Sf187 C187.1 Sf187
    have N193 := Fr.snoc X193 (Fr.nil n0) sz187
    have Zs193 : n0 ≤ h193.size := by rw [W193.size]; exact Zs187
    have K193 := K187.wr W193 (Or.inr hs187)
    have hk := Nat.le_trans hk (Nat.le_of_eq W193.size.symm)
    have C193 := C187.trans (CHr.wr W193 Sf187 C187.1)
    have V193 := Arv.set Aro194 qo194 So194 Mo194 Ho194 Uo194 (fits_nar_char _) W193 0 rfl (Nat.le_of_ble_eq_true rfl)
    rw [own_nar hcva] at V193
    have V193 : Arv Z h193 b187 k187 .char (6 : Int32) [(.int va)] (.int (0 : Int32)) := V193
    refine own_toH T193 (mkF m 173 #[.val (.int (6 : Int32)), .val (.int va), .val (.int vb), .val (.int vc), .val (.int vd), .val (.int ve), .val (.int vf)] [(.int vb), (.int (1 : Int32)), (.ref b187), (.ref b187), (.ref b185), (.ref b185)]) (fun tq kq => st193 _ (XS.dup X193.here hx rfl (hb hby d9_170) rfl rfl (XS.iconst X193.here hx rfl (hb hby d9_171) (XS.iloadN X193.here hx rfl (hb hby d9_172) rfl kq)))) ?_
    have Po202 := V193.pad (pad_rep [(.int va)] (.int (0 : Int32)) 1)
    obtain ⟨co202, Aro202, qo202, So202, Mo202, Ho202, Uo202⟩ := Po202
    obtain ⟨T201, h201, X201, e201, W201, st201⟩ := stC X193 hx hZ e193 Aro202 (j := (1 : Int32)) (inb_of So202 ⟨by decide, by decide⟩) (g := (mkF m 173 #[.val (.int (6 : Int32)), .val (.int va), .val (.int vb), .val (.int vc), .val (.int vd), .val (.int ve), .val (.int vf)] [(.int vb), (.int (1 : Int32)), (.ref b187), (.ref b187), (.ref b185), (.ref b185)])) rfl rfl (hb hby d9_173)
    have f203 := f195.wr W201
    have f204 := Safe.wr W201 f200 C193.1 f196
    have f205 := f197.wr W201
    have f206 := f198.other W201 (Or.inl ne_b185_b187)
    have f207 := f199.other W201 (Or.inl ne_b185_b187)
    have f208 := Safe.wr W201 f200 C193.1 f200
    have N201 := Fr.snoc X201 N193 sz187
    have Zs201 : n0 ≤ h201.size := by rw [W201.size]; exact Zs193
    have K201 := K193.wr W201 (Or.inr hs187)
    have hk := Nat.le_trans hk (Nat.le_of_eq W201.size.symm)
    have C201 := C193.trans (CHr.wr W201 f200 C193.1)
    have V201 := Arv.set Aro202 qo202 So202 Mo202 Ho202 Uo202 (fits_nar_char _) W201 1 rfl (Nat.le_of_ble_eq_true rfl)
    rw [own_nar hcvb] at V201
    have V201 : Arv Z h201 b187 k187 .char (6 : Int32) [(.int va), (.int vb)] (.int (0 : Int32)) := V201
    refine own_toH T201 (mkF m 177 #[.val (.int (6 : Int32)), .val (.int va), .val (.int vb), .val (.int vc), .val (.int vd), .val (.int ve), .val (.int vf)] [(.int vc), (.int (2 : Int32)), (.ref b187), (.ref b187), (.ref b185), (.ref b185)]) (fun tq kq => st201 _ (XS.dup X201.here hx rfl (hb hby d9_174) rfl rfl (XS.iconst X201.here hx rfl (hb hby d9_175) (XS.iloadN X201.here hx rfl (hb hby d9_176) rfl kq)))) ?_
    have Po210 := V201.pad (pad_rep [(.int va), (.int vb)] (.int (0 : Int32)) 1)
    obtain ⟨co210, Aro210, qo210, So210, Mo210, Ho210, Uo210⟩ := Po210
    obtain ⟨T209, h209, X209, e209, W209, st209⟩ := stC X201 hx hZ e201 Aro210 (j := (2 : Int32)) (inb_of So210 ⟨by decide, by decide⟩) (g := (mkF m 177 #[.val (.int (6 : Int32)), .val (.int va), .val (.int vb), .val (.int vc), .val (.int vd), .val (.int ve), .val (.int vf)] [(.int vc), (.int (2 : Int32)), (.ref b187), (.ref b187), (.ref b185), (.ref b185)])) rfl rfl (hb hby d9_177)
    have f211 := f203.wr W209
    have f212 := Safe.wr W209 f208 C201.1 f204
    have f213 := f205.wr W209
    have f214 := f206.other W209 (Or.inl ne_b185_b187)
    have f215 := f207.other W209 (Or.inl ne_b185_b187)
    have f216 := Safe.wr W209 f208 C201.1 f208
    have N209 := Fr.snoc X209 N201 sz187
    have Zs209 : n0 ≤ h209.size := by rw [W209.size]; exact Zs201
    have K209 := K201.wr W209 (Or.inr hs187)
    have hk := Nat.le_trans hk (Nat.le_of_eq W209.size.symm)
    have C209 := C201.trans (CHr.wr W209 f208 C201.1)
    have V209 := Arv.set Aro210 qo210 So210 Mo210 Ho210 Uo210 (fits_nar_char _) W209 2 rfl (Nat.le_of_ble_eq_true rfl)
    rw [own_nar hcvc] at V209
    have V209 : Arv Z h209 b187 k187 .char (6 : Int32) [(.int va), (.int vb), (.int vc)] (.int (0 : Int32)) := V209
    refine own_toH T209 (mkF m 182 #[.val (.int (6 : Int32)), .val (.int va), .val (.int vb), .val (.int vc), .val (.int vd), .val (.int ve), .val (.int vf)] [(.int vd), (.int (3 : Int32)), (.ref b187), (.ref b187), (.ref b185), (.ref b185)]) (fun tq kq => st209 _ (XS.dup X209.here hx rfl (hb hby d9_178) rfl rfl (XS.iconst X209.here hx rfl (hb hby d9_179) (XS.iload X209.here hx rfl (hb hby d9_180) rfl kq)))) ?_
    have Po218 := V209.pad (pad_rep [(.int va), (.int vb), (.int vc)] (.int (0 : Int32)) 1)
    obtain ⟨co218, Aro218, qo218, So218, Mo218, Ho218, Uo218⟩ := Po218
    obtain ⟨T217, h217, X217, e217, W217, st217⟩ := stC X209 hx hZ e209 Aro218 (j := (3 : Int32)) (inb_of So218 ⟨by decide, by decide⟩) (g := (mkF m 182 #[.val (.int (6 : Int32)), .val (.int va), .val (.int vb), .val (.int vc), .val (.int vd), .val (.int ve), .val (.int vf)] [(.int vd), (.int (3 : Int32)), (.ref b187), (.ref b187), (.ref b185), (.ref b185)])) rfl rfl (hb hby d9_182)
    have f219 := f211.wr W217
    have f220 := Safe.wr W217 f216 C209.1 f212
    have f221 := f213.wr W217
    have f222 := f214.other W217 (Or.inl ne_b185_b187)
    have f223 := f215.other W217 (Or.inl ne_b185_b187)
    have f224 := Safe.wr W217 f216 C209.1 f216
    have N217 := Fr.snoc X217 N209 sz187
    have Zs217 : n0 ≤ h217.size := by rw [W217.size]; exact Zs209
    have K217 := K209.wr W217 (Or.inr hs187)
    have hk := Nat.le_trans hk (Nat.le_of_eq W217.size.symm)
    have C217 := C209.trans (CHr.wr W217 f216 C209.1)
    have V217 := Arv.set Aro218 qo218 So218 Mo218 Ho218 Uo218 (fits_nar_char _) W217 3 rfl (Nat.le_of_ble_eq_true rfl)
    rw [own_nar hcvd] at V217
    have V217 : Arv Z h217 b187 k187 .char (6 : Int32) [(.int va), (.int vb), (.int vc), (.int vd)] (.int (0 : Int32)) := V217
    refine own_toH T217 (mkF m 187 #[.val (.int (6 : Int32)), .val (.int va), .val (.int vb), .val (.int vc), .val (.int vd), .val (.int ve), .val (.int vf)] [(.int ve), (.int (4 : Int32)), (.ref b187), (.ref b187), (.ref b185), (.ref b185)]) (fun tq kq => st217 _ (XS.dup X217.here hx rfl (hb hby d9_183) rfl rfl (XS.iconst X217.here hx rfl (hb hby d9_184) (XS.iload X217.here hx rfl (hb hby d9_185) rfl kq)))) ?_
    have Po226 := V217.pad (pad_rep [(.int va), (.int vb), (.int vc), (.int vd)] (.int (0 : Int32)) 1)
    obtain ⟨co226, Aro226, qo226, So226, Mo226, Ho226, Uo226⟩ := Po226
    obtain ⟨T225, h225, X225, e225, W225, st225⟩ := stC X217 hx hZ e217 Aro226 (j := (4 : Int32)) (inb_of So226 ⟨by decide, by decide⟩) (g := (mkF m 187 #[.val (.int (6 : Int32)), .val (.int va), .val (.int vb), .val (.int vc), .val (.int vd), .val (.int ve), .val (.int vf)] [(.int ve), (.int (4 : Int32)), (.ref b187), (.ref b187), (.ref b185), (.ref b185)])) rfl rfl (hb hby d9_187)
    have f227 := f219.wr W225
    have f228 := Safe.wr W225 f224 C217.1 f220
    have f229 := f221.wr W225
    have f230 := f222.other W225 (Or.inl ne_b185_b187)
    have f231 := f223.other W225 (Or.inl ne_b185_b187)
    have f232 := Safe.wr W225 f224 C217.1 f224
    have N225 := Fr.snoc X225 N217 sz187
    have Zs225 : n0 ≤ h225.size := by rw [W225.size]; exact Zs217
    have K225 := K217.wr W225 (Or.inr hs187)
    have hk := Nat.le_trans hk (Nat.le_of_eq W225.size.symm)
    have C225 := C217.trans (CHr.wr W225 f224 C217.1)
    have V225 := Arv.set Aro226 qo226 So226 Mo226 Ho226 Uo226 (fits_nar_char _) W225 4 rfl (Nat.le_of_ble_eq_true rfl)
    rw [own_nar hcve] at V225
    have V225 : Arv Z h225 b187 k187 .char (6 : Int32) [(.int va), (.int vb), (.int vc), (.int vd), (.int ve)] (.int (0 : Int32)) := V225
    refine own_toH T225 (mkF m 192 #[.val (.int (6 : Int32)), .val (.int va), .val (.int vb), .val (.int vc), .val (.int vd), .val (.int ve), .val (.int vf)] [(.int vf), (.int (5 : Int32)), (.ref b187), (.ref b187), (.ref b185), (.ref b185)]) (fun tq kq => st225 _ (XS.dup X225.here hx rfl (hb hby d9_188) rfl rfl (XS.iconst X225.here hx rfl (hb hby d9_189) (XS.iload X225.here hx rfl (hb hby d9_190) rfl kq)))) ?_
    have Po234 := V225.pad (pad_rep [(.int va), (.int vb), (.int vc), (.int vd), (.int ve)] (.int (0 : Int32)) 1)
    obtain ⟨co234, Aro234, qo234, So234, Mo234, Ho234, Uo234⟩ := Po234
    obtain ⟨T233, h233, X233, e233, W233, st233⟩ := stC X225 hx hZ e225 Aro234 (j := (5 : Int32)) (inb_of So234 ⟨by decide, by decide⟩) (g := (mkF m 192 #[.val (.int (6 : Int32)), .val (.int va), .val (.int vb), .val (.int vc), .val (.int vd), .val (.int ve), .val (.int vf)] [(.int vf), (.int (5 : Int32)), (.ref b187), (.ref b187), (.ref b185), (.ref b185)])) rfl rfl (hb hby d9_192)
    have f235 := f227.wr W233
    have f236 := Safe.wr W233 f232 C225.1 f228
    have f237 := f229.wr W233
    have f238 := f230.other W233 (Or.inl ne_b185_b187)
    have f239 := f231.other W233 (Or.inl ne_b185_b187)
    have f240 := Safe.wr W233 f232 C225.1 f232
    have N233 := Fr.snoc X233 N225 sz187
    have Zs233 : n0 ≤ h233.size := by rw [W233.size]; exact Zs225
    have K233 := K225.wr W233 (Or.inr hs187)
    have hk := Nat.le_trans hk (Nat.le_of_eq W233.size.symm)
    have C233 := C225.trans (CHr.wr W233 f232 C225.1)
    have V233 := Arv.set Aro234 qo234 So234 Mo234 Ho234 Uo234 (fits_nar_char _) W233 5 rfl (Nat.le_of_ble_eq_true rfl)
    rw [own_nar hcvf] at V233
    have V233 : Arv Z h233 b187 k187 .char (6 : Int32) [(.int va), (.int vb), (.int vc), (.int vd), (.int ve), (.int vf)] (.int (0 : Int32)) := V233
    refine own_toH T233 (mkF m 193 #[.val (.int (6 : Int32)), .val (.int va), .val (.int vb), .val (.int vc), .val (.int vd), .val (.int ve), .val (.int vf)] [(.ref b187), (.ref b185), (.ref b185)]) (fun tq kq => st233 _ kq) ?_
    have hws : ∀ d ∈ StrChars.Road.words, d.before a0 Z = true := fun d hd => hw d ((by decide +kernel : ∀ d ∈ StrChars.Road.words, d ∈ tables_1) d hd)
    have hpc : ∀ q ∈ ([va, vb, vc, vd, ve, vf] : List Int32), ¬ q < 0 ∧ ¬ (255 : Int32) < q := by
      intro q hq
      simp only [List.mem_cons, List.not_mem_nil, or_false] at hq
      rcases hq with rfl | rfl | rfl | rfl | rfl | rfl
      · exact hcva
      · exact hcvb
      · exact hcvc
      · exact hcvd
      · exact hcve
      · exact hcvf
    obtain ⟨_, _, ⟨T241, L241, k241, n241⟩, -, X241, ⟨Lc241, hQ241, l241, y241, z241⟩, st241⟩ := X233.specialBack hx (y := (⟨"java/lang/String", "<init>", "([C)V"⟩ : MethodName)) rfl hown (mvT hZ (own_w hw 53 rfl)) (mvT hZ (own_w hw 54 rfl)) (mvT hZ (own_w hw 55 rfl)) (by decide) (StrChars.Road.backV (W := 1) hZ hws (kI := 4) (own_w hw 2 rfl) (cs := ([va, vb, vc, vd, ve, vf] : List Int32)) (bs := (([va, vb, vc, vd, ve, vf] : List Int32)).map (fun c => c.toInt8.toInt32)) (n := 6) sz185 Zs233 f237 f238 f239 V233 f235 hG rfl rfl (by decide) (by decide) hpc rfl (by decide) (by decide)) (g := (mkF m 193 #[.val (.int (6 : Int32)), .val (.int va), .val (.int vb), .val (.int vc), .val (.int vd), .val (.int ve), .val (.int vf)] [(.ref b187), (.ref b185), (.ref b185)])) rfl (by rw [hml]; rfl) (Steps.refl _) (a := b185) (argsL := [(.ref b187)]) (rest := [(.ref b185)]) (lenOf pd_9 rfl) rfl (by show 2 * 0 + _ ≤ _; exact Nat.le_of_eq rfl) (hb hby d9_193) (fun _ _ => ⟨rfl, e233, (by decide : 2 + 1 ≤ _), (by decide : 10 + 6 ≤ _)⟩)
    dsimp only [Pt.U, Pt.locs, Pt.cells, Pt.slots] at X241 l241 y241 z241 st241 hQ241
    have l241y := l241.symm
    clear l241
    subst l241y
    obtain rfl : k241 = 3 := y241
    obtain rfl : n241 = 16 := z241
    obtain ⟨rfl, N241q, K241q, E241q, C241q, t241, kb241, gt241, ht241, ne241, V241q, A241q⟩ := hQ241
    have N241 := Fr.app N233 N241q
    have f242 := Safe.keep K241q (allS f236 all0) C233.1 f236
    have f243 := Safe.keep K241q (allS f236 all0) C233.1 f240
    have Zs241 : n0 ≤ T241.heap.size := Nat.le_trans Zs233 K241q.1
    have hk := Nat.le_trans hk K241q.1
    have C241 := C233.trans (CHr.keep K241q (allS f236 all0) C233.1)
    have KK241 := K233.trans K241q (allS (Or.inr hs185) all0)
    have B241 : BArr Z T241.heap t241 6 (fun i => (([va, vb, vc, vd, ve, vf] : List Int32).map (fun c => c.toInt8.toInt32)).getD i 0) := own_barr A241q rfl (by decide)
    refine own_toH T241 (mkF m 196 #[.val (.int (6 : Int32)), .val (.int va), .val (.int vb), .val (.int vc), .val (.int vd), .val (.int ve), .val (.int vf)] [(.ref b185)]) (fun tq kq => st241.trans kq) ?_
    exact own_retAH X241 hS hk hZ hEL C241 hx hret hlk rfl rfl (hb hby d9_196) (by decide) (by decide) ⟨b185, t241, (fun i => (([va, vb, vc, vd, ve, vf] : List Int32).map (fun c => c.toInt8.toInt32)).getD i 0), rfl, N241, KK241, sz185, E241q, C241q, V241q, B241⟩
theorem d17_0 : decode jdk_43_method_13_code 0 = .ok (.aload_n 0, 1) := by decide +kernel
theorem d17_1 : decode jdk_43_method_13_code 1 = .ok (.arraylength, 1) := by decide +kernel
theorem d17_2 : decode jdk_43_method_13_code 2 = .ok (.aload_n 1, 1) := by decide +kernel
theorem d17_3 : decode jdk_43_method_13_code 3 = .ok (.arraylength, 1) := by decide +kernel
theorem d17_4 : decode jdk_43_method_13_code 4 = .ok (.if_icmp .ne 30, 3) := by decide +kernel
theorem d17_7 : decode jdk_43_method_13_code 7 = .ok (.iconst 0, 1) := by decide +kernel
theorem d17_8 : decode jdk_43_method_13_code 8 = .ok (.istore_n 2, 1) := by decide +kernel
theorem d17_9 : decode jdk_43_method_13_code 9 = .ok (.iload_n 2, 1) := by decide +kernel
theorem d17_10 : decode jdk_43_method_13_code 10 = .ok (.aload_n 0, 1) := by decide +kernel
theorem d17_11 : decode jdk_43_method_13_code 11 = .ok (.arraylength, 1) := by decide +kernel
theorem d17_12 : decode jdk_43_method_13_code 12 = .ok (.if_icmp .ge 20, 3) := by decide +kernel
theorem d17_15 : decode jdk_43_method_13_code 15 = .ok (.aload_n 0, 1) := by decide +kernel
theorem d17_16 : decode jdk_43_method_13_code 16 = .ok (.iload_n 2, 1) := by decide +kernel
theorem d17_17 : decode jdk_43_method_13_code 17 = .ok (.baload, 1) := by decide +kernel
theorem d17_18 : decode jdk_43_method_13_code 18 = .ok (.aload_n 1, 1) := by decide +kernel
theorem d17_19 : decode jdk_43_method_13_code 19 = .ok (.iload_n 2, 1) := by decide +kernel
theorem d17_20 : decode jdk_43_method_13_code 20 = .ok (.baload, 1) := by decide +kernel
theorem d17_21 : decode jdk_43_method_13_code 21 = .ok (.if_icmp .eq 5, 3) := by decide +kernel
theorem d17_24 : decode jdk_43_method_13_code 24 = .ok (.iconst 0, 1) := by decide +kernel
theorem d17_25 : decode jdk_43_method_13_code 25 = .ok (.ireturn, 1) := by decide +kernel
theorem d17_26 : decode jdk_43_method_13_code 26 = .ok (.iinc 2 1, 3) := by decide +kernel
theorem d17_29 : decode jdk_43_method_13_code 29 = .ok (.goto (-20), 3) := by decide +kernel
theorem d17_32 : decode jdk_43_method_13_code 32 = .ok (.iconst 1, 1) := by decide +kernel
theorem d17_33 : decode jdk_43_method_13_code 33 = .ok (.ireturn, 1) := by decide +kernel
theorem d17_34 : decode jdk_43_method_13_code 34 = .ok (.iconst 0, 1) := by decide +kernel
theorem d17_35 : decode jdk_43_method_13_code 35 = .ok (.ireturn, 1) := by decide +kernel
theorem ef_17_RR (m : MethodId) (x0 : Addr) (x1 : Addr) : entryFrame m #[(.ref x0), (.ref x1)] 3 = mkF m 0 #[.val (.ref x0), .val (.ref x1), .unset] [] := by first | (simp [entryFrame, mkF, argsToLocals, Value.category]; done) | rfl
def Q_rmLE (Z : State) (t1 t2 : Addr) (n m' : Nat) (f g : Nat → Int32) (h0 : Heap) (n0 : Nat) (v : Option Value) (h : Heap) (L : List Loc) : Prop := v = some (.int (own_eq n f m' g)) ∧ Fr n0 L ∧ h = h0
set_option maxRecDepth 65536 in
set_option maxHeartbeats 40000000 in
theorem rmLE (l : Launch) (Z : State) (a0 : Array Value) (hw : ∀ d ∈ tables_1, d.before a0 Z = true) (ws : List Jvm.Cond) (t1 t2 : Addr) (n m' : Nat) (f g : Nat → Int32) (h0 : Heap) (n0 : Nat) (Z0 : n0 ≤ h0.size) (Aa1 : BArr Z h0 t1 n f) (Aa2 : BArr Z h0 t2 m' g) (hn' : n < 100) (hm' : m' < 100) :
    MetFree l (⟨"java/lang/StringLatin1", "equals", "([B[B)Z"⟩ : MethodName) (head1 (Jvm.Cond.code (⟨"java/lang/StringLatin1", "equals", "([B[B)Z"⟩ : MethodName) jdk_43_method_13_code 3 (some .boolean) :: ws) ({ frames := 0, cells := 0, slots := 0, locals := 0 } : Room)) (fun a U => a = #[(.ref t1), (.ref t2)] ∧ Z.Warmed39 U.vm ∧ U.heap = h0) (fun _ _ _ _ _ => True) (fun _ U o U' => ∃ v L, o = .returned v ∧ Q_rmLE Z t1 t2 n m' f g h0 n0 v U'.heap L ∧ FrameEnd U o U' L ({ frames := 0, cells := 0, slots := 0, locals := 0 } : Room).cells ({ frames := 0, cells := 0, slots := 0, locals := 0 } : Room).slots) := by
  refine own_met (y := (⟨"java/lang/StringLatin1", "equals", "([B[B)Z"⟩ : MethodName)) (Q := (Q_rmLE Z t1 t2 n m' f g h0 n0)) (plainFor_of_name pn_6) fun p e s m below meth c s₁ X0 hx hby hml hret hlk hown hnm hZ e0 => ?_
  refine own_entry (ef_17_RR m t1 t2) ?_
  obtain ⟨cx, Ax, sx, ux⟩ := Aa1
  obtain ⟨cy, Ay, sy, uy⟩ := Aa2
  refine own_to s₁ (mkF m 2 #[.val (.ref t1), .val (.ref t2), .unset] [(.int (cx.slots.size.toInt32))]) (fun tq kq => XS.aloadN X0.here hx rfl (hb hby d17_0) rfl rfl (X0.arraylength hx (by rw [e0]; exact Ax.1) (State.isArrayOf_alike hZ.alike Ax.2.1) (g := (mkF m 1 #[.val (.ref t1), .val (.ref t2), .unset] [(.ref t1)])) rfl rfl (hb hby d17_1) _ kq)) ?_
  rw [show cx.slots.size.toInt32 = Int32.ofNat n from by rw [sx] <;> rfl]
  refine own_to s₁ (mkF m 4 #[.val (.ref t1), .val (.ref t2), .unset] [(.int (cy.slots.size.toInt32)), (.int (Int32.ofNat n))]) (fun tq kq => XS.aloadN X0.here hx rfl (hb hby d17_2) rfl rfl (X0.arraylength hx (by rw [e0]; exact Ay.1) (State.isArrayOf_alike hZ.alike Ay.2.1) (g := (mkF m 3 #[.val (.ref t1), .val (.ref t2), .unset] [(.ref t2), (.int (Int32.ofNat n))])) rfl rfl (hb hby d17_3) _ kq)) ?_
  rw [show cy.slots.size.toInt32 = Int32.ofNat m' from by rw [sy] <;> rfl]
  by_cases c4 : (Int32.ofNat n) = (Int32.ofNat m')
  · skip
    refine own_to s₁ (mkF m 9 #[.val (.ref t1), .val (.ref t2), .val (.int (0 : Int32))] []) (fun tq kq => XS.icmpNo X0.here hx rfl (hb hby d17_4) rfl (teq c4).2 (XS.iconst X0.here hx rfl (hb hby d17_7) (XS.istoreN X0.here hx rfl (hb hby d17_8) rfl (l' := #[.val (.ref t1), .val (.ref t2), .val (.int (0 : Int32))]) rfl kq))) ?_
    have hnm' : n = m' := (own_eqn (by omega) (by omega)).mp c4
    have loop : ∀ (k1 i : Nat), i + k1 = n → (∀ z, z < i → f z = g z) → Own p e below s ({ frames := 0, cells := 0, slots := 0, locals := 0 } : Room).cells ({ frames := 0, cells := 0, slots := 0, locals := 0 } : Room).slots (Q_rmLE Z t1 t2 n m' f g h0 n0) s₁ (mkF m 9 #[.val (.ref t1), .val (.ref t2), .val (.int (Int32.ofNat i))] []) := by
      intro k1
      induction k1 with
      | zero =>
        intro i hij hall
        refine own_to s₁ (mkF m 12 #[.val (.ref t1), .val (.ref t2), .val (.int (Int32.ofNat i))] [(.int (cx.slots.size.toInt32)), (.int (Int32.ofNat i))]) (fun tq kq => XS.iloadN X0.here hx rfl (hb hby d17_9) rfl (XS.aloadN X0.here hx rfl (hb hby d17_10) rfl rfl (X0.arraylength hx (by rw [e0]; exact Ax.1) (State.isArrayOf_alike hZ.alike Ax.2.1) (g := (mkF m 11 #[.val (.ref t1), .val (.ref t2), .val (.int (Int32.ofNat i))] [(.ref t1), (.int (Int32.ofNat i))])) rfl rfl (hb hby d17_11) _ kq))) ?_
        rw [show cx.slots.size.toInt32 = Int32.ofNat n from by rw [sx] <;> rfl]
        refine own_to s₁ (mkF m 33 #[.val (.ref t1), .val (.ref t2), .val (.int (Int32.ofNat i))] [(.int (1 : Int32))]) (fun tq kq => XS.icmpYes X0.here hx rfl (pc0 := 12) (pc' := 32) rfl (hb hby d17_12) rfl (flt (mt (own_ltn (by omega) (by omega)).mp (by omega))).2.1 (by decide) (by decide) (XS.iconst X0.here hx rfl (hb hby d17_32) kq)) ?_
        exact own_retZ X0 hx hret hlk (hb hby d17_33) (by decide) (by decide) (Or.inr rfl) ⟨congrArg (fun z => some (Value.int z)) (own_eqT ⟨hnm', fun z hz => hall z (by omega)⟩).symm, (Fr.nil n0), e0⟩
      | succ k1 ih =>
        intro i hij hall
        have hinx : ¬ ((Int32.ofNat i) < 0 ∨ cx.slots.size ≤ (Int32.ofNat i).toNatClampNeg) := by rw [sx]; exact within rfl (by omega) (by omega)
        have hatx : cx.slots[(Int32.ofNat i).toNatClampNeg]? = some (.int (f i)) := by rw [clamp_of rfl (by omega)]; exact ux _ (by omega)
        have hiny : ¬ ((Int32.ofNat i) < 0 ∨ cy.slots.size ≤ (Int32.ofNat i).toNatClampNeg) := by rw [sy]; exact within rfl (by omega) (by omega)
        have haty : cy.slots[(Int32.ofNat i).toNatClampNeg]? = some (.int (g i)) := by rw [clamp_of rfl (by omega)]; exact uy _ (by omega)
        refine own_to s₁ (mkF m 12 #[.val (.ref t1), .val (.ref t2), .val (.int (Int32.ofNat i))] [(.int (cx.slots.size.toInt32)), (.int (Int32.ofNat i))]) (fun tq kq => XS.iloadN X0.here hx rfl (hb hby d17_9) rfl (XS.aloadN X0.here hx rfl (hb hby d17_10) rfl rfl (X0.arraylength hx (by rw [e0]; exact Ax.1) (State.isArrayOf_alike hZ.alike Ax.2.1) (g := (mkF m 11 #[.val (.ref t1), .val (.ref t2), .val (.int (Int32.ofNat i))] [(.ref t1), (.int (Int32.ofNat i))])) rfl rfl (hb hby d17_11) _ kq))) ?_
        rw [show cx.slots.size.toInt32 = Int32.ofNat n from by rw [sx] <;> rfl]
        refine own_to s₁ (mkF m 21 #[.val (.ref t1), .val (.ref t2), .val (.int (Int32.ofNat i))] [(.int (g i)), (.int (f i))]) (fun tq kq => XS.icmpNo X0.here hx rfl (hb hby d17_12) rfl (tlt ((own_ltn (by omega) (by omega)).mpr (by omega))).2.1 (XS.aloadN X0.here hx rfl (hb hby d17_15) rfl rfl (XS.iloadN X0.here hx rfl (hb hby d17_16) rfl (X0.baloadBytes hx (j := (Int32.ofNat i)) (v := (.int (f i))) (by rw [e0]; exact Ax.1) (State.isArrayOf_alike hZ.alike Ax.2.1) Ax.2.2 hinx hatx (g := (mkF m 17 #[.val (.ref t1), .val (.ref t2), .val (.int (Int32.ofNat i))] [(.int (Int32.ofNat i)), (.ref t1)])) rfl rfl (hb hby d17_17) _ (XS.aloadN X0.here hx rfl (hb hby d17_18) rfl rfl (XS.iloadN X0.here hx rfl (hb hby d17_19) rfl (X0.baloadBytes hx (j := (Int32.ofNat i)) (v := (.int (g i))) (by rw [e0]; exact Ay.1) (State.isArrayOf_alike hZ.alike Ay.2.1) Ay.2.2 hiny haty (g := (mkF m 20 #[.val (.ref t1), .val (.ref t2), .val (.int (Int32.ofNat i))] [(.int (Int32.ofNat i)), (.ref t2), (.int (f i))])) rfl rfl (hb hby d17_20) _ kq))))))) ?_
        by_cases c21 : (f i) = (g i)
        · skip
          refine own_to s₁ (mkF m 9 #[.val (.ref t1), .val (.ref t2), .val (.int ((Int32.ofNat i) + (1 : Int32)))] []) (fun tq kq => XS.icmpYes X0.here hx rfl (pc0 := 21) (pc' := 26) rfl (hb hby d17_21) rfl (teq c21).1 (by decide) (by decide) (XS.iinc X0.here hx rfl (hb hby d17_26) rfl (l' := #[.val (.ref t1), .val (.ref t2), .val (.int ((Int32.ofNat i) + (1 : Int32)))]) rfl (XS.goto X0.here hx rfl (pc0 := 29) (pc' := 9) rfl (hb hby d17_29) (by decide) (by decide) kq))) ?_
          rw [show (Int32.ofNat i + (1 : Int32)) = Int32.ofNat (i + 1) from own_addn i 1 (by omega) (by decide)]
          refine ih (i + 1) (by omega) (fun z hz => ?_)
          by_cases hzi : z = i
          · subst hzi; exact c21
          · exact hall z (by omega)
        · skip
          refine own_to s₁ (mkF m 25 #[.val (.ref t1), .val (.ref t2), .val (.int (Int32.ofNat i))] [(.int (0 : Int32))]) (fun tq kq => XS.icmpNo X0.here hx rfl (hb hby d17_21) rfl (feq c21).1 (XS.iconst X0.here hx rfl (hb hby d17_24) kq)) ?_
          exact own_retZ X0 hx hret hlk (hb hby d17_25) (by decide) (by decide) (Or.inl rfl) ⟨congrArg (fun z => some (Value.int z)) (own_eqF fun z => c21 (z.2 i (by omega))).symm, (Fr.nil n0), e0⟩
    rw [show (0 : Int32) = Int32.ofNat 0 from rfl]
    exact loop n 0 (by omega) (fun z hz => absurd hz (by omega))
  · skip
    refine own_to s₁ (mkF m 35 #[.val (.ref t1), .val (.ref t2), .unset] [(.int (0 : Int32))]) (fun tq kq => XS.icmpYes X0.here hx rfl (pc0 := 4) (pc' := 34) rfl (hb hby d17_4) rfl (feq c4).2 (by decide) (by decide) (XS.iconst X0.here hx rfl (hb hby d17_34) kq)) ?_
    exact own_retZ X0 hx hret hlk (hb hby d17_35) (by decide) (by decide) (Or.inl rfl) ⟨congrArg (fun z => some (Value.int z)) (own_eqF fun z => c4 (congrArg Int32.ofNat z.1)).symm, (Fr.nil n0), e0⟩
theorem d16_0 : decode jdk_42_method_66_code 0 = .ok (.aload_n 0, 1) := by decide +kernel
theorem d16_1 : decode jdk_42_method_66_code 1 = .ok (.aload_n 1, 1) := by decide +kernel
theorem d16_2 : decode jdk_42_method_66_code 2 = .ok (.if_acmp .ne 5, 3) := by decide +kernel
theorem d16_5 : decode jdk_42_method_66_code 5 = .ok (.iconst 1, 1) := by decide +kernel
theorem d16_6 : decode jdk_42_method_66_code 6 = .ok (.ireturn, 1) := by decide +kernel
theorem d16_7 : decode jdk_42_method_66_code 7 = .ok (.aload_n 1, 1) := by decide +kernel
theorem d16_8 : decode jdk_42_method_66_code 8 = .ok (.instanceof 10, 3) := by decide +kernel
theorem d16_11 : decode jdk_42_method_66_code 11 = .ok (.ifCond .eq 43, 3) := by decide +kernel
theorem d16_14 : decode jdk_42_method_66_code 14 = .ok (.aload_n 1, 1) := by decide +kernel
theorem d16_15 : decode jdk_42_method_66_code 15 = .ok (.checkcast 10, 3) := by decide +kernel
theorem d16_18 : decode jdk_42_method_66_code 18 = .ok (.astore_n 2, 1) := by decide +kernel
theorem d16_19 : decode jdk_42_method_66_code 19 = .ok (.getstatic 38, 3) := by decide +kernel
theorem d16_22 : decode jdk_42_method_66_code 22 = .ok (.ifCond .eq 14, 3) := by decide +kernel
theorem d16_25 : decode jdk_42_method_66_code 25 = .ok (.aload_n 0, 1) := by decide +kernel
theorem d16_26 : decode jdk_42_method_66_code 26 = .ok (.getfield 15, 3) := by decide +kernel
theorem d16_29 : decode jdk_42_method_66_code 29 = .ok (.aload_n 2, 1) := by decide +kernel
theorem d16_30 : decode jdk_42_method_66_code 30 = .ok (.getfield 15, 3) := by decide +kernel
theorem d16_33 : decode jdk_42_method_66_code 33 = .ok (.if_icmp .ne 21, 3) := by decide +kernel
theorem d16_36 : decode jdk_42_method_66_code 36 = .ok (.aload_n 0, 1) := by decide +kernel
theorem d16_37 : decode jdk_42_method_66_code 37 = .ok (.getfield 9, 3) := by decide +kernel
theorem d16_40 : decode jdk_42_method_66_code 40 = .ok (.aload_n 2, 1) := by decide +kernel
theorem d16_41 : decode jdk_42_method_66_code 41 = .ok (.getfield 9, 3) := by decide +kernel
theorem d16_44 : decode jdk_42_method_66_code 44 = .ok (.invokestatic 541, 3) := by decide +kernel
theorem d16_47 : decode jdk_42_method_66_code 47 = .ok (.ifCond .eq 7, 3) := by decide +kernel
theorem d16_50 : decode jdk_42_method_66_code 50 = .ok (.iconst 1, 1) := by decide +kernel
theorem d16_51 : decode jdk_42_method_66_code 51 = .ok (.goto 4, 3) := by decide +kernel
theorem d16_54 : decode jdk_42_method_66_code 54 = .ok (.iconst 0, 1) := by decide +kernel
theorem d16_55 : decode jdk_42_method_66_code 55 = .ok (.ireturn, 1) := by decide +kernel
theorem ef_16_RR (m : MethodId) (x0 : Addr) (x1 : Addr) : entryFrame m #[(.ref x0), (.ref x1)] 3 = mkF m 0 #[.val (.ref x0), .val (.ref x1), .unset] [] := by first | (simp [entryFrame, mkF, argsToLocals, Value.category]; done) | rfl
def Q_rmEq (Z : State) (a1 t1 a2 t2 : Addr) (n m' : Nat) (f g : Nat → Int32) (G1 : Int32) (h0 : Heap) (n0 : Nat) (v : Option Value) (h : Heap) (L : List Loc) : Prop := v = some (.int (own_eq n f m' g)) ∧ Fr n0 L ∧ h = h0
theorem pd_17 : parseMethodDescriptor "([B[B)Z" = some ⟨[(.array .byte), (.array .byte)], some .boolean⟩ := by decide +kernel
set_option maxRecDepth 65536 in
set_option maxHeartbeats 40000000 in
theorem rmEq (l : Launch) (Z : State) (a0 : Array Value) (hw : ∀ d ∈ tables_1, d.before a0 Z = true) (ws : List Jvm.Cond) (a1 t1 a2 t2 : Addr) (n m' : Nat) (f g : Nat → Int32) (G1 : Int32) (h0 : Heap) (n0 : Nat) (Z0 : n0 ≤ h0.size) (O2 : Sta Z h0 "java/lang/String" "COMPACT_STRINGS" "Z" (.int G1)) (hG : ¬ G1 = (0 : Int32)) (Ea1 : Exa Z h0 a1 "java/lang/String") (Fa1 : Fld Z h0 a1 "java/lang/String" "value" "[B" (.ref t1)) (Ca1 : Fld Z h0 a1 "java/lang/String" "coder" "B" (.int (0 : Int32))) (Aa1 : BArr Z h0 t1 n f) (Ea2 : Exa Z h0 a2 "java/lang/String") (Fa2 : Fld Z h0 a2 "java/lang/String" "value" "[B" (.ref t2)) (Ca2 : Fld Z h0 a2 "java/lang/String" "coder" "B" (.int (0 : Int32))) (Aa2 : BArr Z h0 t2 m' g) (hn' : n < 100) (hm' : m' < 100) :
    MetFree l (⟨"java/lang/String", "equals", "(Ljava/lang/Object;)Z"⟩ : MethodName) (head1 (Jvm.Cond.code (⟨"java/lang/String", "equals", "(Ljava/lang/Object;)Z"⟩ : MethodName) jdk_42_method_66_code 3 (some .boolean) :: ws) ({ frames := 1, cells := 0, slots := 0, locals := 20 } : Room)) (fun a U => a = #[(.ref a1), (.ref a2)] ∧ Z.Warmed39 U.vm ∧ U.heap = h0) (fun _ _ _ _ _ => True) (fun _ U o U' => ∃ v L, o = .returned v ∧ Q_rmEq Z a1 t1 a2 t2 n m' f g G1 h0 n0 v U'.heap L ∧ FrameEnd U o U' L ({ frames := 1, cells := 0, slots := 0, locals := 20 } : Room).cells ({ frames := 1, cells := 0, slots := 0, locals := 20 } : Room).slots) := by
  refine own_met (y := (⟨"java/lang/String", "equals", "(Ljava/lang/Object;)Z"⟩ : MethodName)) (Q := (Q_rmEq Z a1 t1 a2 t2 n m' f g G1 h0 n0)) (plainFor_of_name pn_3) fun p e s m below meth c s₁ X0 hx hby hml hret hlk hown hnm hZ e0 => ?_
  refine own_entry (ef_16_RR m a1 a2) ?_
  refine own_to s₁ (mkF m 2 #[.val (.ref a1), .val (.ref a2), .unset] [(.ref a2), (.ref a1)]) (fun tq kq => XS.aloadN X0.here hx rfl (hb hby d16_0) rfl rfl (XS.aloadN X0.here hx rfl (hb hby d16_1) rfl rfl kq)) ?_
  by_cases c2 : ((.ref a1) : Value) = (.ref a2)
  · skip
    refine own_to s₁ (mkF m 6 #[.val (.ref a1), .val (.ref a2), .unset] [(.int (1 : Int32))]) (fun tq kq => Jvm.RoadKit.acmp (g := (mkF m 2 #[.val (.ref a1), .val (.ref a2), .unset] [(.ref a2), (.ref a1)])) X0 hx rfl rfl rfl (pc0 := 2) (pc' := 5) (same := true) rfl (hb hby d16_2) rfl (decide_eq_true c2) (by decide) (by decide) (XS.iconst X0.here hx rfl (hb hby d16_5) kq)) ?_
    exact own_retZ X0 hx hret hlk (hb hby d16_6) (by decide) (by decide) (Or.inr rfl) ⟨congrArg (fun z => some (Value.int z)) (own_eqT (by cases Value.ref.inj c2; cases Value.ref.inj (own_fldd Fa1 Fa2); exact own_barrd Aa1 Aa2)).symm, (Fr.nil n0), e0⟩
  · skip
    refine own_to s₁ (mkF m 8 #[.val (.ref a1), .val (.ref a2), .unset] [(.ref a2)]) (fun tq kq => Jvm.RoadKit.acmp (g := (mkF m 2 #[.val (.ref a1), .val (.ref a2), .unset] [(.ref a2), (.ref a1)])) X0 hx rfl rfl rfl (pc0 := 2) (pc' := 7) (same := false) rfl (hb hby d16_2) rfl (decide_eq_false c2) (by decide) (by decide) (XS.aloadN X0.here hx rfl (hb hby d16_7) rfl rfl kq)) ?_
    obtain ⟨T1, X1, e1, st1⟩ := instY X0 hx hZ hown (own_w hw 97 rfl) e0 (Ins.self Ea2) (g := (mkF m 8 #[.val (.ref a1), .val (.ref a2), .unset] [(.ref a2)])) rfl rfl (hb hby d16_8)
    refine own_to T1 (mkF m 15 #[.val (.ref a1), .val (.ref a2), .unset] [(.ref a2)]) (fun tq kq => st1 _ (XS.ifNo X1.here hx rfl (hb hby d16_11) rfl ((if0 _ _).trans (feq (by decide : ¬ ((1 : Int32) = (0 : Int32)))).1) (XS.aloadN X1.here hx rfl (hb hby d16_14) rfl rfl kq))) ?_
    obtain ⟨T2, X2, e2, st2⟩ := castY X1 hx hZ hown (own_w hw 97 rfl) e1 (Ins.self Ea2) (g := (mkF m 15 #[.val (.ref a1), .val (.ref a2), .unset] [(.ref a2)])) rfl rfl (hb hby d16_15)
    refine own_to T2 (mkF m 19 #[.val (.ref a1), .val (.ref a2), .val (.ref a2)] []) (fun tq kq => st2 _ (XS.astoreN X2.here hx rfl (hb hby d16_18) rfl rfl (l' := #[.val (.ref a1), .val (.ref a2), .val (.ref a2)]) rfl kq)) ?_
    obtain ⟨T3, X3, e3, st3⟩ := getS2 X2 hx hZ hown (host := "") (Or.inl (own_w hw 24 rfl)) Via.refl e2 O2 (g := (mkF m 19 #[.val (.ref a1), .val (.ref a2), .val (.ref a2)] [])) rfl (hb hby d16_19)
    refine own_to T3 (mkF m 26 #[.val (.ref a1), .val (.ref a2), .val (.ref a2)] [(.ref a1)]) (fun tq kq => st3 _ (XS.ifNo X3.here hx rfl (hb hby d16_22) rfl ((if0 _ _).trans (feq hG).1) (XS.aloadN X3.here hx rfl (hb hby d16_25) rfl rfl kq))) ?_
    obtain ⟨T4, X4, e4, st4⟩ := getF X3 hx hZ hown (host := "") (Or.inl (own_w hw 25 rfl)) Via.refl e3 Ca1 (g := (mkF m 26 #[.val (.ref a1), .val (.ref a2), .val (.ref a2)] [(.ref a1)])) rfl rfl (hb hby d16_26)
    refine own_to T4 (mkF m 30 #[.val (.ref a1), .val (.ref a2), .val (.ref a2)] [(.ref a2), (.int (0 : Int32))]) (fun tq kq => st4 _ (XS.aloadN X4.here hx rfl (hb hby d16_29) rfl rfl kq)) ?_
    obtain ⟨T5, X5, e5, st5⟩ := getF X4 hx hZ hown (host := "") (Or.inl (own_w hw 25 rfl)) Via.refl e4 Ca2 (g := (mkF m 30 #[.val (.ref a1), .val (.ref a2), .val (.ref a2)] [(.ref a2), (.int (0 : Int32))])) rfl rfl (hb hby d16_30)
    refine own_to T5 (mkF m 37 #[.val (.ref a1), .val (.ref a2), .val (.ref a2)] [(.ref a1)]) (fun tq kq => st5 _ (XS.icmpNo X5.here hx rfl (hb hby d16_33) rfl (teq (by decide : (0 : Int32) = (0 : Int32))).2 (XS.aloadN X5.here hx rfl (hb hby d16_36) rfl rfl kq))) ?_
    obtain ⟨T6, X6, e6, st6⟩ := getF X5 hx hZ hown (host := "") (Or.inl (own_w hw 18 rfl)) Via.refl e5 Fa1 (g := (mkF m 37 #[.val (.ref a1), .val (.ref a2), .val (.ref a2)] [(.ref a1)])) rfl rfl (hb hby d16_37)
    refine own_to T6 (mkF m 41 #[.val (.ref a1), .val (.ref a2), .val (.ref a2)] [(.ref a2), (.ref t1)]) (fun tq kq => st6 _ (XS.aloadN X6.here hx rfl (hb hby d16_40) rfl rfl kq)) ?_
    obtain ⟨T7, X7, e7, st7⟩ := getF X6 hx hZ hown (host := "") (Or.inl (own_w hw 18 rfl)) Via.refl e6 Fa2 (g := (mkF m 41 #[.val (.ref a1), .val (.ref a2), .val (.ref a2)] [(.ref a2), (.ref t1)])) rfl rfl (hb hby d16_41)
    refine own_to T7 (mkF m 44 #[.val (.ref a1), .val (.ref a2), .val (.ref a2)] [(.ref t2), (.ref t1)]) (fun tq kq => st7 _ kq) ?_
    obtain ⟨_, _, ⟨T8, L8, k8, n8⟩, -, X8, ⟨Lc8, hQ8, l8, y8, z8⟩, st8⟩ := Jvm.LawKit.callS X7 hx (y := (⟨"java/lang/StringLatin1", "equals", "([B[B)Z"⟩ : MethodName)) hown (mvT hZ (own_w hw 98 rfl)) (mvT hZ (own_w hw 99 rfl)) (mvT hZ (own_w hw 38 rfl)) (mvT hZ (own_w hw 100 rfl)) (by decide) (backOf (W := 0) (rmLE l Z a0 hw [] t1 t2 n m' f g h0 n0 Z0 Aa1 Aa2 hn' hm') hZ (own_w hw 100 rfl) (own_w hw 38 rfl) (by decide) (by decide)) (g := (mkF m 44 #[.val (.ref a1), .val (.ref a2), .val (.ref a2)] [(.ref t2), (.ref t1)])) rfl (by rw [hml]; rfl) (argsL := [(.ref t1), (.ref t2)]) (rest := []) (lenOf pd_17 rfl) rfl (by show 2 * 0 + _ ≤ _; exact Nat.le_of_eq rfl) (hb hby d16_44) (fun _ _ => ⟨rfl, e7, (by decide : 0 + 0 ≤ _), (by decide : 0 + 0 ≤ _)⟩)
    dsimp only [Pt.U, Pt.locs, Pt.cells, Pt.slots] at X8 l8 y8 z8 st8 hQ8
    have l8y := l8.symm
    clear l8
    subst l8y
    obtain rfl : k8 = 0 := y8
    obtain rfl : n8 = 0 := z8
    obtain ⟨rfl, N8q, e8⟩ := hQ8
    have N8 := Fr.app (Fr.nil n0) N8q
    refine own_to T8 (mkF m 47 #[.val (.ref a1), .val (.ref a2), .val (.ref a2)] [(.int (own_eq n f m' g))]) (fun tq kq => st8 _ kq) ?_
    by_cases c47 : (own_eq n f m' g) = (0 : Int32)
    · skip
      refine own_to T8 (mkF m 55 #[.val (.ref a1), .val (.ref a2), .val (.ref a2)] [(.int (0 : Int32))]) (fun tq kq => XS.ifYes X8.here hx rfl (pc0 := 47) (pc' := 54) rfl (hb hby d16_47) rfl ((if0 _ _).trans (teq c47).1) (by decide) (by decide) (XS.iconst X8.here hx rfl (hb hby d16_54) kq)) ?_
      exact own_retZ X8 hx hret hlk (hb hby d16_55) (by decide) (by decide) (Or.inl rfl) ⟨congrArg (fun z => some (Value.int z)) (c47).symm, N8, e8⟩
    · skip
      refine own_to T8 (mkF m 55 #[.val (.ref a1), .val (.ref a2), .val (.ref a2)] [(.int (1 : Int32))]) (fun tq kq => XS.ifNo X8.here hx rfl (hb hby d16_47) rfl ((if0 _ _).trans (feq c47).1) (XS.iconst X8.here hx rfl (hb hby d16_50) (XS.goto X8.here hx rfl (pc0 := 51) (pc' := 55) rfl (hb hby d16_51) (by decide) (by decide) kq))) ?_
      exact own_retZ X8 hx hret hlk (hb hby d16_55) (by decide) (by decide) (Or.inr rfl) ⟨congrArg (fun z => some (Value.int z)) (own_eqT (Classical.byContradiction fun z => c47 (own_eqF z))).symm, N8, e8⟩
theorem ef_16_RRn (m : MethodId) (x0 : Addr) : entryFrame m #[(.ref x0), .null] 3 = mkF m 0 #[.val (.ref x0), .val .null, .unset] [] := by first | (simp [entryFrame, mkF, argsToLocals, Value.category]; done) | rfl
def Q_rmEqN (Z : State) (a1 : Addr) (h0 : Heap) (n0 : Nat) (v : Option Value) (h : Heap) (L : List Loc) : Prop := v = some (.int (0 : Int32)) ∧ Fr n0 L ∧ h = h0
set_option maxRecDepth 65536 in
set_option maxHeartbeats 40000000 in
theorem rmEqN (l : Launch) (Z : State) (a0 : Array Value) (hw : ∀ d ∈ tables_1, d.before a0 Z = true) (ws : List Jvm.Cond) (a1 : Addr) (h0 : Heap) (n0 : Nat) (Z0 : n0 ≤ h0.size)  :
    MetFree l (⟨"java/lang/String", "equals", "(Ljava/lang/Object;)Z"⟩ : MethodName) (head1 (Jvm.Cond.code (⟨"java/lang/String", "equals", "(Ljava/lang/Object;)Z"⟩ : MethodName) jdk_42_method_66_code 3 (some .boolean) :: ws) ({ frames := 0, cells := 0, slots := 0, locals := 0 } : Room)) (fun a U => a = #[(.ref a1), .null] ∧ Z.Warmed39 U.vm ∧ U.heap = h0) (fun _ _ _ _ _ => True) (fun _ U o U' => ∃ v L, o = .returned v ∧ Q_rmEqN Z a1 h0 n0 v U'.heap L ∧ FrameEnd U o U' L ({ frames := 0, cells := 0, slots := 0, locals := 0 } : Room).cells ({ frames := 0, cells := 0, slots := 0, locals := 0 } : Room).slots) := by
  refine own_met (y := (⟨"java/lang/String", "equals", "(Ljava/lang/Object;)Z"⟩ : MethodName)) (Q := (Q_rmEqN Z a1 h0 n0)) (plainFor_of_name pn_3) fun p e s m below meth c s₁ X0 hx hby hml hret hlk hown hnm hZ e0 => ?_
  refine own_entry (ef_16_RRn m a1) ?_
  refine own_to s₁ (mkF m 55 #[.val (.ref a1), .val .null, .unset] [(.int (0 : Int32))]) (fun tq kq => XS.aloadN X0.here hx rfl (hb hby d16_0) rfl rfl (XS.aloadN X0.here hx rfl (hb hby d16_1) rfl rfl (Jvm.RoadKit.acmp (g := (mkF m 2 #[.val (.ref a1), .val .null, .unset] [.null, (.ref a1)])) X0 hx rfl rfl rfl (pc0 := 2) (pc' := 7) (same := false) rfl (hb hby d16_2) rfl (decide_eq_false nofun) (by decide) (by decide) (XS.aloadN X0.here hx rfl (hb hby d16_7) rfl rfl (X0.instanceofNull hx (g := (mkF m 8 #[.val (.ref a1), .val .null, .unset] [.null])) rfl rfl (hb hby d16_8) _ (XS.ifYes X0.here hx rfl (pc0 := 11) (pc' := 54) rfl (hb hby d16_11) rfl ((if0 _ _).trans (teq (by decide : (0 : Int32) = (0 : Int32))).1) (by decide) (by decide) (XS.iconst X0.here hx rfl (hb hby d16_54) kq))))))) ?_
  exact own_retZ X0 hx hret hlk (hb hby d16_55) (by decide) (by decide) (Or.inl rfl) ⟨rfl, (Fr.nil n0), e0⟩
theorem d15_0 : decode prog_11_method_4_code 0 = .ok (.aload_n 0, 1) := by decide +kernel
theorem d15_1 : decode prog_11_method_4_code 1 = .ok (.getfield 29, 3) := by decide +kernel
theorem d15_4 : decode prog_11_method_4_code 4 = .ok (.areturn, 1) := by decide +kernel
theorem pn_15 : plainName "com/example/interest_ranker/interestranker/model/Event$Type" = true := by first | (simp [plainName, overriddenIn]; done) | decide +kernel
theorem ef_15_R (m : MethodId) (x0 : Addr) : entryFrame m #[(.ref x0)] 1 = mkF m 0 #[.val (.ref x0)] [] := by first | (simp [entryFrame, mkF, argsToLocals, Value.category]; done) | rfl
def Q_rmId (Z : State) (a1 b1 : Addr) (h0 : Heap) (n0 : Nat) (v : Option Value) (h : Heap) (L : List Loc) : Prop := v = some (.ref b1) ∧ Fr n0 L ∧ h = h0
set_option maxRecDepth 65536 in
set_option maxHeartbeats 40000000 in
theorem rmId (l : Launch) (Z : State) (a0 : Array Value) (hw : ∀ d ∈ tables_1, d.before a0 Z = true) (ws : List Jvm.Cond) (a1 b1 : Addr) (h0 : Heap) (n0 : Nat) (Z0 : n0 ≤ h0.size) (Fi : Fld Z h0 a1 "com/example/interest_ranker/interestranker/model/Event$Type" "id" "Ljava/lang/String;" (.ref b1)) :
    MetFree l (⟨"com/example/interest_ranker/interestranker/model/Event$Type", "id", "()Ljava/lang/String;"⟩ : MethodName) (head1 (Jvm.Cond.code (⟨"com/example/interest_ranker/interestranker/model/Event$Type", "id", "()Ljava/lang/String;"⟩ : MethodName) prog_11_method_4_code 1 (some (.object "java/lang/String")) :: ws) ({ frames := 0, cells := 0, slots := 0, locals := 0 } : Room)) (fun a U => a = #[(.ref a1)] ∧ Z.Warmed39 U.vm ∧ U.heap = h0) (fun _ _ _ _ _ => True) (fun _ U o U' => ∃ v L, o = .returned v ∧ Q_rmId Z a1 b1 h0 n0 v U'.heap L ∧ FrameEnd U o U' L ({ frames := 0, cells := 0, slots := 0, locals := 0 } : Room).cells ({ frames := 0, cells := 0, slots := 0, locals := 0 } : Room).slots) := by
  refine own_met (y := (⟨"com/example/interest_ranker/interestranker/model/Event$Type", "id", "()Ljava/lang/String;"⟩ : MethodName)) (Q := (Q_rmId Z a1 b1 h0 n0)) (plainFor_of_name pn_15) fun p e s m below meth c s₁ X0 hx hby hml hret hlk hown hnm hZ e0 => ?_
  refine own_entry (ef_15_R m a1) ?_
  refine own_to s₁ (mkF m 1 #[.val (.ref a1)] [(.ref a1)]) (fun tq kq => XS.aloadN X0.here hx rfl (hb hby d15_0) rfl rfl kq) ?_
  obtain ⟨T1, X1, e1, st1⟩ := getF X0 hx hZ hown (host := "") (Or.inl (own_w hw 90 rfl)) Via.refl e0 Fi (g := (mkF m 1 #[.val (.ref a1)] [(.ref a1)])) rfl rfl (hb hby d15_1)
  refine own_to T1 (mkF m 4 #[.val (.ref a1)] [(.ref b1)]) (fun tq kq => st1 _ kq) ?_
  exact own_retA X1 hx hret hlk rfl rfl (hb hby d15_4) (by decide) (by decide) ⟨rfl, (Fr.nil n0), e1⟩
theorem d14_0 : decode prog_11_method_1_code 0 = .ok (.getstatic 10, 3) := by decide +kernel
theorem d14_3 : decode prog_11_method_1_code 3 = .ok (.invokevirtual 14, 3) := by decide +kernel
theorem d14_6 : decode prog_11_method_1_code 6 = .ok (.checkcast 15, 3) := by decide +kernel
theorem d14_9 : decode prog_11_method_1_code 9 = .ok (.areturn, 1) := by decide +kernel
theorem ef_14_ (m : MethodId)  : entryFrame m #[] 0 = mkF m 0 #[] [] := by first | (simp [entryFrame, mkF, argsToLocals, Value.category]; done) | rfl
def Q_rmVal (Z : State) (av aq ac : Addr) (kv : ClassId) (h0 : Heap) (n0 : Nat) (v : Option Value) (h : Heap) (L : List Loc) : Prop := ∃ b, v = some (.ref b) ∧ Fr n0 L ∧ Keep h0 h [] ∧ Arv Z h b kv (.object "com/example/interest_ranker/interestranker/model/Event$Type") (2 : Int32) [.ref aq, .ref ac] .null
set_option maxRecDepth 65536 in
set_option maxHeartbeats 40000000 in
theorem rmVal (l : Launch) (Z : State) (a0 : Array Value) (hw : ∀ d ∈ tables_1, d.before a0 Z = true) (ws : List Jvm.Cond) (av aq ac : Addr) (kv : ClassId) (h0 : Heap) (n0 : Nat) (Z0 : n0 ≤ h0.size) (StV : Sta Z h0 "com/example/interest_ranker/interestranker/model/Event$Type" "$VALUES" "[Lcom/example/interest_ranker/interestranker/model/Event$Type;" (.ref av)) (EV : Exa Z h0 av "[Lcom/example/interest_ranker/interestranker/model/Event$Type;") (AV : Arv Z h0 av kv (.object "com/example/interest_ranker/interestranker/model/Event$Type") (2 : Int32) [.ref aq, .ref ac] .null) :
    MetFree l (⟨"com/example/interest_ranker/interestranker/model/Event$Type", "values", "()[Lcom/example/interest_ranker/interestranker/model/Event$Type;"⟩ : MethodName) (head1 (Jvm.Cond.code (⟨"com/example/interest_ranker/interestranker/model/Event$Type", "values", "()[Lcom/example/interest_ranker/interestranker/model/Event$Type;"⟩ : MethodName) prog_11_method_1_code 0 (some (.array (.object "com/example/interest_ranker/interestranker/model/Event$Type"))) :: ws) ({ frames := 1, cells := 1, slots := 2, locals := 14 } : Room)) (fun a U => a = #[] ∧ Z.Warmed39 U.vm ∧ U.heap = h0) (fun _ _ _ _ _ => True) (fun _ U o U' => ∃ v L, o = .returned v ∧ Q_rmVal Z av aq ac kv h0 n0 v U'.heap L ∧ FrameEnd U o U' L ({ frames := 1, cells := 1, slots := 2, locals := 14 } : Room).cells ({ frames := 1, cells := 1, slots := 2, locals := 14 } : Room).slots) := by
  refine own_met (y := (⟨"com/example/interest_ranker/interestranker/model/Event$Type", "values", "()[Lcom/example/interest_ranker/interestranker/model/Event$Type;"⟩ : MethodName)) (Q := (Q_rmVal Z av aq ac kv h0 n0)) (plainFor_of_name pn_15) fun p e s m below meth c s₁ X0 hx hby hml hret hlk hown hnm hZ e0 => ?_
  refine own_entry (ef_14_ m ) ?_
  have K0 := Keep.refl h0 []
  obtain ⟨T1, X1, e1, st1⟩ := getS2 X0 hx hZ hown (host := "") (Or.inl (own_w hw 71 rfl)) Via.refl e0 StV (g := (mkF m 0 #[] [])) rfl (hb hby d14_0)
  refine own_to T1 (mkF m 3 #[] [(.ref av)]) (fun tq kq => st1 _ kq) ?_
  obtain ⟨T2, h2, X2, e2, E2, A2, Ex2, st2⟩ := cloneH X1 hx hZ hown (own_w hw 73 rfl) (own_w hw 74 rfl) (own_w hw 78 rfl) (own_w hw 76 rfl) (own_w hw 77 rfl) (own_w hw 79 rfl) e1 (AV.arh) EV (g := (mkF m 3 #[] [(.ref av)])) rfl (by rw [hml]; rfl) rfl (hb hby d14_3) (by decide) (W := 0) (by show 2 * 0 + _ ≤ _; exact Nat.le_of_eq rfl) (by decide) (cap := 2) (by decide) (by decide) (by decide)
  obtain ⟨b2, g2⟩ : ∃ z, z = h0.size := ⟨_, rfl⟩
  rw [← g2] at A2 Ex2 st2
  have sz2 : n0 ≤ b2 := Nat.le_trans Z0 (Nat.le_of_eq g2.symm)
  have hs2 : h0.size ≤ b2 := Nat.le_trans K0.1 (Nat.le_of_eq g2.symm)
  have Zs2 : n0 ≤ h2.size := Nat.le_trans Z0 E2.1
  have K2 := K0.ext E2
  refine own_to T2 (mkF m 6 #[] [(.ref b2)]) (fun tq kq => st2 _ kq) ?_
  obtain ⟨T3, X3, e3, st3⟩ := castY X2 hx hZ hown (own_w hw 83 rfl) e2 (Ins.self Ex2) (g := (mkF m 6 #[] [(.ref b2)])) rfl rfl (hb hby d14_6)
  refine own_to T3 (mkF m 9 #[] [(.ref b2)]) (fun tq kq => st3 _ kq) ?_
  exact own_retA X3 hx hret hlk rfl rfl (hb hby d14_9) (by decide) (by decide) (by rw [e3]; exact ⟨b2, rfl, (Fr.nil n0), K2, A2⟩)
theorem d13_0 : decode prog_11_method_5_code 0 = .ok (.aconst_null, 1) := by decide +kernel
theorem d13_1 : decode prog_11_method_5_code 1 = .ok (.astore_n 1, 1) := by decide +kernel
theorem d13_2 : decode prog_11_method_5_code 2 = .ok (.invokestatic 33, 3) := by decide +kernel
theorem d13_5 : decode prog_11_method_5_code 5 = .ok (.astore_n 2, 1) := by decide +kernel
theorem d13_6 : decode prog_11_method_5_code 6 = .ok (.aload_n 2, 1) := by decide +kernel
theorem d13_7 : decode prog_11_method_5_code 7 = .ok (.arraylength, 1) := by decide +kernel
theorem d13_8 : decode prog_11_method_5_code 8 = .ok (.istore_n 3, 1) := by decide +kernel
theorem d13_9 : decode prog_11_method_5_code 9 = .ok (.iconst 0, 1) := by decide +kernel
theorem d13_10 : decode prog_11_method_5_code 10 = .ok (.istore 4, 2) := by decide +kernel
theorem d13_12 : decode prog_11_method_5_code 12 = .ok (.iload 4, 2) := by decide +kernel
theorem d13_14 : decode prog_11_method_5_code 14 = .ok (.iload_n 3, 1) := by decide +kernel
theorem d13_15 : decode prog_11_method_5_code 15 = .ok (.if_icmp .ge 30, 3) := by decide +kernel
theorem d13_18 : decode prog_11_method_5_code 18 = .ok (.aload_n 2, 1) := by decide +kernel
theorem d13_19 : decode prog_11_method_5_code 19 = .ok (.iload 4, 2) := by decide +kernel
theorem d13_21 : decode prog_11_method_5_code 21 = .ok (.aaload, 1) := by decide +kernel
theorem d13_22 : decode prog_11_method_5_code 22 = .ok (.astore 5, 2) := by decide +kernel
theorem d13_24 : decode prog_11_method_5_code 24 = .ok (.aload 5, 2) := by decide +kernel
theorem d13_26 : decode prog_11_method_5_code 26 = .ok (.invokevirtual 37, 3) := by decide +kernel
theorem d13_29 : decode prog_11_method_5_code 29 = .ok (.aload_n 0, 1) := by decide +kernel
theorem d13_30 : decode prog_11_method_5_code 30 = .ok (.invokevirtual 40, 3) := by decide +kernel
theorem d13_33 : decode prog_11_method_5_code 33 = .ok (.ifCond .eq 6, 3) := by decide +kernel
theorem d13_36 : decode prog_11_method_5_code 36 = .ok (.aload 5, 2) := by decide +kernel
theorem d13_38 : decode prog_11_method_5_code 38 = .ok (.astore_n 1, 1) := by decide +kernel
theorem d13_39 : decode prog_11_method_5_code 39 = .ok (.iinc 4 1, 3) := by decide +kernel
theorem d13_42 : decode prog_11_method_5_code 42 = .ok (.goto (-30), 3) := by decide +kernel
theorem d13_45 : decode prog_11_method_5_code 45 = .ok (.aload_n 1, 1) := by decide +kernel
theorem d13_46 : decode prog_11_method_5_code 46 = .ok (.areturn, 1) := by decide +kernel
def own_by (aq ac : Addr) (n : Nat) (g : Nat → Int32) : Value := if own_eq 5 own_fc n g = 1 then .ref ac else if own_eq 5 own_fq n g = 1 then .ref aq else .null
theorem own_by_10 {aq ac : Addr} {n : Nat} {g : Nat → Int32} (hq : own_eq 5 own_fq n g = 1) (hc : own_eq 5 own_fc n g = 0) : own_by aq ac n g = .ref aq := by rw [own_by, if_neg (by rw [hc]; decide), if_pos hq]
theorem own_by_01 {aq ac : Addr} {n : Nat} {g : Nat → Int32} (hq : own_eq 5 own_fq n g = 0) (hc : own_eq 5 own_fc n g = 1) : own_by aq ac n g = .ref ac := by rw [own_by, if_pos hc]
theorem own_by_00 {aq ac : Addr} {n : Nat} {g : Nat → Int32} (hq : own_eq 5 own_fq n g = 0) (hc : own_eq 5 own_fc n g = 0) : own_by aq ac n g = .null := by rw [own_by, if_neg (by rw [hc]; decide), if_neg (by rw [hq]; decide)]
theorem ef_13_R (m : MethodId) (x0 : Addr) : entryFrame m #[(.ref x0)] 6 = mkF m 0 #[.val (.ref x0), .unset, .unset, .unset, .unset, .unset] [] := by first | (simp [entryFrame, mkF, argsToLocals, Value.category]; done) | rfl
def Q_rmBy (Z : State) (av aq ac jq jc tq tc : Addr) (kv : ClassId) (a1 t1 : Addr) (n : Nat) (g : Nat → Int32) (G1 : Int32) (h0 : Heap) (n0 : Nat) (v : Option Value) (h : Heap) (L : List Loc) : Prop := v = some (own_by aq ac n g) ∧ Fr n0 L ∧ Keep h0 h []
theorem pd_13 : parseMethodDescriptor "()[Lcom/example/interest_ranker/interestranker/model/Event$Type;" = some ⟨[], some (.array (.object "com/example/interest_ranker/interestranker/model/Event$Type"))⟩ := by decide +kernel
theorem pd_15 : parseMethodDescriptor "()Ljava/lang/String;" = some ⟨[], some (.object "java/lang/String")⟩ := by decide +kernel
theorem pd_16 : parseMethodDescriptor "(Ljava/lang/Object;)Z" = some ⟨[(.object "java/lang/Object")], some .boolean⟩ := by decide +kernel
set_option maxRecDepth 65536 in
set_option maxHeartbeats 40000000 in
theorem rmBy (l : Launch) (Z : State) (a0 : Array Value) (hw : ∀ d ∈ tables_1, d.before a0 Z = true) (ws : List Jvm.Cond) (av aq ac jq jc tq tc : Addr) (kv : ClassId) (a1 t1 : Addr) (n : Nat) (g : Nat → Int32) (G1 : Int32) (h0 : Heap) (n0 : Nat) (Z0 : n0 ≤ h0.size) (O2 : Sta Z h0 "java/lang/String" "COMPACT_STRINGS" "Z" (.int G1)) (hG : ¬ G1 = (0 : Int32)) (StV : Sta Z h0 "com/example/interest_ranker/interestranker/model/Event$Type" "$VALUES" "[Lcom/example/interest_ranker/interestranker/model/Event$Type;" (.ref av)) (EV : Exa Z h0 av "[Lcom/example/interest_ranker/interestranker/model/Event$Type;") (AV : Arv Z h0 av kv (.object "com/example/interest_ranker/interestranker/model/Event$Type") (2 : Int32) [.ref aq, .ref ac] .null) (EQ : Exa Z h0 aq "com/example/interest_ranker/interestranker/model/Event$Type") (IQ : Fld Z h0 aq "com/example/interest_ranker/interestranker/model/Event$Type" "id" "Ljava/lang/String;" (.ref jq)) (EC : Exa Z h0 ac "com/example/interest_ranker/interestranker/model/Event$Type") (IC : Fld Z h0 ac "com/example/interest_ranker/interestranker/model/Event$Type" "id" "Ljava/lang/String;" (.ref jc)) (EJQ : Exa Z h0 jq "java/lang/String") (VJQ : Fld Z h0 jq "java/lang/String" "value" "[B" (.ref tq)) (CJQ : Fld Z h0 jq "java/lang/String" "coder" "B" (.int (0 : Int32))) (BQ : BArr Z h0 tq 5 own_fq) (EJC : Exa Z h0 jc "java/lang/String") (VJC : Fld Z h0 jc "java/lang/String" "value" "[B" (.ref tc)) (CJC : Fld Z h0 jc "java/lang/String" "coder" "B" (.int (0 : Int32))) (BC : BArr Z h0 tc 5 own_fc) (Ea1 : Exa Z h0 a1 "java/lang/String") (Fa1 : Fld Z h0 a1 "java/lang/String" "value" "[B" (.ref t1)) (Ca1 : Fld Z h0 a1 "java/lang/String" "coder" "B" (.int (0 : Int32))) (Aa1 : BArr Z h0 t1 n g) (hn' : n < 100) :
    MetFree l (⟨"com/example/interest_ranker/interestranker/model/Event$Type", "byId", "(Ljava/lang/String;)Lcom/example/interest_ranker/interestranker/model/Event$Type;"⟩ : MethodName) (head1 (Jvm.Cond.code (⟨"com/example/interest_ranker/interestranker/model/Event$Type", "byId", "(Ljava/lang/String;)Lcom/example/interest_ranker/interestranker/model/Event$Type;"⟩ : MethodName) prog_11_method_5_code 6 (some (.object "com/example/interest_ranker/interestranker/model/Event$Type")) :: ws) ({ frames := 3, cells := 1, slots := 2, locals := 60 } : Room)) (fun a U => a = #[(.ref a1)] ∧ Z.Warmed39 U.vm ∧ U.heap = h0) (fun _ _ _ _ _ => True) (fun _ U o U' => ∃ v L, o = .returned v ∧ Q_rmBy Z av aq ac jq jc tq tc kv a1 t1 n g G1 h0 n0 v U'.heap L ∧ FrameEnd U o U' L ({ frames := 3, cells := 1, slots := 2, locals := 60 } : Room).cells ({ frames := 3, cells := 1, slots := 2, locals := 60 } : Room).slots) := by
  refine own_met (y := (⟨"com/example/interest_ranker/interestranker/model/Event$Type", "byId", "(Ljava/lang/String;)Lcom/example/interest_ranker/interestranker/model/Event$Type;"⟩ : MethodName)) (Q := (Q_rmBy Z av aq ac jq jc tq tc kv a1 t1 n g G1 h0 n0)) (plainFor_of_name pn_15) fun p e s m below meth c s₁ X0 hx hby hml hret hlk hown hnm hZ e0 => ?_
  refine own_entry (ef_13_R m a1) ?_
  have K0 := Keep.refl h0 []
  by_cases sq : own_same 5 own_fq n g
  · have hq := own_eqT sq
    have hc := own_eqF (fun z => own_apart sq z)
    · skip
      refine own_to s₁ (mkF m 2 #[.val (.ref a1), .val .null, .unset, .unset, .unset, .unset] []) (fun tq kq => XS.aconstNull X0.here hx rfl (hb hby d13_0) (XS.astoreN X0.here hx rfl (hb hby d13_1) rfl rfl (l' := #[.val (.ref a1), .val .null, .unset, .unset, .unset, .unset]) rfl kq)) ?_
      obtain ⟨_, _, ⟨T1, L1, k1, n1⟩, -, X1, ⟨Lc1, hQ1, l1, y1, z1⟩, st1⟩ := Jvm.LawKit.callS X0 hx (y := (⟨"com/example/interest_ranker/interestranker/model/Event$Type", "values", "()[Lcom/example/interest_ranker/interestranker/model/Event$Type;"⟩ : MethodName)) hown (mvT hZ (own_w hw 68 rfl)) (mvT hZ (own_w hw 69 rfl)) (mvT hZ (own_w hw 66 rfl)) (mvT hZ (own_w hw 70 rfl)) (by decide) (backOf (W := 0) (rmVal l Z a0 hw [] av aq ac kv h0 n0 Z0 StV EV AV) hZ (own_w hw 70 rfl) (own_w hw 66 rfl) (by decide) (by decide)) (g := (mkF m 2 #[.val (.ref a1), .val .null, .unset, .unset, .unset, .unset] [])) rfl (by rw [hml]; rfl) (argsL := []) (rest := []) (lenOf pd_13 rfl) rfl (by show 2 * 0 + _ ≤ _; exact Nat.le_of_eq rfl) (hb hby d13_2) (fun _ _ => ⟨rfl, e0, (by decide : 0 + 1 ≤ _), (by decide : 0 + 2 ≤ _)⟩)
      dsimp only [Pt.U, Pt.locs, Pt.cells, Pt.slots] at X1 l1 y1 z1 st1 hQ1
      have l1y := l1.symm
      clear l1
      subst l1y
      obtain rfl : k1 = 1 := y1
      obtain rfl : n1 = 2 := z1
      obtain ⟨b1, rfl, N1q, K1q, V1q⟩ := hQ1
      have N1 := Fr.app (Fr.nil n0) N1q
      have f2 := EQ.keep K1q
      have f3 := IQ.keep K1q nin0
      have f4 := EC.keep K1q
      have f5 := IC.keep K1q nin0
      have f6 := EJQ.keep K1q
      have f7 := VJQ.keep K1q nin0
      have f8 := CJQ.keep K1q nin0
      have f9 := BQ.keep K1q nin0
      have f10 := EJC.keep K1q
      have f11 := VJC.keep K1q nin0
      have f12 := CJC.keep K1q nin0
      have f13 := BC.keep K1q nin0
      have f14 := own_staK StV K1q
      have f15 := own_staK O2 K1q
      have f16 := Ea1.keep K1q
      have f17 := Fa1.keep K1q nin0
      have f18 := Ca1.keep K1q nin0
      have f19 := Aa1.keep K1q nin0
      have Zs1 : n0 ≤ T1.heap.size := Nat.le_trans Z0 K1q.1
      have KK1 := K0.trans K1q all0
      obtain ⟨cv, Av, qv, Sv, Mv, Hv, Uv⟩ := V1q
      have Ev1 := @rfl Heap T1.heap
      refine own_to T1 (mkF m 8 #[.val (.ref a1), .val .null, .val (.ref b1), .unset, .unset, .unset] [(.int (cv.slots.size.toInt32))]) (fun tq kq => st1 _ (XS.astoreN X1.here hx rfl (hb hby d13_5) rfl rfl (l' := #[.val (.ref a1), .val .null, .val (.ref b1), .unset, .unset, .unset]) rfl (XS.aloadN X1.here hx rfl (hb hby d13_6) rfl rfl (X1.arraylength hx Av.1 (State.isArrayOf_alike hZ.alike Av.2.1) (g := (mkF m 7 #[.val (.ref a1), .val .null, .val (.ref b1), .unset, .unset, .unset] [(.ref b1)])) rfl rfl (hb hby d13_7) _ kq)))) ?_
      rw [show cv.slots.size.toInt32 = (2 : Int32) from len_of Sv Mv]
      refine own_to T1 (mkF m 24 #[.val (.ref a1), .val .null, .val (.ref b1), .val (.int (2 : Int32)), .val (.int (0 : Int32)), .val (.ref aq)] []) (fun tq kq => XS.istoreN X1.here hx rfl (hb hby d13_8) rfl (l' := #[.val (.ref a1), .val .null, .val (.ref b1), .val (.int (2 : Int32)), .unset, .unset]) rfl (XS.iconst X1.here hx rfl (hb hby d13_9) (XS.istore X1.here hx rfl (hb hby d13_10) rfl (l' := #[.val (.ref a1), .val .null, .val (.ref b1), .val (.int (2 : Int32)), .val (.int (0 : Int32)), .unset]) rfl (XS.iload X1.here hx rfl (hb hby d13_12) rfl (XS.iloadN X1.here hx rfl (hb hby d13_14) rfl (XS.icmpNo X1.here hx rfl (hb hby d13_15) rfl (tlt (by decide : (0 : Int32) < (2 : Int32))).2.1 (XS.aloadN X1.here hx rfl (hb hby d13_18) rfl rfl (XS.iload X1.here hx rfl (hb hby d13_19) rfl (X1.aaload hx (j := (0 : Int32)) (v := (.ref aq)) Av.1 (State.isArrayOf_alike hZ.alike Av.2.1) rfl Av.2.2 (inb_of Sv ⟨by decide, by decide⟩) (Hv 0 (by rw [Sv]; decide)) (g := (mkF m 21 #[.val (.ref a1), .val .null, .val (.ref b1), .val (.int (2 : Int32)), .val (.int (0 : Int32)), .unset] [(.int (0 : Int32)), (.ref b1)])) rfl rfl (hb hby d13_21) _ (XS.astore X1.here hx rfl (hb hby d13_22) rfl rfl (l' := #[.val (.ref a1), .val .null, .val (.ref b1), .val (.int (2 : Int32)), .val (.int (0 : Int32)), .val (.ref aq)]) rfl kq)))))))))) ?_
      refine own_to T1 (mkF m 26 #[.val (.ref a1), .val .null, .val (.ref b1), .val (.int (2 : Int32)), .val (.int (0 : Int32)), .val (.ref aq)] [(.ref aq)]) (fun tq kq => XS.aload X1.here hx rfl (hb hby d13_24) rfl rfl kq) ?_
      obtain ⟨cq20, kq20, q20a, q20b, q20c⟩ := isOf hZ rfl f2
      obtain ⟨_, _, ⟨T20, L20, k20, n20⟩, -, X20, ⟨Lc20, hQ20, l20, y20, z20⟩, st20⟩ := X1.virtualBack hx (y := (⟨"com/example/interest_ranker/interestranker/model/Event$Type", "id", "()Ljava/lang/String;"⟩ : MethodName)) (z := (⟨"com/example/interest_ranker/interestranker/model/Event$Type", "id", "()Ljava/lang/String;"⟩ : MethodName)) hown (mvT hZ (own_w hw 85 rfl)) (mvT hZ (own_w hw 86 rfl)) (notFace_of_selects (args := #[]) (mvT hZ (own_w hw 88 rfl))) (mvT hZ (own_w hw 88 rfl)) (mvT hZ (own_w hw 87 rfl)) (by decide) (backOf (W := 0) (rmId l Z a0 hw [] aq jq T1.heap n0 Zs1 f3) hZ (own_w hw 89 rfl) (own_w hw 66 rfl) (by decide) (by decide)) q20a q20c (g := (mkF m 26 #[.val (.ref a1), .val .null, .val (.ref b1), .val (.int (2 : Int32)), .val (.int (0 : Int32)), .val (.ref aq)] [(.ref aq)])) rfl (by rw [hml]; rfl) (Steps.refl _) (argsL := []) (rest := []) (lenOf pd_15 rfl) rfl (by show 2 * 0 + _ ≤ _; exact Nat.le_of_eq rfl) (hb hby d13_26) (fun _ _ => ⟨rfl, rfl, (by decide : 1 + 0 ≤ _), (by decide : 2 + 0 ≤ _)⟩)
      dsimp only [Pt.U, Pt.locs, Pt.cells, Pt.slots] at X20 l20 y20 z20 st20 hQ20
      have l20y := l20.symm
      clear l20
      subst l20y
      obtain rfl : k20 = 1 := y20
      obtain rfl : n20 = 2 := z20
      obtain ⟨rfl, N20q, e20⟩ := hQ20
      have N20 := Fr.app N1 N20q
      refine own_to T20 (mkF m 30 #[.val (.ref a1), .val .null, .val (.ref b1), .val (.int (2 : Int32)), .val (.int (0 : Int32)), .val (.ref aq)] [(.ref a1), (.ref jq)]) (fun tq kq => st20.trans (XS.aloadN X20.here hx rfl (hb hby d13_29) rfl rfl kq)) ?_
      obtain ⟨cq21, kq21, q21a, q21b, q21c⟩ := isOf hZ e20 f6
      obtain ⟨_, _, ⟨T21, L21, k21, n21⟩, -, X21, ⟨Lc21, hQ21, l21, y21, z21⟩, st21⟩ := X20.virtualBack hx (y := (⟨"java/lang/String", "equals", "(Ljava/lang/Object;)Z"⟩ : MethodName)) (z := (⟨"java/lang/String", "equals", "(Ljava/lang/Object;)Z"⟩ : MethodName)) hown (mvT hZ (own_w hw 92 rfl)) (mvT hZ (own_w hw 93 rfl)) (notFace_of_selects (args := #[]) (mvT hZ (own_w hw 95 rfl))) (mvT hZ (own_w hw 95 rfl)) (mvT hZ (own_w hw 94 rfl)) (by decide) (backOf (W := 0) (rmEq l Z a0 hw [] jq tq a1 t1 5 n own_fq g G1 T1.heap n0 Zs1 f15 hG f6 f7 f8 f9 f16 f17 f18 f19 (by decide) hn') hZ (own_w hw 96 rfl) (own_w hw 1 rfl) (by decide) (by decide)) q21a q21c (g := (mkF m 30 #[.val (.ref a1), .val .null, .val (.ref b1), .val (.int (2 : Int32)), .val (.int (0 : Int32)), .val (.ref aq)] [(.ref a1), (.ref jq)])) rfl (by rw [hml]; rfl) (Steps.refl _) (argsL := [(.ref a1)]) (rest := []) (lenOf pd_16 rfl) rfl (by show 2 * 0 + _ ≤ _; exact Nat.le_of_eq rfl) (hb hby d13_30) (fun _ _ => ⟨rfl, e20, (by decide : 1 + 0 ≤ _), (by decide : 2 + 0 ≤ _)⟩)
      dsimp only [Pt.U, Pt.locs, Pt.cells, Pt.slots] at X21 l21 y21 z21 st21 hQ21
      have l21y := l21.symm
      clear l21
      subst l21y
      obtain rfl : k21 = 1 := y21
      obtain rfl : n21 = 2 := z21
      obtain ⟨rfl, N21q, e21⟩ := hQ21
      have N21 := Fr.app N20 N21q
      refine own_to T21 (mkF m 33 #[.val (.ref a1), .val .null, .val (.ref b1), .val (.int (2 : Int32)), .val (.int (0 : Int32)), .val (.ref aq)] [(.int (own_eq 5 own_fq n g))]) (fun tq kq => st21.trans kq) ?_
      rw [show (own_eq 5 own_fq n g) = (1 : Int32) from hq]
      refine own_to T21 (mkF m 42 #[.val (.ref a1), .val (.ref aq), .val (.ref b1), .val (.int (2 : Int32)), .val (.int ((0 : Int32) + (1 : Int32))), .val (.ref aq)] []) (fun tq kq => XS.ifNo X21.here hx rfl (hb hby d13_33) rfl ((if0 _ _).trans (feq (by decide : ¬ ((1 : Int32) = (0 : Int32)))).1) (XS.aload X21.here hx rfl (hb hby d13_36) rfl rfl (XS.astoreN X21.here hx rfl (hb hby d13_38) rfl rfl (l' := #[.val (.ref a1), .val (.ref aq), .val (.ref b1), .val (.int (2 : Int32)), .val (.int (0 : Int32)), .val (.ref aq)]) rfl (XS.iinc X21.here hx rfl (hb hby d13_39) rfl (l' := #[.val (.ref a1), .val (.ref aq), .val (.ref b1), .val (.int (2 : Int32)), .val (.int ((0 : Int32) + (1 : Int32))), .val (.ref aq)]) rfl kq)))) ?_
      rw [show ((0 : Int32) + (1 : Int32)) = (1 : Int32) from by decide]
      refine own_to T21 (mkF m 26 #[.val (.ref a1), .val (.ref aq), .val (.ref b1), .val (.int (2 : Int32)), .val (.int (1 : Int32)), .val (.ref ac)] [(.ref ac)]) (fun tq kq => XS.goto X21.here hx rfl (pc0 := 42) (pc' := 12) rfl (hb hby d13_42) (by decide) (by decide) (XS.iload X21.here hx rfl (hb hby d13_12) rfl (XS.iloadN X21.here hx rfl (hb hby d13_14) rfl (XS.icmpNo X21.here hx rfl (hb hby d13_15) rfl (tlt (by decide : (1 : Int32) < (2 : Int32))).2.1 (XS.aloadN X21.here hx rfl (hb hby d13_18) rfl rfl (XS.iload X21.here hx rfl (hb hby d13_19) rfl (X21.aaload hx (j := (1 : Int32)) (v := (.ref ac)) (by rw [e21]; exact Av.1) (State.isArrayOf_alike hZ.alike Av.2.1) rfl Av.2.2 (inb_of Sv ⟨by decide, by decide⟩) (Hv 1 (by rw [Sv]; decide)) (g := (mkF m 21 #[.val (.ref a1), .val (.ref aq), .val (.ref b1), .val (.int (2 : Int32)), .val (.int (1 : Int32)), .val (.ref aq)] [(.int (1 : Int32)), (.ref b1)])) rfl rfl (hb hby d13_21) _ (XS.astore X21.here hx rfl (hb hby d13_22) rfl rfl (l' := #[.val (.ref a1), .val (.ref aq), .val (.ref b1), .val (.int (2 : Int32)), .val (.int (1 : Int32)), .val (.ref ac)]) rfl (XS.aload X21.here hx rfl (hb hby d13_24) rfl rfl kq))))))))) ?_
      obtain ⟨cq22, kq22, q22a, q22b, q22c⟩ := isOf hZ e21 f4
      obtain ⟨_, _, ⟨T22, L22, k22, n22⟩, -, X22, ⟨Lc22, hQ22, l22, y22, z22⟩, st22⟩ := X21.virtualBack hx (y := (⟨"com/example/interest_ranker/interestranker/model/Event$Type", "id", "()Ljava/lang/String;"⟩ : MethodName)) (z := (⟨"com/example/interest_ranker/interestranker/model/Event$Type", "id", "()Ljava/lang/String;"⟩ : MethodName)) hown (mvT hZ (own_w hw 85 rfl)) (mvT hZ (own_w hw 86 rfl)) (notFace_of_selects (args := #[]) (mvT hZ (own_w hw 88 rfl))) (mvT hZ (own_w hw 88 rfl)) (mvT hZ (own_w hw 87 rfl)) (by decide) (backOf (W := 0) (rmId l Z a0 hw [] ac jc T1.heap n0 Zs1 f5) hZ (own_w hw 89 rfl) (own_w hw 66 rfl) (by decide) (by decide)) q22a q22c (g := (mkF m 26 #[.val (.ref a1), .val (.ref aq), .val (.ref b1), .val (.int (2 : Int32)), .val (.int (1 : Int32)), .val (.ref ac)] [(.ref ac)])) rfl (by rw [hml]; rfl) (Steps.refl _) (argsL := []) (rest := []) (lenOf pd_15 rfl) rfl (by show 2 * 0 + _ ≤ _; exact Nat.le_of_eq rfl) (hb hby d13_26) (fun _ _ => ⟨rfl, e21, (by decide : 1 + 0 ≤ _), (by decide : 2 + 0 ≤ _)⟩)
      dsimp only [Pt.U, Pt.locs, Pt.cells, Pt.slots] at X22 l22 y22 z22 st22 hQ22
      have l22y := l22.symm
      clear l22
      subst l22y
      obtain rfl : k22 = 1 := y22
      obtain rfl : n22 = 2 := z22
      obtain ⟨rfl, N22q, e22⟩ := hQ22
      have N22 := Fr.app N21 N22q
      refine own_to T22 (mkF m 30 #[.val (.ref a1), .val (.ref aq), .val (.ref b1), .val (.int (2 : Int32)), .val (.int (1 : Int32)), .val (.ref ac)] [(.ref a1), (.ref jc)]) (fun tq kq => st22.trans (XS.aloadN X22.here hx rfl (hb hby d13_29) rfl rfl kq)) ?_
      obtain ⟨cq23, kq23, q23a, q23b, q23c⟩ := isOf hZ e22 f10
      obtain ⟨_, _, ⟨T23, L23, k23, n23⟩, -, X23, ⟨Lc23, hQ23, l23, y23, z23⟩, st23⟩ := X22.virtualBack hx (y := (⟨"java/lang/String", "equals", "(Ljava/lang/Object;)Z"⟩ : MethodName)) (z := (⟨"java/lang/String", "equals", "(Ljava/lang/Object;)Z"⟩ : MethodName)) hown (mvT hZ (own_w hw 92 rfl)) (mvT hZ (own_w hw 93 rfl)) (notFace_of_selects (args := #[]) (mvT hZ (own_w hw 95 rfl))) (mvT hZ (own_w hw 95 rfl)) (mvT hZ (own_w hw 94 rfl)) (by decide) (backOf (W := 0) (rmEq l Z a0 hw [] jc tc a1 t1 5 n own_fc g G1 T1.heap n0 Zs1 f15 hG f10 f11 f12 f13 f16 f17 f18 f19 (by decide) hn') hZ (own_w hw 96 rfl) (own_w hw 1 rfl) (by decide) (by decide)) q23a q23c (g := (mkF m 30 #[.val (.ref a1), .val (.ref aq), .val (.ref b1), .val (.int (2 : Int32)), .val (.int (1 : Int32)), .val (.ref ac)] [(.ref a1), (.ref jc)])) rfl (by rw [hml]; rfl) (Steps.refl _) (argsL := [(.ref a1)]) (rest := []) (lenOf pd_16 rfl) rfl (by show 2 * 0 + _ ≤ _; exact Nat.le_of_eq rfl) (hb hby d13_30) (fun _ _ => ⟨rfl, e22, (by decide : 1 + 0 ≤ _), (by decide : 2 + 0 ≤ _)⟩)
      dsimp only [Pt.U, Pt.locs, Pt.cells, Pt.slots] at X23 l23 y23 z23 st23 hQ23
      have l23y := l23.symm
      clear l23
      subst l23y
      obtain rfl : k23 = 1 := y23
      obtain rfl : n23 = 2 := z23
      obtain ⟨rfl, N23q, e23⟩ := hQ23
      have N23 := Fr.app N22 N23q
      refine own_to T23 (mkF m 33 #[.val (.ref a1), .val (.ref aq), .val (.ref b1), .val (.int (2 : Int32)), .val (.int (1 : Int32)), .val (.ref ac)] [(.int (own_eq 5 own_fc n g))]) (fun tq kq => st23.trans kq) ?_
      rw [show (own_eq 5 own_fc n g) = (0 : Int32) from hc]
      refine own_to T23 (mkF m 42 #[.val (.ref a1), .val (.ref aq), .val (.ref b1), .val (.int (2 : Int32)), .val (.int ((1 : Int32) + (1 : Int32))), .val (.ref ac)] []) (fun tq kq => XS.ifYes X23.here hx rfl (pc0 := 33) (pc' := 39) rfl (hb hby d13_33) rfl ((if0 _ _).trans (teq (by decide : (0 : Int32) = (0 : Int32))).1) (by decide) (by decide) (XS.iinc X23.here hx rfl (hb hby d13_39) rfl (l' := #[.val (.ref a1), .val (.ref aq), .val (.ref b1), .val (.int (2 : Int32)), .val (.int ((1 : Int32) + (1 : Int32))), .val (.ref ac)]) rfl kq)) ?_
      rw [show ((1 : Int32) + (1 : Int32)) = (2 : Int32) from by decide]
      refine own_to T23 (mkF m 46 #[.val (.ref a1), .val (.ref aq), .val (.ref b1), .val (.int (2 : Int32)), .val (.int (2 : Int32)), .val (.ref ac)] [(.ref aq)]) (fun tq kq => XS.goto X23.here hx rfl (pc0 := 42) (pc' := 12) rfl (hb hby d13_42) (by decide) (by decide) (XS.iload X23.here hx rfl (hb hby d13_12) rfl (XS.iloadN X23.here hx rfl (hb hby d13_14) rfl (XS.icmpYes X23.here hx rfl (pc0 := 15) (pc' := 45) rfl (hb hby d13_15) rfl (flt (by decide : ¬ ((2 : Int32) < (2 : Int32)))).2.1 (by decide) (by decide) (XS.aloadN X23.here hx rfl (hb hby d13_45) rfl rfl kq))))) ?_
      exact own_retA X23 hx hret hlk rfl rfl (hb hby d13_46) (by decide) (by decide) ⟨congrArg some (own_by_10 hq hc).symm, N23, (by rw [e23]; exact KK1)⟩
  · have hq := own_eqF sq
    by_cases sc : own_same 5 own_fc n g
    · have hc := own_eqT sc
      · skip
        refine own_to s₁ (mkF m 2 #[.val (.ref a1), .val .null, .unset, .unset, .unset, .unset] []) (fun tq kq => XS.aconstNull X0.here hx rfl (hb hby d13_0) (XS.astoreN X0.here hx rfl (hb hby d13_1) rfl rfl (l' := #[.val (.ref a1), .val .null, .unset, .unset, .unset, .unset]) rfl kq)) ?_
        obtain ⟨_, _, ⟨T24, L24, k24, n24⟩, -, X24, ⟨Lc24, hQ24, l24, y24, z24⟩, st24⟩ := Jvm.LawKit.callS X0 hx (y := (⟨"com/example/interest_ranker/interestranker/model/Event$Type", "values", "()[Lcom/example/interest_ranker/interestranker/model/Event$Type;"⟩ : MethodName)) hown (mvT hZ (own_w hw 68 rfl)) (mvT hZ (own_w hw 69 rfl)) (mvT hZ (own_w hw 66 rfl)) (mvT hZ (own_w hw 70 rfl)) (by decide) (backOf (W := 0) (rmVal l Z a0 hw [] av aq ac kv h0 n0 Z0 StV EV AV) hZ (own_w hw 70 rfl) (own_w hw 66 rfl) (by decide) (by decide)) (g := (mkF m 2 #[.val (.ref a1), .val .null, .unset, .unset, .unset, .unset] [])) rfl (by rw [hml]; rfl) (argsL := []) (rest := []) (lenOf pd_13 rfl) rfl (by show 2 * 0 + _ ≤ _; exact Nat.le_of_eq rfl) (hb hby d13_2) (fun _ _ => ⟨rfl, e0, (by decide : 0 + 1 ≤ _), (by decide : 0 + 2 ≤ _)⟩)
        dsimp only [Pt.U, Pt.locs, Pt.cells, Pt.slots] at X24 l24 y24 z24 st24 hQ24
        have l24y := l24.symm
        clear l24
        subst l24y
        obtain rfl : k24 = 1 := y24
        obtain rfl : n24 = 2 := z24
        obtain ⟨b24, rfl, N24q, K24q, V24q⟩ := hQ24
        have N24 := Fr.app (Fr.nil n0) N24q
        have f25 := EQ.keep K24q
        have f26 := IQ.keep K24q nin0
        have f27 := EC.keep K24q
        have f28 := IC.keep K24q nin0
        have f29 := EJQ.keep K24q
        have f30 := VJQ.keep K24q nin0
        have f31 := CJQ.keep K24q nin0
        have f32 := BQ.keep K24q nin0
        have f33 := EJC.keep K24q
        have f34 := VJC.keep K24q nin0
        have f35 := CJC.keep K24q nin0
        have f36 := BC.keep K24q nin0
        have f37 := own_staK StV K24q
        have f38 := own_staK O2 K24q
        have f39 := Ea1.keep K24q
        have f40 := Fa1.keep K24q nin0
        have f41 := Ca1.keep K24q nin0
        have f42 := Aa1.keep K24q nin0
        have Zs24 : n0 ≤ T24.heap.size := Nat.le_trans Z0 K24q.1
        have KK24 := K0.trans K24q all0
        obtain ⟨cv, Av, qv, Sv, Mv, Hv, Uv⟩ := V24q
        have Ev24 := @rfl Heap T24.heap
        refine own_to T24 (mkF m 8 #[.val (.ref a1), .val .null, .val (.ref b24), .unset, .unset, .unset] [(.int (cv.slots.size.toInt32))]) (fun tq kq => st24 _ (XS.astoreN X24.here hx rfl (hb hby d13_5) rfl rfl (l' := #[.val (.ref a1), .val .null, .val (.ref b24), .unset, .unset, .unset]) rfl (XS.aloadN X24.here hx rfl (hb hby d13_6) rfl rfl (X24.arraylength hx Av.1 (State.isArrayOf_alike hZ.alike Av.2.1) (g := (mkF m 7 #[.val (.ref a1), .val .null, .val (.ref b24), .unset, .unset, .unset] [(.ref b24)])) rfl rfl (hb hby d13_7) _ kq)))) ?_
        rw [show cv.slots.size.toInt32 = (2 : Int32) from len_of Sv Mv]
        refine own_to T24 (mkF m 24 #[.val (.ref a1), .val .null, .val (.ref b24), .val (.int (2 : Int32)), .val (.int (0 : Int32)), .val (.ref aq)] []) (fun tq kq => XS.istoreN X24.here hx rfl (hb hby d13_8) rfl (l' := #[.val (.ref a1), .val .null, .val (.ref b24), .val (.int (2 : Int32)), .unset, .unset]) rfl (XS.iconst X24.here hx rfl (hb hby d13_9) (XS.istore X24.here hx rfl (hb hby d13_10) rfl (l' := #[.val (.ref a1), .val .null, .val (.ref b24), .val (.int (2 : Int32)), .val (.int (0 : Int32)), .unset]) rfl (XS.iload X24.here hx rfl (hb hby d13_12) rfl (XS.iloadN X24.here hx rfl (hb hby d13_14) rfl (XS.icmpNo X24.here hx rfl (hb hby d13_15) rfl (tlt (by decide : (0 : Int32) < (2 : Int32))).2.1 (XS.aloadN X24.here hx rfl (hb hby d13_18) rfl rfl (XS.iload X24.here hx rfl (hb hby d13_19) rfl (X24.aaload hx (j := (0 : Int32)) (v := (.ref aq)) Av.1 (State.isArrayOf_alike hZ.alike Av.2.1) rfl Av.2.2 (inb_of Sv ⟨by decide, by decide⟩) (Hv 0 (by rw [Sv]; decide)) (g := (mkF m 21 #[.val (.ref a1), .val .null, .val (.ref b24), .val (.int (2 : Int32)), .val (.int (0 : Int32)), .unset] [(.int (0 : Int32)), (.ref b24)])) rfl rfl (hb hby d13_21) _ (XS.astore X24.here hx rfl (hb hby d13_22) rfl rfl (l' := #[.val (.ref a1), .val .null, .val (.ref b24), .val (.int (2 : Int32)), .val (.int (0 : Int32)), .val (.ref aq)]) rfl kq)))))))))) ?_
        refine own_to T24 (mkF m 26 #[.val (.ref a1), .val .null, .val (.ref b24), .val (.int (2 : Int32)), .val (.int (0 : Int32)), .val (.ref aq)] [(.ref aq)]) (fun tq kq => XS.aload X24.here hx rfl (hb hby d13_24) rfl rfl kq) ?_
        obtain ⟨cq43, kq43, q43a, q43b, q43c⟩ := isOf hZ rfl f25
        obtain ⟨_, _, ⟨T43, L43, k43, n43⟩, -, X43, ⟨Lc43, hQ43, l43, y43, z43⟩, st43⟩ := X24.virtualBack hx (y := (⟨"com/example/interest_ranker/interestranker/model/Event$Type", "id", "()Ljava/lang/String;"⟩ : MethodName)) (z := (⟨"com/example/interest_ranker/interestranker/model/Event$Type", "id", "()Ljava/lang/String;"⟩ : MethodName)) hown (mvT hZ (own_w hw 85 rfl)) (mvT hZ (own_w hw 86 rfl)) (notFace_of_selects (args := #[]) (mvT hZ (own_w hw 88 rfl))) (mvT hZ (own_w hw 88 rfl)) (mvT hZ (own_w hw 87 rfl)) (by decide) (backOf (W := 0) (rmId l Z a0 hw [] aq jq T24.heap n0 Zs24 f26) hZ (own_w hw 89 rfl) (own_w hw 66 rfl) (by decide) (by decide)) q43a q43c (g := (mkF m 26 #[.val (.ref a1), .val .null, .val (.ref b24), .val (.int (2 : Int32)), .val (.int (0 : Int32)), .val (.ref aq)] [(.ref aq)])) rfl (by rw [hml]; rfl) (Steps.refl _) (argsL := []) (rest := []) (lenOf pd_15 rfl) rfl (by show 2 * 0 + _ ≤ _; exact Nat.le_of_eq rfl) (hb hby d13_26) (fun _ _ => ⟨rfl, rfl, (by decide : 1 + 0 ≤ _), (by decide : 2 + 0 ≤ _)⟩)
        dsimp only [Pt.U, Pt.locs, Pt.cells, Pt.slots] at X43 l43 y43 z43 st43 hQ43
        have l43y := l43.symm
        clear l43
        subst l43y
        obtain rfl : k43 = 1 := y43
        obtain rfl : n43 = 2 := z43
        obtain ⟨rfl, N43q, e43⟩ := hQ43
        have N43 := Fr.app N24 N43q
        refine own_to T43 (mkF m 30 #[.val (.ref a1), .val .null, .val (.ref b24), .val (.int (2 : Int32)), .val (.int (0 : Int32)), .val (.ref aq)] [(.ref a1), (.ref jq)]) (fun tq kq => st43.trans (XS.aloadN X43.here hx rfl (hb hby d13_29) rfl rfl kq)) ?_
        obtain ⟨cq44, kq44, q44a, q44b, q44c⟩ := isOf hZ e43 f29
        obtain ⟨_, _, ⟨T44, L44, k44, n44⟩, -, X44, ⟨Lc44, hQ44, l44, y44, z44⟩, st44⟩ := X43.virtualBack hx (y := (⟨"java/lang/String", "equals", "(Ljava/lang/Object;)Z"⟩ : MethodName)) (z := (⟨"java/lang/String", "equals", "(Ljava/lang/Object;)Z"⟩ : MethodName)) hown (mvT hZ (own_w hw 92 rfl)) (mvT hZ (own_w hw 93 rfl)) (notFace_of_selects (args := #[]) (mvT hZ (own_w hw 95 rfl))) (mvT hZ (own_w hw 95 rfl)) (mvT hZ (own_w hw 94 rfl)) (by decide) (backOf (W := 0) (rmEq l Z a0 hw [] jq tq a1 t1 5 n own_fq g G1 T24.heap n0 Zs24 f38 hG f29 f30 f31 f32 f39 f40 f41 f42 (by decide) hn') hZ (own_w hw 96 rfl) (own_w hw 1 rfl) (by decide) (by decide)) q44a q44c (g := (mkF m 30 #[.val (.ref a1), .val .null, .val (.ref b24), .val (.int (2 : Int32)), .val (.int (0 : Int32)), .val (.ref aq)] [(.ref a1), (.ref jq)])) rfl (by rw [hml]; rfl) (Steps.refl _) (argsL := [(.ref a1)]) (rest := []) (lenOf pd_16 rfl) rfl (by show 2 * 0 + _ ≤ _; exact Nat.le_of_eq rfl) (hb hby d13_30) (fun _ _ => ⟨rfl, e43, (by decide : 1 + 0 ≤ _), (by decide : 2 + 0 ≤ _)⟩)
        dsimp only [Pt.U, Pt.locs, Pt.cells, Pt.slots] at X44 l44 y44 z44 st44 hQ44
        have l44y := l44.symm
        clear l44
        subst l44y
        obtain rfl : k44 = 1 := y44
        obtain rfl : n44 = 2 := z44
        obtain ⟨rfl, N44q, e44⟩ := hQ44
        have N44 := Fr.app N43 N44q
        refine own_to T44 (mkF m 33 #[.val (.ref a1), .val .null, .val (.ref b24), .val (.int (2 : Int32)), .val (.int (0 : Int32)), .val (.ref aq)] [(.int (own_eq 5 own_fq n g))]) (fun tq kq => st44.trans kq) ?_
        rw [show (own_eq 5 own_fq n g) = (0 : Int32) from hq]
        refine own_to T44 (mkF m 42 #[.val (.ref a1), .val .null, .val (.ref b24), .val (.int (2 : Int32)), .val (.int ((0 : Int32) + (1 : Int32))), .val (.ref aq)] []) (fun tq kq => XS.ifYes X44.here hx rfl (pc0 := 33) (pc' := 39) rfl (hb hby d13_33) rfl ((if0 _ _).trans (teq (by decide : (0 : Int32) = (0 : Int32))).1) (by decide) (by decide) (XS.iinc X44.here hx rfl (hb hby d13_39) rfl (l' := #[.val (.ref a1), .val .null, .val (.ref b24), .val (.int (2 : Int32)), .val (.int ((0 : Int32) + (1 : Int32))), .val (.ref aq)]) rfl kq)) ?_
        rw [show ((0 : Int32) + (1 : Int32)) = (1 : Int32) from by decide]
        refine own_to T44 (mkF m 26 #[.val (.ref a1), .val .null, .val (.ref b24), .val (.int (2 : Int32)), .val (.int (1 : Int32)), .val (.ref ac)] [(.ref ac)]) (fun tq kq => XS.goto X44.here hx rfl (pc0 := 42) (pc' := 12) rfl (hb hby d13_42) (by decide) (by decide) (XS.iload X44.here hx rfl (hb hby d13_12) rfl (XS.iloadN X44.here hx rfl (hb hby d13_14) rfl (XS.icmpNo X44.here hx rfl (hb hby d13_15) rfl (tlt (by decide : (1 : Int32) < (2 : Int32))).2.1 (XS.aloadN X44.here hx rfl (hb hby d13_18) rfl rfl (XS.iload X44.here hx rfl (hb hby d13_19) rfl (X44.aaload hx (j := (1 : Int32)) (v := (.ref ac)) (by rw [e44]; exact Av.1) (State.isArrayOf_alike hZ.alike Av.2.1) rfl Av.2.2 (inb_of Sv ⟨by decide, by decide⟩) (Hv 1 (by rw [Sv]; decide)) (g := (mkF m 21 #[.val (.ref a1), .val .null, .val (.ref b24), .val (.int (2 : Int32)), .val (.int (1 : Int32)), .val (.ref aq)] [(.int (1 : Int32)), (.ref b24)])) rfl rfl (hb hby d13_21) _ (XS.astore X44.here hx rfl (hb hby d13_22) rfl rfl (l' := #[.val (.ref a1), .val .null, .val (.ref b24), .val (.int (2 : Int32)), .val (.int (1 : Int32)), .val (.ref ac)]) rfl (XS.aload X44.here hx rfl (hb hby d13_24) rfl rfl kq))))))))) ?_
        obtain ⟨cq45, kq45, q45a, q45b, q45c⟩ := isOf hZ e44 f27
        obtain ⟨_, _, ⟨T45, L45, k45, n45⟩, -, X45, ⟨Lc45, hQ45, l45, y45, z45⟩, st45⟩ := X44.virtualBack hx (y := (⟨"com/example/interest_ranker/interestranker/model/Event$Type", "id", "()Ljava/lang/String;"⟩ : MethodName)) (z := (⟨"com/example/interest_ranker/interestranker/model/Event$Type", "id", "()Ljava/lang/String;"⟩ : MethodName)) hown (mvT hZ (own_w hw 85 rfl)) (mvT hZ (own_w hw 86 rfl)) (notFace_of_selects (args := #[]) (mvT hZ (own_w hw 88 rfl))) (mvT hZ (own_w hw 88 rfl)) (mvT hZ (own_w hw 87 rfl)) (by decide) (backOf (W := 0) (rmId l Z a0 hw [] ac jc T24.heap n0 Zs24 f28) hZ (own_w hw 89 rfl) (own_w hw 66 rfl) (by decide) (by decide)) q45a q45c (g := (mkF m 26 #[.val (.ref a1), .val .null, .val (.ref b24), .val (.int (2 : Int32)), .val (.int (1 : Int32)), .val (.ref ac)] [(.ref ac)])) rfl (by rw [hml]; rfl) (Steps.refl _) (argsL := []) (rest := []) (lenOf pd_15 rfl) rfl (by show 2 * 0 + _ ≤ _; exact Nat.le_of_eq rfl) (hb hby d13_26) (fun _ _ => ⟨rfl, e44, (by decide : 1 + 0 ≤ _), (by decide : 2 + 0 ≤ _)⟩)
        dsimp only [Pt.U, Pt.locs, Pt.cells, Pt.slots] at X45 l45 y45 z45 st45 hQ45
        have l45y := l45.symm
        clear l45
        subst l45y
        obtain rfl : k45 = 1 := y45
        obtain rfl : n45 = 2 := z45
        obtain ⟨rfl, N45q, e45⟩ := hQ45
        have N45 := Fr.app N44 N45q
        refine own_to T45 (mkF m 30 #[.val (.ref a1), .val .null, .val (.ref b24), .val (.int (2 : Int32)), .val (.int (1 : Int32)), .val (.ref ac)] [(.ref a1), (.ref jc)]) (fun tq kq => st45.trans (XS.aloadN X45.here hx rfl (hb hby d13_29) rfl rfl kq)) ?_
        obtain ⟨cq46, kq46, q46a, q46b, q46c⟩ := isOf hZ e45 f33
        obtain ⟨_, _, ⟨T46, L46, k46, n46⟩, -, X46, ⟨Lc46, hQ46, l46, y46, z46⟩, st46⟩ := X45.virtualBack hx (y := (⟨"java/lang/String", "equals", "(Ljava/lang/Object;)Z"⟩ : MethodName)) (z := (⟨"java/lang/String", "equals", "(Ljava/lang/Object;)Z"⟩ : MethodName)) hown (mvT hZ (own_w hw 92 rfl)) (mvT hZ (own_w hw 93 rfl)) (notFace_of_selects (args := #[]) (mvT hZ (own_w hw 95 rfl))) (mvT hZ (own_w hw 95 rfl)) (mvT hZ (own_w hw 94 rfl)) (by decide) (backOf (W := 0) (rmEq l Z a0 hw [] jc tc a1 t1 5 n own_fc g G1 T24.heap n0 Zs24 f38 hG f33 f34 f35 f36 f39 f40 f41 f42 (by decide) hn') hZ (own_w hw 96 rfl) (own_w hw 1 rfl) (by decide) (by decide)) q46a q46c (g := (mkF m 30 #[.val (.ref a1), .val .null, .val (.ref b24), .val (.int (2 : Int32)), .val (.int (1 : Int32)), .val (.ref ac)] [(.ref a1), (.ref jc)])) rfl (by rw [hml]; rfl) (Steps.refl _) (argsL := [(.ref a1)]) (rest := []) (lenOf pd_16 rfl) rfl (by show 2 * 0 + _ ≤ _; exact Nat.le_of_eq rfl) (hb hby d13_30) (fun _ _ => ⟨rfl, e45, (by decide : 1 + 0 ≤ _), (by decide : 2 + 0 ≤ _)⟩)
        dsimp only [Pt.U, Pt.locs, Pt.cells, Pt.slots] at X46 l46 y46 z46 st46 hQ46
        have l46y := l46.symm
        clear l46
        subst l46y
        obtain rfl : k46 = 1 := y46
        obtain rfl : n46 = 2 := z46
        obtain ⟨rfl, N46q, e46⟩ := hQ46
        have N46 := Fr.app N45 N46q
        refine own_to T46 (mkF m 33 #[.val (.ref a1), .val .null, .val (.ref b24), .val (.int (2 : Int32)), .val (.int (1 : Int32)), .val (.ref ac)] [(.int (own_eq 5 own_fc n g))]) (fun tq kq => st46.trans kq) ?_
        rw [show (own_eq 5 own_fc n g) = (1 : Int32) from hc]
        refine own_to T46 (mkF m 42 #[.val (.ref a1), .val (.ref ac), .val (.ref b24), .val (.int (2 : Int32)), .val (.int ((1 : Int32) + (1 : Int32))), .val (.ref ac)] []) (fun tq kq => XS.ifNo X46.here hx rfl (hb hby d13_33) rfl ((if0 _ _).trans (feq (by decide : ¬ ((1 : Int32) = (0 : Int32)))).1) (XS.aload X46.here hx rfl (hb hby d13_36) rfl rfl (XS.astoreN X46.here hx rfl (hb hby d13_38) rfl rfl (l' := #[.val (.ref a1), .val (.ref ac), .val (.ref b24), .val (.int (2 : Int32)), .val (.int (1 : Int32)), .val (.ref ac)]) rfl (XS.iinc X46.here hx rfl (hb hby d13_39) rfl (l' := #[.val (.ref a1), .val (.ref ac), .val (.ref b24), .val (.int (2 : Int32)), .val (.int ((1 : Int32) + (1 : Int32))), .val (.ref ac)]) rfl kq)))) ?_
        rw [show ((1 : Int32) + (1 : Int32)) = (2 : Int32) from by decide]
        refine own_to T46 (mkF m 46 #[.val (.ref a1), .val (.ref ac), .val (.ref b24), .val (.int (2 : Int32)), .val (.int (2 : Int32)), .val (.ref ac)] [(.ref ac)]) (fun tq kq => XS.goto X46.here hx rfl (pc0 := 42) (pc' := 12) rfl (hb hby d13_42) (by decide) (by decide) (XS.iload X46.here hx rfl (hb hby d13_12) rfl (XS.iloadN X46.here hx rfl (hb hby d13_14) rfl (XS.icmpYes X46.here hx rfl (pc0 := 15) (pc' := 45) rfl (hb hby d13_15) rfl (flt (by decide : ¬ ((2 : Int32) < (2 : Int32)))).2.1 (by decide) (by decide) (XS.aloadN X46.here hx rfl (hb hby d13_45) rfl rfl kq))))) ?_
        exact own_retA X46 hx hret hlk rfl rfl (hb hby d13_46) (by decide) (by decide) ⟨congrArg some (own_by_01 hq hc).symm, N46, (by rw [e46]; exact KK24)⟩
    · have hc := own_eqF sc
      · skip
        refine own_to s₁ (mkF m 2 #[.val (.ref a1), .val .null, .unset, .unset, .unset, .unset] []) (fun tq kq => XS.aconstNull X0.here hx rfl (hb hby d13_0) (XS.astoreN X0.here hx rfl (hb hby d13_1) rfl rfl (l' := #[.val (.ref a1), .val .null, .unset, .unset, .unset, .unset]) rfl kq)) ?_
        obtain ⟨_, _, ⟨T47, L47, k47, n47⟩, -, X47, ⟨Lc47, hQ47, l47, y47, z47⟩, st47⟩ := Jvm.LawKit.callS X0 hx (y := (⟨"com/example/interest_ranker/interestranker/model/Event$Type", "values", "()[Lcom/example/interest_ranker/interestranker/model/Event$Type;"⟩ : MethodName)) hown (mvT hZ (own_w hw 68 rfl)) (mvT hZ (own_w hw 69 rfl)) (mvT hZ (own_w hw 66 rfl)) (mvT hZ (own_w hw 70 rfl)) (by decide) (backOf (W := 0) (rmVal l Z a0 hw [] av aq ac kv h0 n0 Z0 StV EV AV) hZ (own_w hw 70 rfl) (own_w hw 66 rfl) (by decide) (by decide)) (g := (mkF m 2 #[.val (.ref a1), .val .null, .unset, .unset, .unset, .unset] [])) rfl (by rw [hml]; rfl) (argsL := []) (rest := []) (lenOf pd_13 rfl) rfl (by show 2 * 0 + _ ≤ _; exact Nat.le_of_eq rfl) (hb hby d13_2) (fun _ _ => ⟨rfl, e0, (by decide : 0 + 1 ≤ _), (by decide : 0 + 2 ≤ _)⟩)
        dsimp only [Pt.U, Pt.locs, Pt.cells, Pt.slots] at X47 l47 y47 z47 st47 hQ47
        have l47y := l47.symm
        clear l47
        subst l47y
        obtain rfl : k47 = 1 := y47
        obtain rfl : n47 = 2 := z47
        obtain ⟨b47, rfl, N47q, K47q, V47q⟩ := hQ47
        have N47 := Fr.app (Fr.nil n0) N47q
        have f48 := EQ.keep K47q
        have f49 := IQ.keep K47q nin0
        have f50 := EC.keep K47q
        have f51 := IC.keep K47q nin0
        have f52 := EJQ.keep K47q
        have f53 := VJQ.keep K47q nin0
        have f54 := CJQ.keep K47q nin0
        have f55 := BQ.keep K47q nin0
        have f56 := EJC.keep K47q
        have f57 := VJC.keep K47q nin0
        have f58 := CJC.keep K47q nin0
        have f59 := BC.keep K47q nin0
        have f60 := own_staK StV K47q
        have f61 := own_staK O2 K47q
        have f62 := Ea1.keep K47q
        have f63 := Fa1.keep K47q nin0
        have f64 := Ca1.keep K47q nin0
        have f65 := Aa1.keep K47q nin0
        have Zs47 : n0 ≤ T47.heap.size := Nat.le_trans Z0 K47q.1
        have KK47 := K0.trans K47q all0
        obtain ⟨cv, Av, qv, Sv, Mv, Hv, Uv⟩ := V47q
        have Ev47 := @rfl Heap T47.heap
        refine own_to T47 (mkF m 8 #[.val (.ref a1), .val .null, .val (.ref b47), .unset, .unset, .unset] [(.int (cv.slots.size.toInt32))]) (fun tq kq => st47 _ (XS.astoreN X47.here hx rfl (hb hby d13_5) rfl rfl (l' := #[.val (.ref a1), .val .null, .val (.ref b47), .unset, .unset, .unset]) rfl (XS.aloadN X47.here hx rfl (hb hby d13_6) rfl rfl (X47.arraylength hx Av.1 (State.isArrayOf_alike hZ.alike Av.2.1) (g := (mkF m 7 #[.val (.ref a1), .val .null, .val (.ref b47), .unset, .unset, .unset] [(.ref b47)])) rfl rfl (hb hby d13_7) _ kq)))) ?_
        rw [show cv.slots.size.toInt32 = (2 : Int32) from len_of Sv Mv]
        refine own_to T47 (mkF m 24 #[.val (.ref a1), .val .null, .val (.ref b47), .val (.int (2 : Int32)), .val (.int (0 : Int32)), .val (.ref aq)] []) (fun tq kq => XS.istoreN X47.here hx rfl (hb hby d13_8) rfl (l' := #[.val (.ref a1), .val .null, .val (.ref b47), .val (.int (2 : Int32)), .unset, .unset]) rfl (XS.iconst X47.here hx rfl (hb hby d13_9) (XS.istore X47.here hx rfl (hb hby d13_10) rfl (l' := #[.val (.ref a1), .val .null, .val (.ref b47), .val (.int (2 : Int32)), .val (.int (0 : Int32)), .unset]) rfl (XS.iload X47.here hx rfl (hb hby d13_12) rfl (XS.iloadN X47.here hx rfl (hb hby d13_14) rfl (XS.icmpNo X47.here hx rfl (hb hby d13_15) rfl (tlt (by decide : (0 : Int32) < (2 : Int32))).2.1 (XS.aloadN X47.here hx rfl (hb hby d13_18) rfl rfl (XS.iload X47.here hx rfl (hb hby d13_19) rfl (X47.aaload hx (j := (0 : Int32)) (v := (.ref aq)) Av.1 (State.isArrayOf_alike hZ.alike Av.2.1) rfl Av.2.2 (inb_of Sv ⟨by decide, by decide⟩) (Hv 0 (by rw [Sv]; decide)) (g := (mkF m 21 #[.val (.ref a1), .val .null, .val (.ref b47), .val (.int (2 : Int32)), .val (.int (0 : Int32)), .unset] [(.int (0 : Int32)), (.ref b47)])) rfl rfl (hb hby d13_21) _ (XS.astore X47.here hx rfl (hb hby d13_22) rfl rfl (l' := #[.val (.ref a1), .val .null, .val (.ref b47), .val (.int (2 : Int32)), .val (.int (0 : Int32)), .val (.ref aq)]) rfl kq)))))))))) ?_
        refine own_to T47 (mkF m 26 #[.val (.ref a1), .val .null, .val (.ref b47), .val (.int (2 : Int32)), .val (.int (0 : Int32)), .val (.ref aq)] [(.ref aq)]) (fun tq kq => XS.aload X47.here hx rfl (hb hby d13_24) rfl rfl kq) ?_
        obtain ⟨cq66, kq66, q66a, q66b, q66c⟩ := isOf hZ rfl f48
        obtain ⟨_, _, ⟨T66, L66, k66, n66⟩, -, X66, ⟨Lc66, hQ66, l66, y66, z66⟩, st66⟩ := X47.virtualBack hx (y := (⟨"com/example/interest_ranker/interestranker/model/Event$Type", "id", "()Ljava/lang/String;"⟩ : MethodName)) (z := (⟨"com/example/interest_ranker/interestranker/model/Event$Type", "id", "()Ljava/lang/String;"⟩ : MethodName)) hown (mvT hZ (own_w hw 85 rfl)) (mvT hZ (own_w hw 86 rfl)) (notFace_of_selects (args := #[]) (mvT hZ (own_w hw 88 rfl))) (mvT hZ (own_w hw 88 rfl)) (mvT hZ (own_w hw 87 rfl)) (by decide) (backOf (W := 0) (rmId l Z a0 hw [] aq jq T47.heap n0 Zs47 f49) hZ (own_w hw 89 rfl) (own_w hw 66 rfl) (by decide) (by decide)) q66a q66c (g := (mkF m 26 #[.val (.ref a1), .val .null, .val (.ref b47), .val (.int (2 : Int32)), .val (.int (0 : Int32)), .val (.ref aq)] [(.ref aq)])) rfl (by rw [hml]; rfl) (Steps.refl _) (argsL := []) (rest := []) (lenOf pd_15 rfl) rfl (by show 2 * 0 + _ ≤ _; exact Nat.le_of_eq rfl) (hb hby d13_26) (fun _ _ => ⟨rfl, rfl, (by decide : 1 + 0 ≤ _), (by decide : 2 + 0 ≤ _)⟩)
        dsimp only [Pt.U, Pt.locs, Pt.cells, Pt.slots] at X66 l66 y66 z66 st66 hQ66
        have l66y := l66.symm
        clear l66
        subst l66y
        obtain rfl : k66 = 1 := y66
        obtain rfl : n66 = 2 := z66
        obtain ⟨rfl, N66q, e66⟩ := hQ66
        have N66 := Fr.app N47 N66q
        refine own_to T66 (mkF m 30 #[.val (.ref a1), .val .null, .val (.ref b47), .val (.int (2 : Int32)), .val (.int (0 : Int32)), .val (.ref aq)] [(.ref a1), (.ref jq)]) (fun tq kq => st66.trans (XS.aloadN X66.here hx rfl (hb hby d13_29) rfl rfl kq)) ?_
        obtain ⟨cq67, kq67, q67a, q67b, q67c⟩ := isOf hZ e66 f52
        obtain ⟨_, _, ⟨T67, L67, k67, n67⟩, -, X67, ⟨Lc67, hQ67, l67, y67, z67⟩, st67⟩ := X66.virtualBack hx (y := (⟨"java/lang/String", "equals", "(Ljava/lang/Object;)Z"⟩ : MethodName)) (z := (⟨"java/lang/String", "equals", "(Ljava/lang/Object;)Z"⟩ : MethodName)) hown (mvT hZ (own_w hw 92 rfl)) (mvT hZ (own_w hw 93 rfl)) (notFace_of_selects (args := #[]) (mvT hZ (own_w hw 95 rfl))) (mvT hZ (own_w hw 95 rfl)) (mvT hZ (own_w hw 94 rfl)) (by decide) (backOf (W := 0) (rmEq l Z a0 hw [] jq tq a1 t1 5 n own_fq g G1 T47.heap n0 Zs47 f61 hG f52 f53 f54 f55 f62 f63 f64 f65 (by decide) hn') hZ (own_w hw 96 rfl) (own_w hw 1 rfl) (by decide) (by decide)) q67a q67c (g := (mkF m 30 #[.val (.ref a1), .val .null, .val (.ref b47), .val (.int (2 : Int32)), .val (.int (0 : Int32)), .val (.ref aq)] [(.ref a1), (.ref jq)])) rfl (by rw [hml]; rfl) (Steps.refl _) (argsL := [(.ref a1)]) (rest := []) (lenOf pd_16 rfl) rfl (by show 2 * 0 + _ ≤ _; exact Nat.le_of_eq rfl) (hb hby d13_30) (fun _ _ => ⟨rfl, e66, (by decide : 1 + 0 ≤ _), (by decide : 2 + 0 ≤ _)⟩)
        dsimp only [Pt.U, Pt.locs, Pt.cells, Pt.slots] at X67 l67 y67 z67 st67 hQ67
        have l67y := l67.symm
        clear l67
        subst l67y
        obtain rfl : k67 = 1 := y67
        obtain rfl : n67 = 2 := z67
        obtain ⟨rfl, N67q, e67⟩ := hQ67
        have N67 := Fr.app N66 N67q
        refine own_to T67 (mkF m 33 #[.val (.ref a1), .val .null, .val (.ref b47), .val (.int (2 : Int32)), .val (.int (0 : Int32)), .val (.ref aq)] [(.int (own_eq 5 own_fq n g))]) (fun tq kq => st67.trans kq) ?_
        rw [show (own_eq 5 own_fq n g) = (0 : Int32) from hq]
        refine own_to T67 (mkF m 42 #[.val (.ref a1), .val .null, .val (.ref b47), .val (.int (2 : Int32)), .val (.int ((0 : Int32) + (1 : Int32))), .val (.ref aq)] []) (fun tq kq => XS.ifYes X67.here hx rfl (pc0 := 33) (pc' := 39) rfl (hb hby d13_33) rfl ((if0 _ _).trans (teq (by decide : (0 : Int32) = (0 : Int32))).1) (by decide) (by decide) (XS.iinc X67.here hx rfl (hb hby d13_39) rfl (l' := #[.val (.ref a1), .val .null, .val (.ref b47), .val (.int (2 : Int32)), .val (.int ((0 : Int32) + (1 : Int32))), .val (.ref aq)]) rfl kq)) ?_
        rw [show ((0 : Int32) + (1 : Int32)) = (1 : Int32) from by decide]
        refine own_to T67 (mkF m 26 #[.val (.ref a1), .val .null, .val (.ref b47), .val (.int (2 : Int32)), .val (.int (1 : Int32)), .val (.ref ac)] [(.ref ac)]) (fun tq kq => XS.goto X67.here hx rfl (pc0 := 42) (pc' := 12) rfl (hb hby d13_42) (by decide) (by decide) (XS.iload X67.here hx rfl (hb hby d13_12) rfl (XS.iloadN X67.here hx rfl (hb hby d13_14) rfl (XS.icmpNo X67.here hx rfl (hb hby d13_15) rfl (tlt (by decide : (1 : Int32) < (2 : Int32))).2.1 (XS.aloadN X67.here hx rfl (hb hby d13_18) rfl rfl (XS.iload X67.here hx rfl (hb hby d13_19) rfl (X67.aaload hx (j := (1 : Int32)) (v := (.ref ac)) (by rw [e67]; exact Av.1) (State.isArrayOf_alike hZ.alike Av.2.1) rfl Av.2.2 (inb_of Sv ⟨by decide, by decide⟩) (Hv 1 (by rw [Sv]; decide)) (g := (mkF m 21 #[.val (.ref a1), .val .null, .val (.ref b47), .val (.int (2 : Int32)), .val (.int (1 : Int32)), .val (.ref aq)] [(.int (1 : Int32)), (.ref b47)])) rfl rfl (hb hby d13_21) _ (XS.astore X67.here hx rfl (hb hby d13_22) rfl rfl (l' := #[.val (.ref a1), .val .null, .val (.ref b47), .val (.int (2 : Int32)), .val (.int (1 : Int32)), .val (.ref ac)]) rfl (XS.aload X67.here hx rfl (hb hby d13_24) rfl rfl kq))))))))) ?_
        obtain ⟨cq68, kq68, q68a, q68b, q68c⟩ := isOf hZ e67 f50
        obtain ⟨_, _, ⟨T68, L68, k68, n68⟩, -, X68, ⟨Lc68, hQ68, l68, y68, z68⟩, st68⟩ := X67.virtualBack hx (y := (⟨"com/example/interest_ranker/interestranker/model/Event$Type", "id", "()Ljava/lang/String;"⟩ : MethodName)) (z := (⟨"com/example/interest_ranker/interestranker/model/Event$Type", "id", "()Ljava/lang/String;"⟩ : MethodName)) hown (mvT hZ (own_w hw 85 rfl)) (mvT hZ (own_w hw 86 rfl)) (notFace_of_selects (args := #[]) (mvT hZ (own_w hw 88 rfl))) (mvT hZ (own_w hw 88 rfl)) (mvT hZ (own_w hw 87 rfl)) (by decide) (backOf (W := 0) (rmId l Z a0 hw [] ac jc T47.heap n0 Zs47 f51) hZ (own_w hw 89 rfl) (own_w hw 66 rfl) (by decide) (by decide)) q68a q68c (g := (mkF m 26 #[.val (.ref a1), .val .null, .val (.ref b47), .val (.int (2 : Int32)), .val (.int (1 : Int32)), .val (.ref ac)] [(.ref ac)])) rfl (by rw [hml]; rfl) (Steps.refl _) (argsL := []) (rest := []) (lenOf pd_15 rfl) rfl (by show 2 * 0 + _ ≤ _; exact Nat.le_of_eq rfl) (hb hby d13_26) (fun _ _ => ⟨rfl, e67, (by decide : 1 + 0 ≤ _), (by decide : 2 + 0 ≤ _)⟩)
        dsimp only [Pt.U, Pt.locs, Pt.cells, Pt.slots] at X68 l68 y68 z68 st68 hQ68
        have l68y := l68.symm
        clear l68
        subst l68y
        obtain rfl : k68 = 1 := y68
        obtain rfl : n68 = 2 := z68
        obtain ⟨rfl, N68q, e68⟩ := hQ68
        have N68 := Fr.app N67 N68q
        refine own_to T68 (mkF m 30 #[.val (.ref a1), .val .null, .val (.ref b47), .val (.int (2 : Int32)), .val (.int (1 : Int32)), .val (.ref ac)] [(.ref a1), (.ref jc)]) (fun tq kq => st68.trans (XS.aloadN X68.here hx rfl (hb hby d13_29) rfl rfl kq)) ?_
        obtain ⟨cq69, kq69, q69a, q69b, q69c⟩ := isOf hZ e68 f56
        obtain ⟨_, _, ⟨T69, L69, k69, n69⟩, -, X69, ⟨Lc69, hQ69, l69, y69, z69⟩, st69⟩ := X68.virtualBack hx (y := (⟨"java/lang/String", "equals", "(Ljava/lang/Object;)Z"⟩ : MethodName)) (z := (⟨"java/lang/String", "equals", "(Ljava/lang/Object;)Z"⟩ : MethodName)) hown (mvT hZ (own_w hw 92 rfl)) (mvT hZ (own_w hw 93 rfl)) (notFace_of_selects (args := #[]) (mvT hZ (own_w hw 95 rfl))) (mvT hZ (own_w hw 95 rfl)) (mvT hZ (own_w hw 94 rfl)) (by decide) (backOf (W := 0) (rmEq l Z a0 hw [] jc tc a1 t1 5 n own_fc g G1 T47.heap n0 Zs47 f61 hG f56 f57 f58 f59 f62 f63 f64 f65 (by decide) hn') hZ (own_w hw 96 rfl) (own_w hw 1 rfl) (by decide) (by decide)) q69a q69c (g := (mkF m 30 #[.val (.ref a1), .val .null, .val (.ref b47), .val (.int (2 : Int32)), .val (.int (1 : Int32)), .val (.ref ac)] [(.ref a1), (.ref jc)])) rfl (by rw [hml]; rfl) (Steps.refl _) (argsL := [(.ref a1)]) (rest := []) (lenOf pd_16 rfl) rfl (by show 2 * 0 + _ ≤ _; exact Nat.le_of_eq rfl) (hb hby d13_30) (fun _ _ => ⟨rfl, e68, (by decide : 1 + 0 ≤ _), (by decide : 2 + 0 ≤ _)⟩)
        dsimp only [Pt.U, Pt.locs, Pt.cells, Pt.slots] at X69 l69 y69 z69 st69 hQ69
        have l69y := l69.symm
        clear l69
        subst l69y
        obtain rfl : k69 = 1 := y69
        obtain rfl : n69 = 2 := z69
        obtain ⟨rfl, N69q, e69⟩ := hQ69
        have N69 := Fr.app N68 N69q
        refine own_to T69 (mkF m 33 #[.val (.ref a1), .val .null, .val (.ref b47), .val (.int (2 : Int32)), .val (.int (1 : Int32)), .val (.ref ac)] [(.int (own_eq 5 own_fc n g))]) (fun tq kq => st69.trans kq) ?_
        rw [show (own_eq 5 own_fc n g) = (0 : Int32) from hc]
        refine own_to T69 (mkF m 42 #[.val (.ref a1), .val .null, .val (.ref b47), .val (.int (2 : Int32)), .val (.int ((1 : Int32) + (1 : Int32))), .val (.ref ac)] []) (fun tq kq => XS.ifYes X69.here hx rfl (pc0 := 33) (pc' := 39) rfl (hb hby d13_33) rfl ((if0 _ _).trans (teq (by decide : (0 : Int32) = (0 : Int32))).1) (by decide) (by decide) (XS.iinc X69.here hx rfl (hb hby d13_39) rfl (l' := #[.val (.ref a1), .val .null, .val (.ref b47), .val (.int (2 : Int32)), .val (.int ((1 : Int32) + (1 : Int32))), .val (.ref ac)]) rfl kq)) ?_
        rw [show ((1 : Int32) + (1 : Int32)) = (2 : Int32) from by decide]
        refine own_to T69 (mkF m 46 #[.val (.ref a1), .val .null, .val (.ref b47), .val (.int (2 : Int32)), .val (.int (2 : Int32)), .val (.ref ac)] [.null]) (fun tq kq => XS.goto X69.here hx rfl (pc0 := 42) (pc' := 12) rfl (hb hby d13_42) (by decide) (by decide) (XS.iload X69.here hx rfl (hb hby d13_12) rfl (XS.iloadN X69.here hx rfl (hb hby d13_14) rfl (XS.icmpYes X69.here hx rfl (pc0 := 15) (pc' := 45) rfl (hb hby d13_15) rfl (flt (by decide : ¬ ((2 : Int32) < (2 : Int32)))).2.1 (by decide) (by decide) (XS.aloadN X69.here hx rfl (hb hby d13_45) rfl rfl kq))))) ?_
        exact own_retA X69 hx hret hlk rfl rfl (hb hby d13_46) (by decide) (by decide) ⟨congrArg some (own_by_00 hq hc).symm, N69, (by rw [e69]; exact KK47)⟩
theorem ef_13_Rn (m : MethodId)  : entryFrame m #[.null] 6 = mkF m 0 #[.val .null, .unset, .unset, .unset, .unset, .unset] [] := by first | (simp [entryFrame, mkF, argsToLocals, Value.category]; done) | rfl
def Q_rmByN (Z : State) (av aq ac jq jc tq tc : Addr) (kv : ClassId) (G1 : Int32) (h0 : Heap) (n0 : Nat) (v : Option Value) (h : Heap) (L : List Loc) : Prop := v = some .null ∧ Fr n0 L ∧ Keep h0 h []
set_option maxRecDepth 65536 in
set_option maxHeartbeats 40000000 in
theorem rmByN (l : Launch) (Z : State) (a0 : Array Value) (hw : ∀ d ∈ tables_1, d.before a0 Z = true) (ws : List Jvm.Cond) (av aq ac jq jc tq tc : Addr) (kv : ClassId) (G1 : Int32) (h0 : Heap) (n0 : Nat) (Z0 : n0 ≤ h0.size) (O2 : Sta Z h0 "java/lang/String" "COMPACT_STRINGS" "Z" (.int G1)) (hG : ¬ G1 = (0 : Int32)) (StV : Sta Z h0 "com/example/interest_ranker/interestranker/model/Event$Type" "$VALUES" "[Lcom/example/interest_ranker/interestranker/model/Event$Type;" (.ref av)) (EV : Exa Z h0 av "[Lcom/example/interest_ranker/interestranker/model/Event$Type;") (AV : Arv Z h0 av kv (.object "com/example/interest_ranker/interestranker/model/Event$Type") (2 : Int32) [.ref aq, .ref ac] .null) (EQ : Exa Z h0 aq "com/example/interest_ranker/interestranker/model/Event$Type") (IQ : Fld Z h0 aq "com/example/interest_ranker/interestranker/model/Event$Type" "id" "Ljava/lang/String;" (.ref jq)) (EC : Exa Z h0 ac "com/example/interest_ranker/interestranker/model/Event$Type") (IC : Fld Z h0 ac "com/example/interest_ranker/interestranker/model/Event$Type" "id" "Ljava/lang/String;" (.ref jc)) (EJQ : Exa Z h0 jq "java/lang/String") (VJQ : Fld Z h0 jq "java/lang/String" "value" "[B" (.ref tq)) (CJQ : Fld Z h0 jq "java/lang/String" "coder" "B" (.int (0 : Int32))) (BQ : BArr Z h0 tq 5 own_fq) (EJC : Exa Z h0 jc "java/lang/String") (VJC : Fld Z h0 jc "java/lang/String" "value" "[B" (.ref tc)) (CJC : Fld Z h0 jc "java/lang/String" "coder" "B" (.int (0 : Int32))) (BC : BArr Z h0 tc 5 own_fc) :
    MetFree l (⟨"com/example/interest_ranker/interestranker/model/Event$Type", "byId", "(Ljava/lang/String;)Lcom/example/interest_ranker/interestranker/model/Event$Type;"⟩ : MethodName) (head1 (Jvm.Cond.code (⟨"com/example/interest_ranker/interestranker/model/Event$Type", "byId", "(Ljava/lang/String;)Lcom/example/interest_ranker/interestranker/model/Event$Type;"⟩ : MethodName) prog_11_method_5_code 6 (some (.object "com/example/interest_ranker/interestranker/model/Event$Type")) :: ws) ({ frames := 3, cells := 1, slots := 2, locals := 60 } : Room)) (fun a U => a = #[.null] ∧ Z.Warmed39 U.vm ∧ U.heap = h0) (fun _ _ _ _ _ => True) (fun _ U o U' => ∃ v L, o = .returned v ∧ Q_rmByN Z av aq ac jq jc tq tc kv G1 h0 n0 v U'.heap L ∧ FrameEnd U o U' L ({ frames := 3, cells := 1, slots := 2, locals := 60 } : Room).cells ({ frames := 3, cells := 1, slots := 2, locals := 60 } : Room).slots) := by
  refine own_met (y := (⟨"com/example/interest_ranker/interestranker/model/Event$Type", "byId", "(Ljava/lang/String;)Lcom/example/interest_ranker/interestranker/model/Event$Type;"⟩ : MethodName)) (Q := (Q_rmByN Z av aq ac jq jc tq tc kv G1 h0 n0)) (plainFor_of_name pn_15) fun p e s m below meth c s₁ X0 hx hby hml hret hlk hown hnm hZ e0 => ?_
  refine own_entry (ef_13_Rn m ) ?_
  have K0 := Keep.refl h0 []
  refine own_to s₁ (mkF m 2 #[.val .null, .val .null, .unset, .unset, .unset, .unset] []) (fun tq kq => XS.aconstNull X0.here hx rfl (hb hby d13_0) (XS.astoreN X0.here hx rfl (hb hby d13_1) rfl rfl (l' := #[.val .null, .val .null, .unset, .unset, .unset, .unset]) rfl kq)) ?_
  obtain ⟨_, _, ⟨T1, L1, k1, n1⟩, -, X1, ⟨Lc1, hQ1, l1, y1, z1⟩, st1⟩ := Jvm.LawKit.callS X0 hx (y := (⟨"com/example/interest_ranker/interestranker/model/Event$Type", "values", "()[Lcom/example/interest_ranker/interestranker/model/Event$Type;"⟩ : MethodName)) hown (mvT hZ (own_w hw 68 rfl)) (mvT hZ (own_w hw 69 rfl)) (mvT hZ (own_w hw 66 rfl)) (mvT hZ (own_w hw 70 rfl)) (by decide) (backOf (W := 0) (rmVal l Z a0 hw [] av aq ac kv h0 n0 Z0 StV EV AV) hZ (own_w hw 70 rfl) (own_w hw 66 rfl) (by decide) (by decide)) (g := (mkF m 2 #[.val .null, .val .null, .unset, .unset, .unset, .unset] [])) rfl (by rw [hml]; rfl) (argsL := []) (rest := []) (lenOf pd_13 rfl) rfl (by show 2 * 0 + _ ≤ _; exact Nat.le_of_eq rfl) (hb hby d13_2) (fun _ _ => ⟨rfl, e0, (by decide : 0 + 1 ≤ _), (by decide : 0 + 2 ≤ _)⟩)
  dsimp only [Pt.U, Pt.locs, Pt.cells, Pt.slots] at X1 l1 y1 z1 st1 hQ1
  have l1y := l1.symm
  clear l1
  subst l1y
  obtain rfl : k1 = 1 := y1
  obtain rfl : n1 = 2 := z1
  obtain ⟨b1, rfl, N1q, K1q, V1q⟩ := hQ1
  have N1 := Fr.app (Fr.nil n0) N1q
  have f2 := EQ.keep K1q
  have f3 := IQ.keep K1q nin0
  have f4 := EC.keep K1q
  have f5 := IC.keep K1q nin0
  have f6 := EJQ.keep K1q
  have f7 := VJQ.keep K1q nin0
  have f8 := CJQ.keep K1q nin0
  have f9 := BQ.keep K1q nin0
  have f10 := EJC.keep K1q
  have f11 := VJC.keep K1q nin0
  have f12 := CJC.keep K1q nin0
  have f13 := BC.keep K1q nin0
  have f14 := own_staK StV K1q
  have f15 := own_staK O2 K1q
  have Zs1 : n0 ≤ T1.heap.size := Nat.le_trans Z0 K1q.1
  have KK1 := K0.trans K1q all0
  obtain ⟨cv, Av, qv, Sv, Mv, Hv, Uv⟩ := V1q
  have Ev1 := @rfl Heap T1.heap
  refine own_to T1 (mkF m 8 #[.val .null, .val .null, .val (.ref b1), .unset, .unset, .unset] [(.int (cv.slots.size.toInt32))]) (fun tq kq => st1 _ (XS.astoreN X1.here hx rfl (hb hby d13_5) rfl rfl (l' := #[.val .null, .val .null, .val (.ref b1), .unset, .unset, .unset]) rfl (XS.aloadN X1.here hx rfl (hb hby d13_6) rfl rfl (X1.arraylength hx Av.1 (State.isArrayOf_alike hZ.alike Av.2.1) (g := (mkF m 7 #[.val .null, .val .null, .val (.ref b1), .unset, .unset, .unset] [(.ref b1)])) rfl rfl (hb hby d13_7) _ kq)))) ?_
  rw [show cv.slots.size.toInt32 = (2 : Int32) from len_of Sv Mv]
  refine own_to T1 (mkF m 24 #[.val .null, .val .null, .val (.ref b1), .val (.int (2 : Int32)), .val (.int (0 : Int32)), .val (.ref aq)] []) (fun tq kq => XS.istoreN X1.here hx rfl (hb hby d13_8) rfl (l' := #[.val .null, .val .null, .val (.ref b1), .val (.int (2 : Int32)), .unset, .unset]) rfl (XS.iconst X1.here hx rfl (hb hby d13_9) (XS.istore X1.here hx rfl (hb hby d13_10) rfl (l' := #[.val .null, .val .null, .val (.ref b1), .val (.int (2 : Int32)), .val (.int (0 : Int32)), .unset]) rfl (XS.iload X1.here hx rfl (hb hby d13_12) rfl (XS.iloadN X1.here hx rfl (hb hby d13_14) rfl (XS.icmpNo X1.here hx rfl (hb hby d13_15) rfl (tlt (by decide : (0 : Int32) < (2 : Int32))).2.1 (XS.aloadN X1.here hx rfl (hb hby d13_18) rfl rfl (XS.iload X1.here hx rfl (hb hby d13_19) rfl (X1.aaload hx (j := (0 : Int32)) (v := (.ref aq)) Av.1 (State.isArrayOf_alike hZ.alike Av.2.1) rfl Av.2.2 (inb_of Sv ⟨by decide, by decide⟩) (Hv 0 (by rw [Sv]; decide)) (g := (mkF m 21 #[.val .null, .val .null, .val (.ref b1), .val (.int (2 : Int32)), .val (.int (0 : Int32)), .unset] [(.int (0 : Int32)), (.ref b1)])) rfl rfl (hb hby d13_21) _ (XS.astore X1.here hx rfl (hb hby d13_22) rfl rfl (l' := #[.val .null, .val .null, .val (.ref b1), .val (.int (2 : Int32)), .val (.int (0 : Int32)), .val (.ref aq)]) rfl kq)))))))))) ?_
  refine own_to T1 (mkF m 26 #[.val .null, .val .null, .val (.ref b1), .val (.int (2 : Int32)), .val (.int (0 : Int32)), .val (.ref aq)] [(.ref aq)]) (fun tq kq => XS.aload X1.here hx rfl (hb hby d13_24) rfl rfl kq) ?_
  obtain ⟨cq16, kq16, q16a, q16b, q16c⟩ := isOf hZ rfl f2
  obtain ⟨_, _, ⟨T16, L16, k16, n16⟩, -, X16, ⟨Lc16, hQ16, l16, y16, z16⟩, st16⟩ := X1.virtualBack hx (y := (⟨"com/example/interest_ranker/interestranker/model/Event$Type", "id", "()Ljava/lang/String;"⟩ : MethodName)) (z := (⟨"com/example/interest_ranker/interestranker/model/Event$Type", "id", "()Ljava/lang/String;"⟩ : MethodName)) hown (mvT hZ (own_w hw 85 rfl)) (mvT hZ (own_w hw 86 rfl)) (notFace_of_selects (args := #[]) (mvT hZ (own_w hw 88 rfl))) (mvT hZ (own_w hw 88 rfl)) (mvT hZ (own_w hw 87 rfl)) (by decide) (backOf (W := 0) (rmId l Z a0 hw [] aq jq T1.heap n0 Zs1 f3) hZ (own_w hw 89 rfl) (own_w hw 66 rfl) (by decide) (by decide)) q16a q16c (g := (mkF m 26 #[.val .null, .val .null, .val (.ref b1), .val (.int (2 : Int32)), .val (.int (0 : Int32)), .val (.ref aq)] [(.ref aq)])) rfl (by rw [hml]; rfl) (Steps.refl _) (argsL := []) (rest := []) (lenOf pd_15 rfl) rfl (by show 2 * 0 + _ ≤ _; exact Nat.le_of_eq rfl) (hb hby d13_26) (fun _ _ => ⟨rfl, rfl, (by decide : 1 + 0 ≤ _), (by decide : 2 + 0 ≤ _)⟩)
  dsimp only [Pt.U, Pt.locs, Pt.cells, Pt.slots] at X16 l16 y16 z16 st16 hQ16
  have l16y := l16.symm
  clear l16
  subst l16y
  obtain rfl : k16 = 1 := y16
  obtain rfl : n16 = 2 := z16
  obtain ⟨rfl, N16q, e16⟩ := hQ16
  have N16 := Fr.app N1 N16q
  refine own_to T16 (mkF m 30 #[.val .null, .val .null, .val (.ref b1), .val (.int (2 : Int32)), .val (.int (0 : Int32)), .val (.ref aq)] [.null, (.ref jq)]) (fun tq kq => st16.trans (XS.aloadN X16.here hx rfl (hb hby d13_29) rfl rfl kq)) ?_
  obtain ⟨cq17, kq17, q17a, q17b, q17c⟩ := isOf hZ e16 f6
  obtain ⟨_, _, ⟨T17, L17, k17, n17⟩, -, X17, ⟨Lc17, hQ17, l17, y17, z17⟩, st17⟩ := X16.virtualBack hx (y := (⟨"java/lang/String", "equals", "(Ljava/lang/Object;)Z"⟩ : MethodName)) (z := (⟨"java/lang/String", "equals", "(Ljava/lang/Object;)Z"⟩ : MethodName)) hown (mvT hZ (own_w hw 92 rfl)) (mvT hZ (own_w hw 93 rfl)) (notFace_of_selects (args := #[]) (mvT hZ (own_w hw 95 rfl))) (mvT hZ (own_w hw 95 rfl)) (mvT hZ (own_w hw 94 rfl)) (by decide) (backOf (W := 0) (rmEqN l Z a0 hw [] jq T1.heap n0 Zs1) hZ (own_w hw 96 rfl) (own_w hw 1 rfl) (by decide) (by decide)) q17a q17c (g := (mkF m 30 #[.val .null, .val .null, .val (.ref b1), .val (.int (2 : Int32)), .val (.int (0 : Int32)), .val (.ref aq)] [.null, (.ref jq)])) rfl (by rw [hml]; rfl) (Steps.refl _) (argsL := [.null]) (rest := []) (lenOf pd_16 rfl) rfl (by show 2 * 0 + _ ≤ _; exact Nat.le_of_eq rfl) (hb hby d13_30) (fun _ _ => ⟨rfl, e16, (by decide : 1 + 0 ≤ _), (by decide : 2 + 0 ≤ _)⟩)
  dsimp only [Pt.U, Pt.locs, Pt.cells, Pt.slots] at X17 l17 y17 z17 st17 hQ17
  have l17y := l17.symm
  clear l17
  subst l17y
  obtain rfl : k17 = 1 := y17
  obtain rfl : n17 = 2 := z17
  obtain ⟨rfl, N17q, e17⟩ := hQ17
  have N17 := Fr.app N16 N17q
  refine own_to T17 (mkF m 42 #[.val .null, .val .null, .val (.ref b1), .val (.int (2 : Int32)), .val (.int ((0 : Int32) + (1 : Int32))), .val (.ref aq)] []) (fun tq kq => st17.trans (XS.ifYes X17.here hx rfl (pc0 := 33) (pc' := 39) rfl (hb hby d13_33) rfl ((if0 _ _).trans (teq (by decide : (0 : Int32) = (0 : Int32))).1) (by decide) (by decide) (XS.iinc X17.here hx rfl (hb hby d13_39) rfl (l' := #[.val .null, .val .null, .val (.ref b1), .val (.int (2 : Int32)), .val (.int ((0 : Int32) + (1 : Int32))), .val (.ref aq)]) rfl kq))) ?_
  rw [show ((0 : Int32) + (1 : Int32)) = (1 : Int32) from by decide]
  refine own_to T17 (mkF m 26 #[.val .null, .val .null, .val (.ref b1), .val (.int (2 : Int32)), .val (.int (1 : Int32)), .val (.ref ac)] [(.ref ac)]) (fun tq kq => XS.goto X17.here hx rfl (pc0 := 42) (pc' := 12) rfl (hb hby d13_42) (by decide) (by decide) (XS.iload X17.here hx rfl (hb hby d13_12) rfl (XS.iloadN X17.here hx rfl (hb hby d13_14) rfl (XS.icmpNo X17.here hx rfl (hb hby d13_15) rfl (tlt (by decide : (1 : Int32) < (2 : Int32))).2.1 (XS.aloadN X17.here hx rfl (hb hby d13_18) rfl rfl (XS.iload X17.here hx rfl (hb hby d13_19) rfl (X17.aaload hx (j := (1 : Int32)) (v := (.ref ac)) (by rw [e17]; exact Av.1) (State.isArrayOf_alike hZ.alike Av.2.1) rfl Av.2.2 (inb_of Sv ⟨by decide, by decide⟩) (Hv 1 (by rw [Sv]; decide)) (g := (mkF m 21 #[.val .null, .val .null, .val (.ref b1), .val (.int (2 : Int32)), .val (.int (1 : Int32)), .val (.ref aq)] [(.int (1 : Int32)), (.ref b1)])) rfl rfl (hb hby d13_21) _ (XS.astore X17.here hx rfl (hb hby d13_22) rfl rfl (l' := #[.val .null, .val .null, .val (.ref b1), .val (.int (2 : Int32)), .val (.int (1 : Int32)), .val (.ref ac)]) rfl (XS.aload X17.here hx rfl (hb hby d13_24) rfl rfl kq))))))))) ?_
  obtain ⟨cq18, kq18, q18a, q18b, q18c⟩ := isOf hZ e17 f4
  obtain ⟨_, _, ⟨T18, L18, k18, n18⟩, -, X18, ⟨Lc18, hQ18, l18, y18, z18⟩, st18⟩ := X17.virtualBack hx (y := (⟨"com/example/interest_ranker/interestranker/model/Event$Type", "id", "()Ljava/lang/String;"⟩ : MethodName)) (z := (⟨"com/example/interest_ranker/interestranker/model/Event$Type", "id", "()Ljava/lang/String;"⟩ : MethodName)) hown (mvT hZ (own_w hw 85 rfl)) (mvT hZ (own_w hw 86 rfl)) (notFace_of_selects (args := #[]) (mvT hZ (own_w hw 88 rfl))) (mvT hZ (own_w hw 88 rfl)) (mvT hZ (own_w hw 87 rfl)) (by decide) (backOf (W := 0) (rmId l Z a0 hw [] ac jc T1.heap n0 Zs1 f5) hZ (own_w hw 89 rfl) (own_w hw 66 rfl) (by decide) (by decide)) q18a q18c (g := (mkF m 26 #[.val .null, .val .null, .val (.ref b1), .val (.int (2 : Int32)), .val (.int (1 : Int32)), .val (.ref ac)] [(.ref ac)])) rfl (by rw [hml]; rfl) (Steps.refl _) (argsL := []) (rest := []) (lenOf pd_15 rfl) rfl (by show 2 * 0 + _ ≤ _; exact Nat.le_of_eq rfl) (hb hby d13_26) (fun _ _ => ⟨rfl, e17, (by decide : 1 + 0 ≤ _), (by decide : 2 + 0 ≤ _)⟩)
  dsimp only [Pt.U, Pt.locs, Pt.cells, Pt.slots] at X18 l18 y18 z18 st18 hQ18
  have l18y := l18.symm
  clear l18
  subst l18y
  obtain rfl : k18 = 1 := y18
  obtain rfl : n18 = 2 := z18
  obtain ⟨rfl, N18q, e18⟩ := hQ18
  have N18 := Fr.app N17 N18q
  refine own_to T18 (mkF m 30 #[.val .null, .val .null, .val (.ref b1), .val (.int (2 : Int32)), .val (.int (1 : Int32)), .val (.ref ac)] [.null, (.ref jc)]) (fun tq kq => st18.trans (XS.aloadN X18.here hx rfl (hb hby d13_29) rfl rfl kq)) ?_
  obtain ⟨cq19, kq19, q19a, q19b, q19c⟩ := isOf hZ e18 f10
  obtain ⟨_, _, ⟨T19, L19, k19, n19⟩, -, X19, ⟨Lc19, hQ19, l19, y19, z19⟩, st19⟩ := X18.virtualBack hx (y := (⟨"java/lang/String", "equals", "(Ljava/lang/Object;)Z"⟩ : MethodName)) (z := (⟨"java/lang/String", "equals", "(Ljava/lang/Object;)Z"⟩ : MethodName)) hown (mvT hZ (own_w hw 92 rfl)) (mvT hZ (own_w hw 93 rfl)) (notFace_of_selects (args := #[]) (mvT hZ (own_w hw 95 rfl))) (mvT hZ (own_w hw 95 rfl)) (mvT hZ (own_w hw 94 rfl)) (by decide) (backOf (W := 0) (rmEqN l Z a0 hw [] jc T1.heap n0 Zs1) hZ (own_w hw 96 rfl) (own_w hw 1 rfl) (by decide) (by decide)) q19a q19c (g := (mkF m 30 #[.val .null, .val .null, .val (.ref b1), .val (.int (2 : Int32)), .val (.int (1 : Int32)), .val (.ref ac)] [.null, (.ref jc)])) rfl (by rw [hml]; rfl) (Steps.refl _) (argsL := [.null]) (rest := []) (lenOf pd_16 rfl) rfl (by show 2 * 0 + _ ≤ _; exact Nat.le_of_eq rfl) (hb hby d13_30) (fun _ _ => ⟨rfl, e18, (by decide : 1 + 0 ≤ _), (by decide : 2 + 0 ≤ _)⟩)
  dsimp only [Pt.U, Pt.locs, Pt.cells, Pt.slots] at X19 l19 y19 z19 st19 hQ19
  have l19y := l19.symm
  clear l19
  subst l19y
  obtain rfl : k19 = 1 := y19
  obtain rfl : n19 = 2 := z19
  obtain ⟨rfl, N19q, e19⟩ := hQ19
  have N19 := Fr.app N18 N19q
  refine own_to T19 (mkF m 42 #[.val .null, .val .null, .val (.ref b1), .val (.int (2 : Int32)), .val (.int ((1 : Int32) + (1 : Int32))), .val (.ref ac)] []) (fun tq kq => st19.trans (XS.ifYes X19.here hx rfl (pc0 := 33) (pc' := 39) rfl (hb hby d13_33) rfl ((if0 _ _).trans (teq (by decide : (0 : Int32) = (0 : Int32))).1) (by decide) (by decide) (XS.iinc X19.here hx rfl (hb hby d13_39) rfl (l' := #[.val .null, .val .null, .val (.ref b1), .val (.int (2 : Int32)), .val (.int ((1 : Int32) + (1 : Int32))), .val (.ref ac)]) rfl kq))) ?_
  rw [show ((1 : Int32) + (1 : Int32)) = (2 : Int32) from by decide]
  refine own_to T19 (mkF m 46 #[.val .null, .val .null, .val (.ref b1), .val (.int (2 : Int32)), .val (.int (2 : Int32)), .val (.ref ac)] [.null]) (fun tq kq => XS.goto X19.here hx rfl (pc0 := 42) (pc' := 12) rfl (hb hby d13_42) (by decide) (by decide) (XS.iload X19.here hx rfl (hb hby d13_12) rfl (XS.iloadN X19.here hx rfl (hb hby d13_14) rfl (XS.icmpYes X19.here hx rfl (pc0 := 15) (pc' := 45) rfl (hb hby d13_15) rfl (flt (by decide : ¬ ((2 : Int32) < (2 : Int32)))).2.1 (by decide) (by decide) (XS.aloadN X19.here hx rfl (hb hby d13_45) rfl rfl kq))))) ?_
  exact own_retA X19 hx hret hlk rfl rfl (hb hby d13_46) (by decide) (by decide) ⟨rfl, N19, (by rw [e19]; exact KK1)⟩
theorem ef_0_IJ (m : MethodId) (x0 : Int32) (x1 : Int64) : entryFrame m #[(.int x0), (.long x1)] maxLocals = mkF m 0 #[.val (.int x0), .val (.long x1), .second, .unset, .unset, .unset, .unset, .unset] [] := by first | (simp [entryFrame, mkF, argsToLocals, Value.category, maxLocals]; done) | rfl
def Q_rm0 (Z : State) (i0 : Int32) (i1 : Int64) (G1 : Int32) (vF : Value) (av aq ac jq jc tq tc : Addr) (kv : ClassId) (h0 : Heap) (n0 : Nat) (v : Option Value) (h : Heap) (L : List Loc) : Prop := v = some (.int 1) ∧ Fr n0 L
theorem pd_12 : parseMethodDescriptor "(Ljava/lang/String;)Lcom/example/interest_ranker/interestranker/model/Event$Type;" = some ⟨[(.object "java/lang/String")], some (.object "com/example/interest_ranker/interestranker/model/Event$Type")⟩ := by decide +kernel
theorem pd_0 : parseMethodDescriptor "(IIJLjava/lang/String;)C" = some ⟨[.int, .int, .long, (.object "java/lang/String")], some .char⟩ := by decide +kernel
theorem pd_8 : parseMethodDescriptor "(ICCCCCC)Ljava/lang/String;" = some ⟨[.int, .char, .char, .char, .char, .char, .char], some (.object "java/lang/String")⟩ := by decide +kernel
set_option maxRecDepth 65536 in
set_option maxHeartbeats 40000000 in
theorem rm0 (l : Launch) (Z : State) (a0 : Array Value) (hw : ∀ d ∈ tables_1, d.before a0 Z = true) (ws : List Jvm.Cond) (i0 : Int32) (i1 : Int64) (G1 : Int32) (vF : Value) (av aq ac jq jc tq tc : Addr) (kv : ClassId) (h0 : Heap) (n0 : Nat) (Z0 : n0 ≤ h0.size) (O2 : Sta Z h0 "java/lang/String" "COMPACT_STRINGS" "Z" (.int G1)) (hG : ¬ G1 = (0 : Int32)) (O4 : Sta Z h0 "jdk/internal/util/Preconditions" "SIOOBE_FORMATTER" "Ljava/util/function/BiFunction;" vF) (hvF : vF.isRef = true) (hEL : EW Z a0 consts_1) (StV : Sta Z h0 "com/example/interest_ranker/interestranker/model/Event$Type" "$VALUES" "[Lcom/example/interest_ranker/interestranker/model/Event$Type;" (.ref av)) (EV : Exa Z h0 av "[Lcom/example/interest_ranker/interestranker/model/Event$Type;") (AV : Arv Z h0 av kv (.object "com/example/interest_ranker/interestranker/model/Event$Type") (2 : Int32) [.ref aq, .ref ac] .null) (StQ : Sta Z h0 "com/example/interest_ranker/interestranker/model/Event$Type" "QUERY" "Lcom/example/interest_ranker/interestranker/model/Event$Type;" (.ref aq)) (StC : Sta Z h0 "com/example/interest_ranker/interestranker/model/Event$Type" "CLICK" "Lcom/example/interest_ranker/interestranker/model/Event$Type;" (.ref ac)) (EQ : Exa Z h0 aq "com/example/interest_ranker/interestranker/model/Event$Type") (IQ : Fld Z h0 aq "com/example/interest_ranker/interestranker/model/Event$Type" "id" "Ljava/lang/String;" (.ref jq)) (EC : Exa Z h0 ac "com/example/interest_ranker/interestranker/model/Event$Type") (IC : Fld Z h0 ac "com/example/interest_ranker/interestranker/model/Event$Type" "id" "Ljava/lang/String;" (.ref jc)) (EJQ : Exa Z h0 jq "java/lang/String") (VJQ : Fld Z h0 jq "java/lang/String" "value" "[B" (.ref tq)) (CJQ : Fld Z h0 jq "java/lang/String" "coder" "B" (.int (0 : Int32))) (BQ : BArr Z h0 tq 5 own_fq) (EJC : Exa Z h0 jc "java/lang/String") (VJC : Fld Z h0 jc "java/lang/String" "value" "[B" (.ref tc)) (CJC : Fld Z h0 jc "java/lang/String" "coder" "B" (.int (0 : Int32))) (BC : BArr Z h0 tc 5 own_fc) :
    MetFree l x (head1 (Jvm.Cond.code x code maxLocals ret :: ws) room_1) (fun a U => a = #[(.int i0), (.long i1)] ∧ Z.Warmed39 U.vm ∧ U.heap = h0 ∧ CHv Z consts_1 U.vm h0) (fun _ _ _ _ _ => True) (fun _ U o U' => ∃ v L, o = .returned v ∧ Q_rm0 Z i0 i1 G1 vF av aq ac jq jc tq tc kv h0 n0 v U'.heap L ∧ CHr Z consts_1 U.vm U.heap U'.vm U'.heap ∧ ReturnedEndW U o U' L room_1.cells room_1.slots) := by
  refine own_metH (EL := consts_1) (y := x) (Q := (Q_rm0 Z i0 i1 G1 vF av aq ac jq jc tq tc kv h0 n0)) (plainFor_of_name pn_1) fun p e s m below meth c s₁ X0 hx hby hml hret hlk hown hnm hZ e0 hS C0 => ?_
  have hk := Nat.le_refl h0.size
  refine own_entryH (ef_0_IJ m i0 i1) ?_
  have own_wS : ∀ a ∈ Bundle.stringAtoms, a.before a0 Z = true := fun a ha => hw a (own_sub a ha)
  refine own_toH s₁ (mkF m 4 #[.val (.int i0), .val (.long i1), .second, .unset, .unset, .unset, .unset, .unset] [(.int (i0 &&& (7 : Int32)))]) (fun tq kq => XS.iloadN X0.here hx rfl (hb hby at_0) rfl (XS.bipush X0.here hx rfl (hb hby at_1) (XS.iand X0.here hx rfl (hb hby at_3) rfl kq))) ?_
  obtain ⟨n, hn7, hsn⟩ := own_small i0 (7 : Int32) 7 rfl (by decide)
  rw [hsn]
  refine own_toH s₁ (mkF m 10 #[.val (.int i0), .val (.long i1), .second, .val (.int (Int32.ofNat n)), .unset, .unset, .unset, .unset] [(.int (((i0.toUInt32 >>> ((3 : Int32) &&& 31).toUInt32).toInt32) &&& (1 : Int32)))]) (fun tq kq => XS.istoreN X0.here hx rfl (hb hby at_4) rfl (l' := #[.val (.int i0), .val (.long i1), .second, .val (.int (Int32.ofNat n)), .unset, .unset, .unset, .unset]) rfl (XS.iloadN X0.here hx rfl (hb hby at_5) rfl (XS.iconst X0.here hx rfl (hb hby at_6) (XS.iushr X0.here hx rfl (hb hby at_7) rfl (XS.iconst X0.here hx rfl (hb hby at_8) (XS.iand X0.here hx rfl (hb hby at_9) rfl kq)))))) ?_
  by_cases c10 : (((i0.toUInt32 >>> ((3 : Int32) &&& 31).toUInt32).toInt32) &&& (1 : Int32)) = (0 : Int32)
  · skip
    refine own_toH s₁ (mkF m 18 #[.val (.int i0), .val (.long i1), .second, .val (.int (Int32.ofNat n)), .unset, .unset, .unset, .unset] []) (fun tq kq => XS.ifYes X0.here hx rfl (pc0 := 10) (pc' := 18) rfl (hb hby at_10) rfl ((if0 _ _).trans (teq c10).1) (by decide) (by decide) kq) ?_
    obtain ⟨b1, T1, h1, k1, t1, kc1, X1, e1, E1, hS, hk, hZ, hown, Eb1, Cb1, Vb1, Ab1, la1, lb1, hC1, hL1, hsf1, st1⟩ := ldcCH X0 hx hZ hown (own_w hw 0 rfl) own_wS e0 hS hk hEL (by decide) C0.1 (vs := ([(113 : Int32), (117 : Int32), (101 : Int32), (114 : Int32), (121 : Int32)] : List Int32).map Value.int) (z := Int32.ofNat 5) ⟨by decide, by decide⟩ (by decide) (by decide) (g := (mkF m 18 #[.val (.int i0), .val (.long i1), .second, .val (.int (Int32.ofNat n)), .unset, .unset, .unset, .unset] [])) rfl (hb hby at_18) (n := 20) (by decide) (by decide) (by decide) (by decide)
    have f2 := EQ.ext E1
    have f3 := IQ.ext E1
    have f4 := EC.ext E1
    have f5 := IC.ext E1
    have f6 := EJQ.ext E1
    have f7 := VJQ.ext E1
    have f8 := CJQ.ext E1
    have f9 := BQ.ext E1
    have f10 := EJC.ext E1
    have f11 := VJC.ext E1
    have f12 := CJC.ext E1
    have f13 := BC.ext E1
    have f14 := O2.ext E1
    have f15 := O4.ext E1
    have f16 := StV.ext E1
    have f17 := StQ.ext E1
    have f18 := StC.ext E1
    have f19 := EV.ext E1
    have f20 := AV.ext E1
    have Zs1 : n0 ≤ h1.size := Nat.le_trans Z0 E1.1
    have C1 := C0.trans hC1
    have Vt1 : BArr Z h1 t1 5 (fun i => ([(113 : Int32), (117 : Int32), (101 : Int32), (114 : Int32), (121 : Int32)] : List Int32).getD i 0) := own_barr Ab1 (by decide) (by decide)
    refine own_toH T1 (mkF m 20 #[.val (.int i0), .val (.long i1), .second, .val (.int (Int32.ofNat n)), .unset, .unset, .unset, .unset] [(.ref b1)]) (fun tq kq => st1 _ kq) ?_
    have u21 : BArr Z h1 t1 5 own_fq := Vt1
    refine own_toH T1 (mkF m 25 #[.val (.int i0), .val (.long i1), .second, .val (.int (Int32.ofNat n)), .val (.ref b1), .unset, .unset, .unset] [(.int (7 : Int32)), (.int (Int32.ofNat n))]) (fun tq kq => XS.astore X1.here hx rfl (hb hby at_20) rfl rfl (l' := #[.val (.int i0), .val (.long i1), .second, .val (.int (Int32.ofNat n)), .val (.ref b1), .unset, .unset, .unset]) rfl (XS.iloadN X1.here hx rfl (hb hby at_22) rfl (XS.bipush X1.here hx rfl (hb hby at_23) kq))) ?_
    by_cases c25 : (Int32.ofNat n) = (7 : Int32)
    · skip
      refine own_toH T1 (mkF m 90 #[.val (.int i0), .val (.long i1), .second, .val (.int (Int32.ofNat n)), .val (.ref b1), .val .null, .unset, .unset] [.null]) (fun tq kq => XS.icmpNo X1.here hx rfl (hb hby at_25) rfl (teq c25).2 (XS.aconstNull X1.here hx rfl (hb hby at_28) (XS.astore X1.here hx rfl (hb hby at_29) rfl rfl (l' := #[.val (.int i0), .val (.long i1), .second, .val (.int (Int32.ofNat n)), .val (.ref b1), .val .null, .unset, .unset]) rfl (XS.goto X1.here hx rfl (pc0 := 31) (pc' := 88) rfl (hb hby at_31) (by decide) (by decide) (XS.aload X1.here hx rfl (hb hby at_88) rfl rfl kq))))) ?_
      obtain ⟨_, _, ⟨T22, L22, k22, n22⟩, -, X22, ⟨Lc22, hQ22, l22, y22, z22⟩, st22⟩ := Jvm.LawKit.callS X1 hx (y := (⟨"com/example/interest_ranker/interestranker/model/Event$Type", "byId", "(Ljava/lang/String;)Lcom/example/interest_ranker/interestranker/model/Event$Type;"⟩ : MethodName)) hown (mvT hZ (own_w hw 64 rfl)) (mvT hZ (own_w hw 65 rfl)) (mvT hZ (own_w hw 66 rfl)) (mvT hZ (own_w hw 67 rfl)) (by decide) (backOf (W := 0) (rmByN l Z a0 hw [] av aq ac jq jc tq tc kv G1 h1 n0 Zs1 f14 hG f16 f19 f20 f2 f3 f4 f5 f6 f7 f8 f9 f10 f11 f12 f13) hZ (own_w hw 67 rfl) (own_w hw 66 rfl) (by decide) (by decide)) (g := (mkF m 90 #[.val (.int i0), .val (.long i1), .second, .val (.int (Int32.ofNat n)), .val (.ref b1), .val .null, .unset, .unset] [.null])) rfl (by rw [hml]; rfl) (argsL := [.null]) (rest := []) (lenOf pd_12 rfl) rfl (by show 2 * 0 + _ ≤ _; exact Nat.le_of_eq rfl) (hb hby at_90) (fun _ _ => ⟨rfl, e1, (by decide : 2 + 1 ≤ _), (by decide : 24 + 2 ≤ _)⟩)
      dsimp only [Pt.U, Pt.locs, Pt.cells, Pt.slots] at X22 l22 y22 z22 st22 hQ22
      have l22y := l22.symm
      clear l22
      subst l22y
      obtain rfl : k22 = 3 := y22
      obtain rfl : n22 = 26 := z22
      obtain ⟨rfl, N22q, K22q⟩ := hQ22
      have N22 := Fr.app (Fr.nil n0) N22q
      have f23 := f2.keep K22q
      have f24 := f3.keep K22q nin0
      have f25 := f4.keep K22q
      have f26 := f5.keep K22q nin0
      have f27 := f6.keep K22q
      have f28 := f7.keep K22q nin0
      have f29 := f8.keep K22q nin0
      have f30 := f9.keep K22q nin0
      have f31 := f10.keep K22q
      have f32 := f11.keep K22q nin0
      have f33 := f12.keep K22q nin0
      have f34 := f13.keep K22q nin0
      have f35 := own_staK f14 K22q
      have f36 := own_staK f15 K22q
      have f37 := own_staK f16 K22q
      have f38 := own_staK f17 K22q
      have f39 := own_staK f18 K22q
      have f40 := f19.keep K22q
      have f41 := f20.keep K22q nin0
      have f42 := Eb1.keep K22q
      have f43 := Vb1.keep K22q nin0
      have f44 := Cb1.keep K22q nin0
      have f45 := u21.keep K22q nin0
      have Zs22 : n0 ≤ T22.heap.size := Nat.le_trans Zs1 K22q.1
      have hk := Nat.le_trans hk K22q.1
      have C22 := C1.trans (CHr.keep K22q all0 C1.1)
      refine own_toH T22 (mkF m 152 #[.val (.int i0), .val (.long i1), .second, .val (.int (Int32.ofNat n)), .val (.ref b1), .val .null, .val .null, .val .null] []) (fun tq kq => st22 _ (XS.astore X22.here hx rfl (hb hby at_93) rfl rfl (l' := #[.val (.int i0), .val (.long i1), .second, .val (.int (Int32.ofNat n)), .val (.ref b1), .val .null, .val .null, .unset]) rfl (XS.aload X22.here hx rfl (hb hby at_95) rfl rfl (XS.ifnonnullNo X22.here hx rfl (hb hby at_97) rfl (XS.aconstNull X22.here hx rfl (hb hby at_100) (XS.astore X22.here hx rfl (hb hby at_101) rfl rfl (l' := #[.val (.int i0), .val (.long i1), .second, .val (.int (Int32.ofNat n)), .val (.ref b1), .val .null, .val .null, .val .null]) rfl (XS.goto X22.here hx rfl (pc0 := 103) (pc' := 145) rfl (hb hby at_103) (by decide) (by decide) (XS.aload X22.here hx rfl (hb hby at_145) rfl rfl (XS.aload X22.here hx rfl (hb hby at_147) rfl rfl (Jvm.RoadKit.acmp (g := (mkF m 149 #[.val (.int i0), .val (.long i1), .second, .val (.int (Int32.ofNat n)), .val (.ref b1), .val .null, .val .null, .val .null] [.null, .null])) X22 hx rfl rfl rfl (pc0 := 149) (pc' := 152) (same := true) rfl (hb hby at_149) rfl (decide_eq_true rfl) (by decide) (by decide) kq)))))))))) ?_
      refine own_toH T22 (mkF m 157 #[.val (.int i0), .val (.long i1), .second, .val (.int (Int32.ofNat n)), .val (.ref b1), .val .null, .val .null, .val .null] [(.int (1 : Int32))]) (fun tq kq => XS.iconst X22.here hx rfl (hb hby at_152) (XS.goto X22.here hx rfl (pc0 := 153) (pc' := 157) rfl (hb hby at_153) (by decide) (by decide) kq)) ?_
      exact own_retZH X22 hS hk hZ hEL C22 hx hret hlk (hb hby at_157) (by decide) (by decide) (Or.inr rfl) ⟨rfl, N22⟩
    · skip
      refine own_toH T1 (mkF m 40 #[.val (.int i0), .val (.long i1), .second, .val (.int (Int32.ofNat n)), .val (.ref b1), .unset, .unset, .unset] [(.ref b1), (.long i1), (.int i0), (.int (0 : Int32)), (.int (Int32.ofNat n))]) (fun tq kq => XS.icmpYes X1.here hx rfl (pc0 := 25) (pc' := 34) rfl (hb hby at_25) rfl (feq c25).2 (by decide) (by decide) (XS.iloadN X1.here hx rfl (hb hby at_34) rfl (XS.iconst X1.here hx rfl (hb hby at_35) (XS.iloadN X1.here hx rfl (hb hby at_36) rfl (XS.lloadN X1.here hx rfl (hb hby at_37) rfl (XS.aload X1.here hx rfl (hb hby at_38) rfl rfl kq)))))) ?_
      obtain ⟨_, _, ⟨T46, L46, k46, n46⟩, -, X46, ⟨Lc46, hQ46, l46, y46, z46⟩, st46⟩ := Jvm.LawKit.callS X1 hx (y := (⟨"com/example/interest_ranker/interestranker/model/TypeByIdPinLaw", "pick", "(IIJLjava/lang/String;)C"⟩ : MethodName)) hown (mvT hZ (own_w hw 8 rfl)) (mvT hZ (own_w hw 9 rfl)) (mvT hZ (own_w hw 10 rfl)) (mvT hZ (own_w hw 11 rfl)) (by decide) (backOf (W := 1) (rmPick l Z a0 hw [] 0 i0 i1 b1 t1 own_fq G1 vF h1 n0 Zs1 f14 hG f15 hvF Eb1 Vb1 Cb1 u21 (by decide)) hZ (own_w hw 11 rfl) (own_w hw 10 rfl) (by decide) (by decide)) (g := (mkF m 40 #[.val (.int i0), .val (.long i1), .second, .val (.int (Int32.ofNat n)), .val (.ref b1), .unset, .unset, .unset] [(.ref b1), (.long i1), (.int i0), (.int (0 : Int32)), (.int (Int32.ofNat n))])) rfl (by rw [hml]; rfl) (argsL := [(.int (0 : Int32)), (.int i0), (.long i1), (.ref b1)]) (rest := [(.int (Int32.ofNat n))]) (lenOf pd_0 rfl) rfl (by show 2 * 0 + _ ≤ _; exact Nat.le_of_eq rfl) (hb hby at_40) (fun _ _ => ⟨rfl, e1, (by decide : 2 + 0 ≤ _), (by decide : 24 + 0 ≤ _)⟩)
      dsimp only [Pt.U, Pt.locs, Pt.cells, Pt.slots] at X46 l46 y46 z46 st46 hQ46
      have l46y := l46.symm
      clear l46
      subst l46y
      obtain rfl : k46 = 2 := y46
      obtain rfl : n46 = 24 := z46
      obtain ⟨va, rfl, hcva, N46q, e46⟩ := hQ46
      have N46 := Fr.app (Fr.nil n0) N46q
      refine own_toH T46 (mkF m 48 #[.val (.int i0), .val (.long i1), .second, .val (.int (Int32.ofNat n)), .val (.ref b1), .unset, .unset, .unset] [(.ref b1), (.long i1), (.int i0), (.int (1 : Int32)), (.int va), (.int (Int32.ofNat n))]) (fun tq kq => st46 _ (XS.iconst X46.here hx rfl (hb hby at_43) (XS.iloadN X46.here hx rfl (hb hby at_44) rfl (XS.lloadN X46.here hx rfl (hb hby at_45) rfl (XS.aload X46.here hx rfl (hb hby at_46) rfl rfl kq))))) ?_
      obtain ⟨_, _, ⟨T47, L47, k47, n47⟩, -, X47, ⟨Lc47, hQ47, l47, y47, z47⟩, st47⟩ := Jvm.LawKit.callS X46 hx (y := (⟨"com/example/interest_ranker/interestranker/model/TypeByIdPinLaw", "pick", "(IIJLjava/lang/String;)C"⟩ : MethodName)) hown (mvT hZ (own_w hw 8 rfl)) (mvT hZ (own_w hw 9 rfl)) (mvT hZ (own_w hw 10 rfl)) (mvT hZ (own_w hw 11 rfl)) (by decide) (backOf (W := 2) (rmPick l Z a0 hw [] 1 i0 i1 b1 t1 own_fq G1 vF h1 n0 Zs1 f14 hG f15 hvF Eb1 Vb1 Cb1 u21 (by decide)) hZ (own_w hw 11 rfl) (own_w hw 10 rfl) (by decide) (by decide)) (g := (mkF m 48 #[.val (.int i0), .val (.long i1), .second, .val (.int (Int32.ofNat n)), .val (.ref b1), .unset, .unset, .unset] [(.ref b1), (.long i1), (.int i0), (.int (1 : Int32)), (.int va), (.int (Int32.ofNat n))])) rfl (by rw [hml]; rfl) (argsL := [(.int (1 : Int32)), (.int i0), (.long i1), (.ref b1)]) (rest := [(.int va), (.int (Int32.ofNat n))]) (lenOf pd_0 rfl) rfl (by show 2 * 0 + _ ≤ _; exact Nat.le_of_eq rfl) (hb hby at_48) (fun _ _ => ⟨rfl, e46, (by decide : 2 + 0 ≤ _), (by decide : 24 + 0 ≤ _)⟩)
      dsimp only [Pt.U, Pt.locs, Pt.cells, Pt.slots] at X47 l47 y47 z47 st47 hQ47
      have l47y := l47.symm
      clear l47
      subst l47y
      obtain rfl : k47 = 2 := y47
      obtain rfl : n47 = 24 := z47
      obtain ⟨vb, rfl, hcvb, N47q, e47⟩ := hQ47
      have N47 := Fr.app N46 N47q
      refine own_toH T47 (mkF m 56 #[.val (.int i0), .val (.long i1), .second, .val (.int (Int32.ofNat n)), .val (.ref b1), .unset, .unset, .unset] [(.ref b1), (.long i1), (.int i0), (.int (2 : Int32)), (.int vb), (.int va), (.int (Int32.ofNat n))]) (fun tq kq => st47 _ (XS.iconst X47.here hx rfl (hb hby at_51) (XS.iloadN X47.here hx rfl (hb hby at_52) rfl (XS.lloadN X47.here hx rfl (hb hby at_53) rfl (XS.aload X47.here hx rfl (hb hby at_54) rfl rfl kq))))) ?_
      obtain ⟨_, _, ⟨T48, L48, k48, n48⟩, -, X48, ⟨Lc48, hQ48, l48, y48, z48⟩, st48⟩ := Jvm.LawKit.callS X47 hx (y := (⟨"com/example/interest_ranker/interestranker/model/TypeByIdPinLaw", "pick", "(IIJLjava/lang/String;)C"⟩ : MethodName)) hown (mvT hZ (own_w hw 8 rfl)) (mvT hZ (own_w hw 9 rfl)) (mvT hZ (own_w hw 10 rfl)) (mvT hZ (own_w hw 11 rfl)) (by decide) (backOf (W := 3) (rmPick l Z a0 hw [] 2 i0 i1 b1 t1 own_fq G1 vF h1 n0 Zs1 f14 hG f15 hvF Eb1 Vb1 Cb1 u21 (by decide)) hZ (own_w hw 11 rfl) (own_w hw 10 rfl) (by decide) (by decide)) (g := (mkF m 56 #[.val (.int i0), .val (.long i1), .second, .val (.int (Int32.ofNat n)), .val (.ref b1), .unset, .unset, .unset] [(.ref b1), (.long i1), (.int i0), (.int (2 : Int32)), (.int vb), (.int va), (.int (Int32.ofNat n))])) rfl (by rw [hml]; rfl) (argsL := [(.int (2 : Int32)), (.int i0), (.long i1), (.ref b1)]) (rest := [(.int vb), (.int va), (.int (Int32.ofNat n))]) (lenOf pd_0 rfl) rfl (by show 2 * 0 + _ ≤ _; exact Nat.le_of_eq rfl) (hb hby at_56) (fun _ _ => ⟨rfl, e47, (by decide : 2 + 0 ≤ _), (by decide : 24 + 0 ≤ _)⟩)
      dsimp only [Pt.U, Pt.locs, Pt.cells, Pt.slots] at X48 l48 y48 z48 st48 hQ48
      have l48y := l48.symm
      clear l48
      subst l48y
      obtain rfl : k48 = 2 := y48
      obtain rfl : n48 = 24 := z48
      obtain ⟨vc, rfl, hcvc, N48q, e48⟩ := hQ48
      have N48 := Fr.app N47 N48q
      refine own_toH T48 (mkF m 64 #[.val (.int i0), .val (.long i1), .second, .val (.int (Int32.ofNat n)), .val (.ref b1), .unset, .unset, .unset] [(.ref b1), (.long i1), (.int i0), (.int (3 : Int32)), (.int vc), (.int vb), (.int va), (.int (Int32.ofNat n))]) (fun tq kq => st48 _ (XS.iconst X48.here hx rfl (hb hby at_59) (XS.iloadN X48.here hx rfl (hb hby at_60) rfl (XS.lloadN X48.here hx rfl (hb hby at_61) rfl (XS.aload X48.here hx rfl (hb hby at_62) rfl rfl kq))))) ?_
      obtain ⟨_, _, ⟨T49, L49, k49, n49⟩, -, X49, ⟨Lc49, hQ49, l49, y49, z49⟩, st49⟩ := Jvm.LawKit.callS X48 hx (y := (⟨"com/example/interest_ranker/interestranker/model/TypeByIdPinLaw", "pick", "(IIJLjava/lang/String;)C"⟩ : MethodName)) hown (mvT hZ (own_w hw 8 rfl)) (mvT hZ (own_w hw 9 rfl)) (mvT hZ (own_w hw 10 rfl)) (mvT hZ (own_w hw 11 rfl)) (by decide) (backOf (W := 4) (rmPick l Z a0 hw [] 3 i0 i1 b1 t1 own_fq G1 vF h1 n0 Zs1 f14 hG f15 hvF Eb1 Vb1 Cb1 u21 (by decide)) hZ (own_w hw 11 rfl) (own_w hw 10 rfl) (by decide) (by decide)) (g := (mkF m 64 #[.val (.int i0), .val (.long i1), .second, .val (.int (Int32.ofNat n)), .val (.ref b1), .unset, .unset, .unset] [(.ref b1), (.long i1), (.int i0), (.int (3 : Int32)), (.int vc), (.int vb), (.int va), (.int (Int32.ofNat n))])) rfl (by rw [hml]; rfl) (argsL := [(.int (3 : Int32)), (.int i0), (.long i1), (.ref b1)]) (rest := [(.int vc), (.int vb), (.int va), (.int (Int32.ofNat n))]) (lenOf pd_0 rfl) rfl (by show 2 * 0 + _ ≤ _; exact Nat.le_of_eq rfl) (hb hby at_64) (fun _ _ => ⟨rfl, e48, (by decide : 2 + 0 ≤ _), (by decide : 24 + 0 ≤ _)⟩)
      dsimp only [Pt.U, Pt.locs, Pt.cells, Pt.slots] at X49 l49 y49 z49 st49 hQ49
      have l49y := l49.symm
      clear l49
      subst l49y
      obtain rfl : k49 = 2 := y49
      obtain rfl : n49 = 24 := z49
      obtain ⟨vd, rfl, hcvd, N49q, e49⟩ := hQ49
      have N49 := Fr.app N48 N49q
      refine own_toH T49 (mkF m 72 #[.val (.int i0), .val (.long i1), .second, .val (.int (Int32.ofNat n)), .val (.ref b1), .unset, .unset, .unset] [(.ref b1), (.long i1), (.int i0), (.int (4 : Int32)), (.int vd), (.int vc), (.int vb), (.int va), (.int (Int32.ofNat n))]) (fun tq kq => st49 _ (XS.iconst X49.here hx rfl (hb hby at_67) (XS.iloadN X49.here hx rfl (hb hby at_68) rfl (XS.lloadN X49.here hx rfl (hb hby at_69) rfl (XS.aload X49.here hx rfl (hb hby at_70) rfl rfl kq))))) ?_
      obtain ⟨_, _, ⟨T50, L50, k50, n50⟩, -, X50, ⟨Lc50, hQ50, l50, y50, z50⟩, st50⟩ := Jvm.LawKit.callS X49 hx (y := (⟨"com/example/interest_ranker/interestranker/model/TypeByIdPinLaw", "pick", "(IIJLjava/lang/String;)C"⟩ : MethodName)) hown (mvT hZ (own_w hw 8 rfl)) (mvT hZ (own_w hw 9 rfl)) (mvT hZ (own_w hw 10 rfl)) (mvT hZ (own_w hw 11 rfl)) (by decide) (backOf (W := 5) (rmPick l Z a0 hw [] 4 i0 i1 b1 t1 own_fq G1 vF h1 n0 Zs1 f14 hG f15 hvF Eb1 Vb1 Cb1 u21 (by decide)) hZ (own_w hw 11 rfl) (own_w hw 10 rfl) (by decide) (by decide)) (g := (mkF m 72 #[.val (.int i0), .val (.long i1), .second, .val (.int (Int32.ofNat n)), .val (.ref b1), .unset, .unset, .unset] [(.ref b1), (.long i1), (.int i0), (.int (4 : Int32)), (.int vd), (.int vc), (.int vb), (.int va), (.int (Int32.ofNat n))])) rfl (by rw [hml]; rfl) (argsL := [(.int (4 : Int32)), (.int i0), (.long i1), (.ref b1)]) (rest := [(.int vd), (.int vc), (.int vb), (.int va), (.int (Int32.ofNat n))]) (lenOf pd_0 rfl) rfl (by show 2 * 0 + _ ≤ _; exact Nat.le_of_eq rfl) (hb hby at_72) (fun _ _ => ⟨rfl, e49, (by decide : 2 + 0 ≤ _), (by decide : 24 + 0 ≤ _)⟩)
      dsimp only [Pt.U, Pt.locs, Pt.cells, Pt.slots] at X50 l50 y50 z50 st50 hQ50
      have l50y := l50.symm
      clear l50
      subst l50y
      obtain rfl : k50 = 2 := y50
      obtain rfl : n50 = 24 := z50
      obtain ⟨ve, rfl, hcve, N50q, e50⟩ := hQ50
      have N50 := Fr.app N49 N50q
      refine own_toH T50 (mkF m 80 #[.val (.int i0), .val (.long i1), .second, .val (.int (Int32.ofNat n)), .val (.ref b1), .unset, .unset, .unset] [(.ref b1), (.long i1), (.int i0), (.int (5 : Int32)), (.int ve), (.int vd), (.int vc), (.int vb), (.int va), (.int (Int32.ofNat n))]) (fun tq kq => st50 _ (XS.iconst X50.here hx rfl (hb hby at_75) (XS.iloadN X50.here hx rfl (hb hby at_76) rfl (XS.lloadN X50.here hx rfl (hb hby at_77) rfl (XS.aload X50.here hx rfl (hb hby at_78) rfl rfl kq))))) ?_
      obtain ⟨_, _, ⟨T51, L51, k51, n51⟩, -, X51, ⟨Lc51, hQ51, l51, y51, z51⟩, st51⟩ := Jvm.LawKit.callS X50 hx (y := (⟨"com/example/interest_ranker/interestranker/model/TypeByIdPinLaw", "pick", "(IIJLjava/lang/String;)C"⟩ : MethodName)) hown (mvT hZ (own_w hw 8 rfl)) (mvT hZ (own_w hw 9 rfl)) (mvT hZ (own_w hw 10 rfl)) (mvT hZ (own_w hw 11 rfl)) (by decide) (backOf (W := 6) (rmPick l Z a0 hw [] 5 i0 i1 b1 t1 own_fq G1 vF h1 n0 Zs1 f14 hG f15 hvF Eb1 Vb1 Cb1 u21 (by decide)) hZ (own_w hw 11 rfl) (own_w hw 10 rfl) (by decide) (by decide)) (g := (mkF m 80 #[.val (.int i0), .val (.long i1), .second, .val (.int (Int32.ofNat n)), .val (.ref b1), .unset, .unset, .unset] [(.ref b1), (.long i1), (.int i0), (.int (5 : Int32)), (.int ve), (.int vd), (.int vc), (.int vb), (.int va), (.int (Int32.ofNat n))])) rfl (by rw [hml]; rfl) (argsL := [(.int (5 : Int32)), (.int i0), (.long i1), (.ref b1)]) (rest := [(.int ve), (.int vd), (.int vc), (.int vb), (.int va), (.int (Int32.ofNat n))]) (lenOf pd_0 rfl) rfl (by show 2 * 0 + _ ≤ _; exact Nat.le_of_eq rfl) (hb hby at_80) (fun _ _ => ⟨rfl, e50, (by decide : 2 + 0 ≤ _), (by decide : 24 + 0 ≤ _)⟩)
      dsimp only [Pt.U, Pt.locs, Pt.cells, Pt.slots] at X51 l51 y51 z51 st51 hQ51
      have l51y := l51.symm
      clear l51
      subst l51y
      obtain rfl : k51 = 2 := y51
      obtain rfl : n51 = 24 := z51
      obtain ⟨vf, rfl, hcvf, N51q, e51⟩ := hQ51
      have N51 := Fr.app N50 N51q
      refine own_toH T51 (mkF m 83 #[.val (.int i0), .val (.long i1), .second, .val (.int (Int32.ofNat n)), .val (.ref b1), .unset, .unset, .unset] [(.int vf), (.int ve), (.int vd), (.int vc), (.int vb), (.int va), (.int (Int32.ofNat n))]) (fun tq kq => st51 _ kq) ?_
      have hn6 : n ≤ 6 := (by have hz : n ≠ 7 := (fun z => c25 (by rw [z]; rfl)); omega)
      obtain ⟨_, _, ⟨T52, L52, k52, n52⟩, -, X52, hS52, hgr52, ⟨Lc52, hQ52, l52, y52, z52, hC52⟩, st52⟩ := callSS X51 hx (y := (⟨"com/example/interest_ranker/interestranker/model/TypeByIdPinLaw", "make", "(ICCCCCC)Ljava/lang/String;"⟩ : MethodName)) hown (mvT hZ (own_w hw 48 rfl)) (mvT hZ (own_w hw 49 rfl)) (mvT hZ (own_w hw 10 rfl)) (mvT hZ (own_w hw 50 rfl)) (by decide) (backOfSH (W := 0) (rmMake l Z a0 hw [] n va vb vc vd ve vf G1 h1 n0 Zs1 f14 hG hEL hcva hcvb hcvc hcvd hcve hcvf hn6) hZ (own_w hw 50 rfl) (own_w hw 10 rfl) (by decide) (by decide) hEL C1.1) (g := (mkF m 83 #[.val (.int i0), .val (.long i1), .second, .val (.int (Int32.ofNat n)), .val (.ref b1), .unset, .unset, .unset] [(.int vf), (.int ve), (.int vd), (.int vc), (.int vb), (.int va), (.int (Int32.ofNat n))])) rfl (by rw [hml]; rfl) (argsL := [(.int (Int32.ofNat n)), (.int va), (.int vb), (.int vc), (.int vd), (.int ve), (.int vf)]) (rest := []) (lenOf pd_8 rfl) rfl (by show 2 * 0 + _ ≤ _; exact Nat.le_of_eq rfl) (hb hby at_83) (fun _ _ => ⟨rfl, e51, (by decide : 2 + 6 ≤ _), (by decide : 24 + 16 ≤ _)⟩)
      dsimp only [Pt.U, Pt.locs, Pt.cells, Pt.slots] at X52 l52 y52 z52 st52 hQ52
      have l52y := l52.symm
      clear l52
      subst l52y
      obtain rfl : k52 = 8 := y52
      obtain rfl : n52 = 40 := z52
      dsimp only [Pt.U, Pt.locs, Pt.cells, Pt.slots] at hS52 hgr52 hC52
      have C52 := C1.trans hC52
      obtain ⟨X52, hS, hZ, hown⟩ := rebS hS hk X52 hS52 (by rw [← e51]; exact hgr52) hZ hown
      have hk := Nat.le_refl T52.heap.size
      obtain ⟨bm, tm, gm, rfl, N52q, K52q, -, Em, Cm, Vm, Am⟩ := hQ52
      have N52 := Fr.app N51 N52q
      have f53 := f2.keep K52q
      have f54 := f3.keep K52q nin0
      have f55 := f4.keep K52q
      have f56 := f5.keep K52q nin0
      have f57 := f6.keep K52q
      have f58 := f7.keep K52q nin0
      have f59 := f8.keep K52q nin0
      have f60 := f9.keep K52q nin0
      have f61 := f10.keep K52q
      have f62 := f11.keep K52q nin0
      have f63 := f12.keep K52q nin0
      have f64 := f13.keep K52q nin0
      have f65 := own_staK f14 K52q
      have f66 := own_staK f15 K52q
      have f67 := own_staK f16 K52q
      have f68 := own_staK f17 K52q
      have f69 := own_staK f18 K52q
      have f70 := f19.keep K52q
      have f71 := f20.keep K52q nin0
      have f72 := Eb1.keep K52q
      have f73 := Vb1.keep K52q nin0
      have f74 := Cb1.keep K52q nin0
      have f75 := u21.keep K52q nin0
      have Zs52 : n0 ≤ T52.heap.size := Nat.le_trans Zs1 K52q.1
      refine own_toH T52 (mkF m 90 #[.val (.int i0), .val (.long i1), .second, .val (.int (Int32.ofNat n)), .val (.ref b1), .val (.ref bm), .unset, .unset] [(.ref bm)]) (fun tq kq => st52.trans (XS.astore X52.here hx rfl (hb hby at_86) rfl rfl (l' := #[.val (.int i0), .val (.long i1), .second, .val (.int (Int32.ofNat n)), .val (.ref b1), .val (.ref bm), .unset, .unset]) rfl (XS.aload X52.here hx rfl (hb hby at_88) rfl rfl kq))) ?_
      obtain ⟨_, _, ⟨T76, L76, k76, n76⟩, -, X76, ⟨Lc76, hQ76, l76, y76, z76⟩, st76⟩ := Jvm.LawKit.callS X52 hx (y := (⟨"com/example/interest_ranker/interestranker/model/Event$Type", "byId", "(Ljava/lang/String;)Lcom/example/interest_ranker/interestranker/model/Event$Type;"⟩ : MethodName)) hown (mvT hZ (own_w hw 64 rfl)) (mvT hZ (own_w hw 65 rfl)) (mvT hZ (own_w hw 66 rfl)) (mvT hZ (own_w hw 67 rfl)) (by decide) (backOf (W := 0) (rmBy l Z a0 hw [] av aq ac jq jc tq tc kv bm tm n gm G1 T52.heap n0 Zs52 f65 hG f67 f70 f71 f53 f54 f55 f56 f57 f58 f59 f60 f61 f62 f63 f64 Em Vm Cm Am (by omega)) hZ (own_w hw 67 rfl) (own_w hw 66 rfl) (by decide) (by decide)) (g := (mkF m 90 #[.val (.int i0), .val (.long i1), .second, .val (.int (Int32.ofNat n)), .val (.ref b1), .val (.ref bm), .unset, .unset] [(.ref bm)])) rfl (by rw [hml]; rfl) (argsL := [(.ref bm)]) (rest := []) (lenOf pd_12 rfl) rfl (by show 2 * 0 + _ ≤ _; exact Nat.le_of_eq rfl) (hb hby at_90) (fun _ _ => ⟨rfl, rfl, (by decide : 8 + 1 ≤ _), (by decide : 40 + 2 ≤ _)⟩)
      dsimp only [Pt.U, Pt.locs, Pt.cells, Pt.slots] at X76 l76 y76 z76 st76 hQ76
      have l76y := l76.symm
      clear l76
      subst l76y
      obtain rfl : k76 = 9 := y76
      obtain rfl : n76 = 42 := z76
      obtain ⟨rfl, N76q, K76q⟩ := hQ76
      have N76 := Fr.app N52 N76q
      have f77 := f53.keep K76q
      have f78 := f54.keep K76q nin0
      have f79 := f55.keep K76q
      have f80 := f56.keep K76q nin0
      have f81 := f57.keep K76q
      have f82 := f58.keep K76q nin0
      have f83 := f59.keep K76q nin0
      have f84 := f60.keep K76q nin0
      have f85 := f61.keep K76q
      have f86 := f62.keep K76q nin0
      have f87 := f63.keep K76q nin0
      have f88 := f64.keep K76q nin0
      have f89 := own_staK f65 K76q
      have f90 := own_staK f66 K76q
      have f91 := own_staK f67 K76q
      have f92 := own_staK f68 K76q
      have f93 := own_staK f69 K76q
      have f94 := f70.keep K76q
      have f95 := f71.keep K76q nin0
      have f96 := f72.keep K76q
      have f97 := f73.keep K76q nin0
      have f98 := f74.keep K76q nin0
      have f99 := f75.keep K76q nin0
      have f100 := Em.keep K76q
      have f101 := Vm.keep K76q nin0
      have f102 := Cm.keep K76q nin0
      have f103 := Am.keep K76q nin0
      have Zs76 : n0 ≤ T76.heap.size := Nat.le_trans Zs52 K76q.1
      have hk := Nat.le_trans hk K76q.1
      have C76 := C52.trans (CHr.keep K76q all0 C52.1)
      refine own_toH T76 (mkF m 93 #[.val (.int i0), .val (.long i1), .second, .val (.int (Int32.ofNat n)), .val (.ref b1), .val (.ref bm), .unset, .unset] [(own_by aq ac n gm)]) (fun tq kq => st76 _ kq) ?_
      by_cases sq : own_same 5 own_fq n gm
      · have hq := own_eqT sq
        have hc := own_eqF (fun z => own_apart sq z)
        rw [own_by_10 hq hc]
        refine own_toH T76 (mkF m 108 #[.val (.int i0), .val (.long i1), .second, .val (.int (Int32.ofNat n)), .val (.ref b1), .val (.ref bm), .val (.ref aq), .unset] [(.ref bm)]) (fun tq kq => XS.astore X76.here hx rfl (hb hby at_93) rfl rfl (l' := #[.val (.int i0), .val (.long i1), .second, .val (.int (Int32.ofNat n)), .val (.ref b1), .val (.ref bm), .val (.ref aq), .unset]) rfl (XS.aload X76.here hx rfl (hb hby at_95) rfl rfl (XS.ifnonnullYes X76.here hx rfl (pc0 := 97) (pc' := 106) rfl (hb hby at_97) rfl (by decide) (by decide) (XS.aload X76.here hx rfl (hb hby at_106) rfl rfl kq)))) ?_
        obtain ⟨b104, T104, h104, k104, t104, kc104, X104, e104, E104, hS, hk, hZ, hown, Eb104, Cb104, Vb104, Ab104, la104, lb104, hC104, hL104, hsf104, st104⟩ := ldcCH X76 hx hZ hown (own_w hw 0 rfl) own_wS rfl hS hk hEL (by decide) C76.1 (vs := ([(113 : Int32), (117 : Int32), (101 : Int32), (114 : Int32), (121 : Int32)] : List Int32).map Value.int) (z := Int32.ofNat 5) ⟨by decide, by decide⟩ (by decide) (by decide) (g := (mkF m 108 #[.val (.int i0), .val (.long i1), .second, .val (.int (Int32.ofNat n)), .val (.ref b1), .val (.ref bm), .val (.ref aq), .unset] [(.ref bm)])) rfl (hb hby at_108) (n := 20) (by decide) (by decide) (by decide) (by decide)
        have f105 := f77.ext E104
        have f106 := f78.ext E104
        have f107 := f79.ext E104
        have f108 := f80.ext E104
        have f109 := f81.ext E104
        have f110 := f82.ext E104
        have f111 := f83.ext E104
        have f112 := f84.ext E104
        have f113 := f85.ext E104
        have f114 := f86.ext E104
        have f115 := f87.ext E104
        have f116 := f88.ext E104
        have f117 := f89.ext E104
        have f118 := f90.ext E104
        have f119 := f91.ext E104
        have f120 := f92.ext E104
        have f121 := f93.ext E104
        have f122 := f94.ext E104
        have f123 := f95.ext E104
        have f124 := f96.ext E104
        have f125 := f97.ext E104
        have f126 := f98.ext E104
        have f127 := f99.ext E104
        have f128 := f100.ext E104
        have f129 := f101.ext E104
        have f130 := f102.ext E104
        have f131 := f103.ext E104
        have Zs104 : n0 ≤ h104.size := Nat.le_trans Zs76 E104.1
        have C104 := C76.trans hC104
        have Vt104 : BArr Z h104 t104 5 (fun i => ([(113 : Int32), (117 : Int32), (101 : Int32), (114 : Int32), (121 : Int32)] : List Int32).getD i 0) := own_barr Ab104 (by decide) (by decide)
        refine own_toH T104 (mkF m 110 #[.val (.int i0), .val (.long i1), .second, .val (.int (Int32.ofNat n)), .val (.ref b1), .val (.ref bm), .val (.ref aq), .unset] [(.ref b104), (.ref bm)]) (fun tq kq => st104 _ kq) ?_
        have u132 : BArr Z h104 t104 5 own_fq := Vt104
        obtain ⟨cq133, kq133, q133a, q133b, q133c⟩ := isOf hZ e104 f128
        obtain ⟨_, _, ⟨T133, L133, k133, n133⟩, -, X133, ⟨Lc133, hQ133, l133, y133, z133⟩, st133⟩ := X104.virtualBack hx (y := (⟨"java/lang/String", "equals", "(Ljava/lang/Object;)Z"⟩ : MethodName)) (z := (⟨"java/lang/String", "equals", "(Ljava/lang/Object;)Z"⟩ : MethodName)) hown (mvT hZ (own_w hw 101 rfl)) (mvT hZ (own_w hw 93 rfl)) (notFace_of_selects (args := #[]) (mvT hZ (own_w hw 95 rfl))) (mvT hZ (own_w hw 95 rfl)) (mvT hZ (own_w hw 94 rfl)) (by decide) (backOf (W := 0) (rmEq l Z a0 hw [] bm tm b104 t104 n 5 gm own_fq G1 h104 n0 Zs104 f117 hG f128 f129 f130 f131 Eb104 Vb104 Cb104 u132 (by omega) (by decide)) hZ (own_w hw 96 rfl) (own_w hw 1 rfl) (by decide) (by decide)) q133a q133c (g := (mkF m 110 #[.val (.int i0), .val (.long i1), .second, .val (.int (Int32.ofNat n)), .val (.ref b1), .val (.ref bm), .val (.ref aq), .unset] [(.ref b104), (.ref bm)])) rfl (by rw [hml]; rfl) (Steps.refl _) (argsL := [(.ref b104)]) (rest := []) (lenOf pd_16 rfl) rfl (by show 2 * 0 + _ ≤ _; exact Nat.le_of_eq rfl) (hb hby at_110) (fun _ _ => ⟨rfl, e104, (by decide : 11 + 0 ≤ _), (by decide : 66 + 0 ≤ _)⟩)
        dsimp only [Pt.U, Pt.locs, Pt.cells, Pt.slots] at X133 l133 y133 z133 st133 hQ133
        have l133y := l133.symm
        clear l133
        subst l133y
        obtain rfl : k133 = 11 := y133
        obtain rfl : n133 = 66 := z133
        obtain ⟨rfl, N133q, e133⟩ := hQ133
        have N133 := Fr.app N76 N133q
        refine own_toH T133 (mkF m 113 #[.val (.int i0), .val (.long i1), .second, .val (.int (Int32.ofNat n)), .val (.ref b1), .val (.ref bm), .val (.ref aq), .unset] [(.int (own_eq n gm 5 own_fq))]) (fun tq kq => st133.trans kq) ?_
        rw [show (own_eq n gm 5 own_fq) = (1 : Int32) from own_eqT (own_same_comm sq)]
        refine own_toH T133 (mkF m 116 #[.val (.int i0), .val (.long i1), .second, .val (.int (Int32.ofNat n)), .val (.ref b1), .val (.ref bm), .val (.ref aq), .unset] []) (fun tq kq => XS.ifNo X133.here hx rfl (hb hby at_113) rfl ((if0 _ _).trans (feq (by decide : ¬ ((1 : Int32) = (0 : Int32)))).1) kq) ?_
        obtain ⟨T134, X134, e134, st134⟩ := getS2 X133 hx hZ hown (host := "") (Or.inl (own_w hw 114 rfl)) Via.refl e133 f120 (g := (mkF m 116 #[.val (.int i0), .val (.long i1), .second, .val (.int (Int32.ofNat n)), .val (.ref b1), .val (.ref bm), .val (.ref aq), .unset] [])) rfl (hb hby at_116)
        refine own_toH T134 (mkF m 157 #[.val (.int i0), .val (.long i1), .second, .val (.int (Int32.ofNat n)), .val (.ref b1), .val (.ref bm), .val (.ref aq), .val (.ref aq)] [(.int (1 : Int32))]) (fun tq kq => st134 _ (XS.astore X134.here hx rfl (hb hby at_119) rfl rfl (l' := #[.val (.int i0), .val (.long i1), .second, .val (.int (Int32.ofNat n)), .val (.ref b1), .val (.ref bm), .val (.ref aq), .val (.ref aq)]) rfl (XS.goto X134.here hx rfl (pc0 := 121) (pc' := 145) rfl (hb hby at_121) (by decide) (by decide) (XS.aload X134.here hx rfl (hb hby at_145) rfl rfl (XS.aload X134.here hx rfl (hb hby at_147) rfl rfl (Jvm.RoadKit.acmp (g := (mkF m 149 #[.val (.int i0), .val (.long i1), .second, .val (.int (Int32.ofNat n)), .val (.ref b1), .val (.ref bm), .val (.ref aq), .val (.ref aq)] [(.ref aq), (.ref aq)])) X134 hx rfl rfl rfl (pc0 := 149) (pc' := 152) (same := true) rfl (hb hby at_149) rfl (decide_eq_true rfl) (by decide) (by decide) (XS.iconst X134.here hx rfl (hb hby at_152) (XS.goto X134.here hx rfl (pc0 := 153) (pc' := 157) rfl (hb hby at_153) (by decide) (by decide) kq)))))))) ?_
        exact own_retZH X134 hS (by rw [e134]; exact hk) hZ hEL (by rw [e134]; exact C104) hx hret hlk (hb hby at_157) (by decide) (by decide) (Or.inr rfl) ⟨rfl, N133⟩
      · have hq := own_eqF sq
        by_cases sc : own_same 5 own_fc n gm
        · have hc := own_eqT sc
          rw [own_by_01 hq hc]
          refine own_toH T76 (mkF m 108 #[.val (.int i0), .val (.long i1), .second, .val (.int (Int32.ofNat n)), .val (.ref b1), .val (.ref bm), .val (.ref ac), .unset] [(.ref bm)]) (fun tq kq => XS.astore X76.here hx rfl (hb hby at_93) rfl rfl (l' := #[.val (.int i0), .val (.long i1), .second, .val (.int (Int32.ofNat n)), .val (.ref b1), .val (.ref bm), .val (.ref ac), .unset]) rfl (XS.aload X76.here hx rfl (hb hby at_95) rfl rfl (XS.ifnonnullYes X76.here hx rfl (pc0 := 97) (pc' := 106) rfl (hb hby at_97) rfl (by decide) (by decide) (XS.aload X76.here hx rfl (hb hby at_106) rfl rfl kq)))) ?_
          obtain ⟨b135, T135, h135, k135, t135, kc135, X135, e135, E135, hS, hk, hZ, hown, Eb135, Cb135, Vb135, Ab135, la135, lb135, hC135, hL135, hsf135, st135⟩ := ldcCH X76 hx hZ hown (own_w hw 0 rfl) own_wS rfl hS hk hEL (by decide) C76.1 (vs := ([(113 : Int32), (117 : Int32), (101 : Int32), (114 : Int32), (121 : Int32)] : List Int32).map Value.int) (z := Int32.ofNat 5) ⟨by decide, by decide⟩ (by decide) (by decide) (g := (mkF m 108 #[.val (.int i0), .val (.long i1), .second, .val (.int (Int32.ofNat n)), .val (.ref b1), .val (.ref bm), .val (.ref ac), .unset] [(.ref bm)])) rfl (hb hby at_108) (n := 20) (by decide) (by decide) (by decide) (by decide)
          have f136 := f77.ext E135
          have f137 := f78.ext E135
          have f138 := f79.ext E135
          have f139 := f80.ext E135
          have f140 := f81.ext E135
          have f141 := f82.ext E135
          have f142 := f83.ext E135
          have f143 := f84.ext E135
          have f144 := f85.ext E135
          have f145 := f86.ext E135
          have f146 := f87.ext E135
          have f147 := f88.ext E135
          have f148 := f89.ext E135
          have f149 := f90.ext E135
          have f150 := f91.ext E135
          have f151 := f92.ext E135
          have f152 := f93.ext E135
          have f153 := f94.ext E135
          have f154 := f95.ext E135
          have f155 := f96.ext E135
          have f156 := f97.ext E135
          have f157 := f98.ext E135
          have f158 := f99.ext E135
          have f159 := f100.ext E135
          have f160 := f101.ext E135
          have f161 := f102.ext E135
          have f162 := f103.ext E135
          have Zs135 : n0 ≤ h135.size := Nat.le_trans Zs76 E135.1
          have C135 := C76.trans hC135
          have Vt135 : BArr Z h135 t135 5 (fun i => ([(113 : Int32), (117 : Int32), (101 : Int32), (114 : Int32), (121 : Int32)] : List Int32).getD i 0) := own_barr Ab135 (by decide) (by decide)
          refine own_toH T135 (mkF m 110 #[.val (.int i0), .val (.long i1), .second, .val (.int (Int32.ofNat n)), .val (.ref b1), .val (.ref bm), .val (.ref ac), .unset] [(.ref b135), (.ref bm)]) (fun tq kq => st135 _ kq) ?_
          have u163 : BArr Z h135 t135 5 own_fq := Vt135
          obtain ⟨cq164, kq164, q164a, q164b, q164c⟩ := isOf hZ e135 f159
          obtain ⟨_, _, ⟨T164, L164, k164, n164⟩, -, X164, ⟨Lc164, hQ164, l164, y164, z164⟩, st164⟩ := X135.virtualBack hx (y := (⟨"java/lang/String", "equals", "(Ljava/lang/Object;)Z"⟩ : MethodName)) (z := (⟨"java/lang/String", "equals", "(Ljava/lang/Object;)Z"⟩ : MethodName)) hown (mvT hZ (own_w hw 101 rfl)) (mvT hZ (own_w hw 93 rfl)) (notFace_of_selects (args := #[]) (mvT hZ (own_w hw 95 rfl))) (mvT hZ (own_w hw 95 rfl)) (mvT hZ (own_w hw 94 rfl)) (by decide) (backOf (W := 0) (rmEq l Z a0 hw [] bm tm b135 t135 n 5 gm own_fq G1 h135 n0 Zs135 f148 hG f159 f160 f161 f162 Eb135 Vb135 Cb135 u163 (by omega) (by decide)) hZ (own_w hw 96 rfl) (own_w hw 1 rfl) (by decide) (by decide)) q164a q164c (g := (mkF m 110 #[.val (.int i0), .val (.long i1), .second, .val (.int (Int32.ofNat n)), .val (.ref b1), .val (.ref bm), .val (.ref ac), .unset] [(.ref b135), (.ref bm)])) rfl (by rw [hml]; rfl) (Steps.refl _) (argsL := [(.ref b135)]) (rest := []) (lenOf pd_16 rfl) rfl (by show 2 * 0 + _ ≤ _; exact Nat.le_of_eq rfl) (hb hby at_110) (fun _ _ => ⟨rfl, e135, (by decide : 11 + 0 ≤ _), (by decide : 66 + 0 ≤ _)⟩)
          dsimp only [Pt.U, Pt.locs, Pt.cells, Pt.slots] at X164 l164 y164 z164 st164 hQ164
          have l164y := l164.symm
          clear l164
          subst l164y
          obtain rfl : k164 = 11 := y164
          obtain rfl : n164 = 66 := z164
          obtain ⟨rfl, N164q, e164⟩ := hQ164
          have N164 := Fr.app N76 N164q
          refine own_toH T164 (mkF m 113 #[.val (.int i0), .val (.long i1), .second, .val (.int (Int32.ofNat n)), .val (.ref b1), .val (.ref bm), .val (.ref ac), .unset] [(.int (own_eq n gm 5 own_fq))]) (fun tq kq => st164.trans kq) ?_
          rw [show (own_eq n gm 5 own_fq) = (0 : Int32) from own_eqF (fun z => sq (own_same_comm z))]
          refine own_toH T164 (mkF m 126 #[.val (.int i0), .val (.long i1), .second, .val (.int (Int32.ofNat n)), .val (.ref b1), .val (.ref bm), .val (.ref ac), .unset] [(.ref bm)]) (fun tq kq => XS.ifYes X164.here hx rfl (pc0 := 113) (pc' := 124) rfl (hb hby at_113) rfl ((if0 _ _).trans (teq (by decide : (0 : Int32) = (0 : Int32))).1) (by decide) (by decide) (XS.aload X164.here hx rfl (hb hby at_124) rfl rfl kq)) ?_
          obtain ⟨b165, T165, h165, k165, t165, kc165, X165, e165, E165, hS, hk, hZ, hown, Eb165, Cb165, Vb165, Ab165, la165, lb165, hC165, hL165, hsf165, st165⟩ := ldcCH X164 hx hZ hown (own_w hw 102 rfl) own_wS e164 hS hk hEL (by decide) C135.1 (vs := ([(99 : Int32), (108 : Int32), (105 : Int32), (99 : Int32), (107 : Int32)] : List Int32).map Value.int) (z := Int32.ofNat 5) ⟨by decide, by decide⟩ (by decide) (by decide) (g := (mkF m 126 #[.val (.int i0), .val (.long i1), .second, .val (.int (Int32.ofNat n)), .val (.ref b1), .val (.ref bm), .val (.ref ac), .unset] [(.ref bm)])) rfl (hb hby at_126) (n := 20) (by decide) (by decide) (by decide) (by decide)
          have f166 := f136.ext E165
          have f167 := f137.ext E165
          have f168 := f138.ext E165
          have f169 := f139.ext E165
          have f170 := f140.ext E165
          have f171 := f141.ext E165
          have f172 := f142.ext E165
          have f173 := f143.ext E165
          have f174 := f144.ext E165
          have f175 := f145.ext E165
          have f176 := f146.ext E165
          have f177 := f147.ext E165
          have f178 := f148.ext E165
          have f179 := f149.ext E165
          have f180 := f150.ext E165
          have f181 := f151.ext E165
          have f182 := f152.ext E165
          have f183 := f153.ext E165
          have f184 := f154.ext E165
          have f185 := f155.ext E165
          have f186 := f156.ext E165
          have f187 := f157.ext E165
          have f188 := f158.ext E165
          have f189 := f159.ext E165
          have f190 := f160.ext E165
          have f191 := f161.ext E165
          have f192 := f162.ext E165
          have f193 := Eb135.ext E165
          have f194 := Vb135.ext E165
          have f195 := Cb135.ext E165
          have f196 := u163.ext E165
          have Zs165 : n0 ≤ h165.size := Nat.le_trans Zs135 E165.1
          have C165 := C135.trans hC165
          have Vt165 : BArr Z h165 t165 5 (fun i => ([(99 : Int32), (108 : Int32), (105 : Int32), (99 : Int32), (107 : Int32)] : List Int32).getD i 0) := own_barr Ab165 (by decide) (by decide)
          refine own_toH T165 (mkF m 128 #[.val (.int i0), .val (.long i1), .second, .val (.int (Int32.ofNat n)), .val (.ref b1), .val (.ref bm), .val (.ref ac), .unset] [(.ref b165), (.ref bm)]) (fun tq kq => st165 _ kq) ?_
          have u197 : BArr Z h165 t165 5 own_fc := Vt165
          obtain ⟨cq198, kq198, q198a, q198b, q198c⟩ := isOf hZ e165 f189
          obtain ⟨_, _, ⟨T198, L198, k198, n198⟩, -, X198, ⟨Lc198, hQ198, l198, y198, z198⟩, st198⟩ := X165.virtualBack hx (y := (⟨"java/lang/String", "equals", "(Ljava/lang/Object;)Z"⟩ : MethodName)) (z := (⟨"java/lang/String", "equals", "(Ljava/lang/Object;)Z"⟩ : MethodName)) hown (mvT hZ (own_w hw 101 rfl)) (mvT hZ (own_w hw 93 rfl)) (notFace_of_selects (args := #[]) (mvT hZ (own_w hw 95 rfl))) (mvT hZ (own_w hw 95 rfl)) (mvT hZ (own_w hw 94 rfl)) (by decide) (backOf (W := 0) (rmEq l Z a0 hw [] bm tm b165 t165 n 5 gm own_fc G1 h165 n0 Zs165 f178 hG f189 f190 f191 f192 Eb165 Vb165 Cb165 u197 (by omega) (by decide)) hZ (own_w hw 96 rfl) (own_w hw 1 rfl) (by decide) (by decide)) q198a q198c (g := (mkF m 128 #[.val (.int i0), .val (.long i1), .second, .val (.int (Int32.ofNat n)), .val (.ref b1), .val (.ref bm), .val (.ref ac), .unset] [(.ref b165), (.ref bm)])) rfl (by rw [hml]; rfl) (Steps.refl _) (argsL := [(.ref b165)]) (rest := []) (lenOf pd_16 rfl) rfl (by show 2 * 0 + _ ≤ _; exact Nat.le_of_eq rfl) (hb hby at_128) (fun _ _ => ⟨rfl, e165, (by decide : 13 + 0 ≤ _), (by decide : 90 + 0 ≤ _)⟩)
          dsimp only [Pt.U, Pt.locs, Pt.cells, Pt.slots] at X198 l198 y198 z198 st198 hQ198
          have l198y := l198.symm
          clear l198
          subst l198y
          obtain rfl : k198 = 13 := y198
          obtain rfl : n198 = 90 := z198
          obtain ⟨rfl, N198q, e198⟩ := hQ198
          have N198 := Fr.app N164 N198q
          refine own_toH T198 (mkF m 131 #[.val (.int i0), .val (.long i1), .second, .val (.int (Int32.ofNat n)), .val (.ref b1), .val (.ref bm), .val (.ref ac), .unset] [(.int (own_eq n gm 5 own_fc))]) (fun tq kq => st198.trans kq) ?_
          rw [show (own_eq n gm 5 own_fc) = (1 : Int32) from own_eqT (own_same_comm sc)]
          refine own_toH T198 (mkF m 134 #[.val (.int i0), .val (.long i1), .second, .val (.int (Int32.ofNat n)), .val (.ref b1), .val (.ref bm), .val (.ref ac), .unset] []) (fun tq kq => XS.ifNo X198.here hx rfl (hb hby at_131) rfl ((if0 _ _).trans (feq (by decide : ¬ ((1 : Int32) = (0 : Int32)))).1) kq) ?_
          obtain ⟨T199, X199, e199, st199⟩ := getS2 X198 hx hZ hown (host := "") (Or.inl (own_w hw 113 rfl)) Via.refl e198 f182 (g := (mkF m 134 #[.val (.int i0), .val (.long i1), .second, .val (.int (Int32.ofNat n)), .val (.ref b1), .val (.ref bm), .val (.ref ac), .unset] [])) rfl (hb hby at_134)
          refine own_toH T199 (mkF m 157 #[.val (.int i0), .val (.long i1), .second, .val (.int (Int32.ofNat n)), .val (.ref b1), .val (.ref bm), .val (.ref ac), .val (.ref ac)] [(.int (1 : Int32))]) (fun tq kq => st199 _ (XS.astore X199.here hx rfl (hb hby at_137) rfl rfl (l' := #[.val (.int i0), .val (.long i1), .second, .val (.int (Int32.ofNat n)), .val (.ref b1), .val (.ref bm), .val (.ref ac), .val (.ref ac)]) rfl (XS.goto X199.here hx rfl (pc0 := 139) (pc' := 145) rfl (hb hby at_139) (by decide) (by decide) (XS.aload X199.here hx rfl (hb hby at_145) rfl rfl (XS.aload X199.here hx rfl (hb hby at_147) rfl rfl (Jvm.RoadKit.acmp (g := (mkF m 149 #[.val (.int i0), .val (.long i1), .second, .val (.int (Int32.ofNat n)), .val (.ref b1), .val (.ref bm), .val (.ref ac), .val (.ref ac)] [(.ref ac), (.ref ac)])) X199 hx rfl rfl rfl (pc0 := 149) (pc' := 152) (same := true) rfl (hb hby at_149) rfl (decide_eq_true rfl) (by decide) (by decide) (XS.iconst X199.here hx rfl (hb hby at_152) (XS.goto X199.here hx rfl (pc0 := 153) (pc' := 157) rfl (hb hby at_153) (by decide) (by decide) kq)))))))) ?_
          exact own_retZH X199 hS (by rw [e199]; exact hk) hZ hEL (by rw [e199]; exact C165) hx hret hlk (hb hby at_157) (by decide) (by decide) (Or.inr rfl) ⟨rfl, N198⟩
        · have hc := own_eqF sc
          rw [own_by_00 hq hc]
          refine own_toH T76 (mkF m 108 #[.val (.int i0), .val (.long i1), .second, .val (.int (Int32.ofNat n)), .val (.ref b1), .val (.ref bm), .val .null, .unset] [(.ref bm)]) (fun tq kq => XS.astore X76.here hx rfl (hb hby at_93) rfl rfl (l' := #[.val (.int i0), .val (.long i1), .second, .val (.int (Int32.ofNat n)), .val (.ref b1), .val (.ref bm), .val .null, .unset]) rfl (XS.aload X76.here hx rfl (hb hby at_95) rfl rfl (XS.ifnonnullYes X76.here hx rfl (pc0 := 97) (pc' := 106) rfl (hb hby at_97) rfl (by decide) (by decide) (XS.aload X76.here hx rfl (hb hby at_106) rfl rfl kq)))) ?_
          obtain ⟨b200, T200, h200, k200, t200, kc200, X200, e200, E200, hS, hk, hZ, hown, Eb200, Cb200, Vb200, Ab200, la200, lb200, hC200, hL200, hsf200, st200⟩ := ldcCH X76 hx hZ hown (own_w hw 0 rfl) own_wS rfl hS hk hEL (by decide) C76.1 (vs := ([(113 : Int32), (117 : Int32), (101 : Int32), (114 : Int32), (121 : Int32)] : List Int32).map Value.int) (z := Int32.ofNat 5) ⟨by decide, by decide⟩ (by decide) (by decide) (g := (mkF m 108 #[.val (.int i0), .val (.long i1), .second, .val (.int (Int32.ofNat n)), .val (.ref b1), .val (.ref bm), .val .null, .unset] [(.ref bm)])) rfl (hb hby at_108) (n := 20) (by decide) (by decide) (by decide) (by decide)
          have f201 := f77.ext E200
          have f202 := f78.ext E200
          have f203 := f79.ext E200
          have f204 := f80.ext E200
          have f205 := f81.ext E200
          have f206 := f82.ext E200
          have f207 := f83.ext E200
          have f208 := f84.ext E200
          have f209 := f85.ext E200
          have f210 := f86.ext E200
          have f211 := f87.ext E200
          have f212 := f88.ext E200
          have f213 := f89.ext E200
          have f214 := f90.ext E200
          have f215 := f91.ext E200
          have f216 := f92.ext E200
          have f217 := f93.ext E200
          have f218 := f94.ext E200
          have f219 := f95.ext E200
          have f220 := f96.ext E200
          have f221 := f97.ext E200
          have f222 := f98.ext E200
          have f223 := f99.ext E200
          have f224 := f100.ext E200
          have f225 := f101.ext E200
          have f226 := f102.ext E200
          have f227 := f103.ext E200
          have Zs200 : n0 ≤ h200.size := Nat.le_trans Zs76 E200.1
          have C200 := C76.trans hC200
          have Vt200 : BArr Z h200 t200 5 (fun i => ([(113 : Int32), (117 : Int32), (101 : Int32), (114 : Int32), (121 : Int32)] : List Int32).getD i 0) := own_barr Ab200 (by decide) (by decide)
          refine own_toH T200 (mkF m 110 #[.val (.int i0), .val (.long i1), .second, .val (.int (Int32.ofNat n)), .val (.ref b1), .val (.ref bm), .val .null, .unset] [(.ref b200), (.ref bm)]) (fun tq kq => st200 _ kq) ?_
          have u228 : BArr Z h200 t200 5 own_fq := Vt200
          obtain ⟨cq229, kq229, q229a, q229b, q229c⟩ := isOf hZ e200 f224
          obtain ⟨_, _, ⟨T229, L229, k229, n229⟩, -, X229, ⟨Lc229, hQ229, l229, y229, z229⟩, st229⟩ := X200.virtualBack hx (y := (⟨"java/lang/String", "equals", "(Ljava/lang/Object;)Z"⟩ : MethodName)) (z := (⟨"java/lang/String", "equals", "(Ljava/lang/Object;)Z"⟩ : MethodName)) hown (mvT hZ (own_w hw 101 rfl)) (mvT hZ (own_w hw 93 rfl)) (notFace_of_selects (args := #[]) (mvT hZ (own_w hw 95 rfl))) (mvT hZ (own_w hw 95 rfl)) (mvT hZ (own_w hw 94 rfl)) (by decide) (backOf (W := 0) (rmEq l Z a0 hw [] bm tm b200 t200 n 5 gm own_fq G1 h200 n0 Zs200 f213 hG f224 f225 f226 f227 Eb200 Vb200 Cb200 u228 (by omega) (by decide)) hZ (own_w hw 96 rfl) (own_w hw 1 rfl) (by decide) (by decide)) q229a q229c (g := (mkF m 110 #[.val (.int i0), .val (.long i1), .second, .val (.int (Int32.ofNat n)), .val (.ref b1), .val (.ref bm), .val .null, .unset] [(.ref b200), (.ref bm)])) rfl (by rw [hml]; rfl) (Steps.refl _) (argsL := [(.ref b200)]) (rest := []) (lenOf pd_16 rfl) rfl (by show 2 * 0 + _ ≤ _; exact Nat.le_of_eq rfl) (hb hby at_110) (fun _ _ => ⟨rfl, e200, (by decide : 11 + 0 ≤ _), (by decide : 66 + 0 ≤ _)⟩)
          dsimp only [Pt.U, Pt.locs, Pt.cells, Pt.slots] at X229 l229 y229 z229 st229 hQ229
          have l229y := l229.symm
          clear l229
          subst l229y
          obtain rfl : k229 = 11 := y229
          obtain rfl : n229 = 66 := z229
          obtain ⟨rfl, N229q, e229⟩ := hQ229
          have N229 := Fr.app N76 N229q
          refine own_toH T229 (mkF m 113 #[.val (.int i0), .val (.long i1), .second, .val (.int (Int32.ofNat n)), .val (.ref b1), .val (.ref bm), .val .null, .unset] [(.int (own_eq n gm 5 own_fq))]) (fun tq kq => st229.trans kq) ?_
          rw [show (own_eq n gm 5 own_fq) = (0 : Int32) from own_eqF (fun z => sq (own_same_comm z))]
          refine own_toH T229 (mkF m 126 #[.val (.int i0), .val (.long i1), .second, .val (.int (Int32.ofNat n)), .val (.ref b1), .val (.ref bm), .val .null, .unset] [(.ref bm)]) (fun tq kq => XS.ifYes X229.here hx rfl (pc0 := 113) (pc' := 124) rfl (hb hby at_113) rfl ((if0 _ _).trans (teq (by decide : (0 : Int32) = (0 : Int32))).1) (by decide) (by decide) (XS.aload X229.here hx rfl (hb hby at_124) rfl rfl kq)) ?_
          obtain ⟨b230, T230, h230, k230, t230, kc230, X230, e230, E230, hS, hk, hZ, hown, Eb230, Cb230, Vb230, Ab230, la230, lb230, hC230, hL230, hsf230, st230⟩ := ldcCH X229 hx hZ hown (own_w hw 102 rfl) own_wS e229 hS hk hEL (by decide) C200.1 (vs := ([(99 : Int32), (108 : Int32), (105 : Int32), (99 : Int32), (107 : Int32)] : List Int32).map Value.int) (z := Int32.ofNat 5) ⟨by decide, by decide⟩ (by decide) (by decide) (g := (mkF m 126 #[.val (.int i0), .val (.long i1), .second, .val (.int (Int32.ofNat n)), .val (.ref b1), .val (.ref bm), .val .null, .unset] [(.ref bm)])) rfl (hb hby at_126) (n := 20) (by decide) (by decide) (by decide) (by decide)
          have f231 := f201.ext E230
          have f232 := f202.ext E230
          have f233 := f203.ext E230
          have f234 := f204.ext E230
          have f235 := f205.ext E230
          have f236 := f206.ext E230
          have f237 := f207.ext E230
          have f238 := f208.ext E230
          have f239 := f209.ext E230
          have f240 := f210.ext E230
          have f241 := f211.ext E230
          have f242 := f212.ext E230
          have f243 := f213.ext E230
          have f244 := f214.ext E230
          have f245 := f215.ext E230
          have f246 := f216.ext E230
          have f247 := f217.ext E230
          have f248 := f218.ext E230
          have f249 := f219.ext E230
          have f250 := f220.ext E230
          have f251 := f221.ext E230
          have f252 := f222.ext E230
          have f253 := f223.ext E230
          have f254 := f224.ext E230
          have f255 := f225.ext E230
          have f256 := f226.ext E230
          have f257 := f227.ext E230
          have f258 := Eb200.ext E230
          have f259 := Vb200.ext E230
          have f260 := Cb200.ext E230
          have f261 := u228.ext E230
          have Zs230 : n0 ≤ h230.size := Nat.le_trans Zs200 E230.1
          have C230 := C200.trans hC230
          have Vt230 : BArr Z h230 t230 5 (fun i => ([(99 : Int32), (108 : Int32), (105 : Int32), (99 : Int32), (107 : Int32)] : List Int32).getD i 0) := own_barr Ab230 (by decide) (by decide)
          refine own_toH T230 (mkF m 128 #[.val (.int i0), .val (.long i1), .second, .val (.int (Int32.ofNat n)), .val (.ref b1), .val (.ref bm), .val .null, .unset] [(.ref b230), (.ref bm)]) (fun tq kq => st230 _ kq) ?_
          have u262 : BArr Z h230 t230 5 own_fc := Vt230
          obtain ⟨cq263, kq263, q263a, q263b, q263c⟩ := isOf hZ e230 f254
          obtain ⟨_, _, ⟨T263, L263, k263, n263⟩, -, X263, ⟨Lc263, hQ263, l263, y263, z263⟩, st263⟩ := X230.virtualBack hx (y := (⟨"java/lang/String", "equals", "(Ljava/lang/Object;)Z"⟩ : MethodName)) (z := (⟨"java/lang/String", "equals", "(Ljava/lang/Object;)Z"⟩ : MethodName)) hown (mvT hZ (own_w hw 101 rfl)) (mvT hZ (own_w hw 93 rfl)) (notFace_of_selects (args := #[]) (mvT hZ (own_w hw 95 rfl))) (mvT hZ (own_w hw 95 rfl)) (mvT hZ (own_w hw 94 rfl)) (by decide) (backOf (W := 0) (rmEq l Z a0 hw [] bm tm b230 t230 n 5 gm own_fc G1 h230 n0 Zs230 f243 hG f254 f255 f256 f257 Eb230 Vb230 Cb230 u262 (by omega) (by decide)) hZ (own_w hw 96 rfl) (own_w hw 1 rfl) (by decide) (by decide)) q263a q263c (g := (mkF m 128 #[.val (.int i0), .val (.long i1), .second, .val (.int (Int32.ofNat n)), .val (.ref b1), .val (.ref bm), .val .null, .unset] [(.ref b230), (.ref bm)])) rfl (by rw [hml]; rfl) (Steps.refl _) (argsL := [(.ref b230)]) (rest := []) (lenOf pd_16 rfl) rfl (by show 2 * 0 + _ ≤ _; exact Nat.le_of_eq rfl) (hb hby at_128) (fun _ _ => ⟨rfl, e230, (by decide : 13 + 0 ≤ _), (by decide : 90 + 0 ≤ _)⟩)
          dsimp only [Pt.U, Pt.locs, Pt.cells, Pt.slots] at X263 l263 y263 z263 st263 hQ263
          have l263y := l263.symm
          clear l263
          subst l263y
          obtain rfl : k263 = 13 := y263
          obtain rfl : n263 = 90 := z263
          obtain ⟨rfl, N263q, e263⟩ := hQ263
          have N263 := Fr.app N229 N263q
          refine own_toH T263 (mkF m 131 #[.val (.int i0), .val (.long i1), .second, .val (.int (Int32.ofNat n)), .val (.ref b1), .val (.ref bm), .val .null, .unset] [(.int (own_eq n gm 5 own_fc))]) (fun tq kq => st263.trans kq) ?_
          rw [show (own_eq n gm 5 own_fc) = (0 : Int32) from own_eqF (fun z => sc (own_same_comm z))]
          refine own_toH T263 (mkF m 157 #[.val (.int i0), .val (.long i1), .second, .val (.int (Int32.ofNat n)), .val (.ref b1), .val (.ref bm), .val .null, .val .null] [(.int (1 : Int32))]) (fun tq kq => XS.ifYes X263.here hx rfl (pc0 := 131) (pc' := 142) rfl (hb hby at_131) rfl ((if0 _ _).trans (teq (by decide : (0 : Int32) = (0 : Int32))).1) (by decide) (by decide) (XS.aconstNull X263.here hx rfl (hb hby at_142) (XS.astore X263.here hx rfl (hb hby at_143) rfl rfl (l' := #[.val (.int i0), .val (.long i1), .second, .val (.int (Int32.ofNat n)), .val (.ref b1), .val (.ref bm), .val .null, .val .null]) rfl (XS.aload X263.here hx rfl (hb hby at_145) rfl rfl (XS.aload X263.here hx rfl (hb hby at_147) rfl rfl (Jvm.RoadKit.acmp (g := (mkF m 149 #[.val (.int i0), .val (.long i1), .second, .val (.int (Int32.ofNat n)), .val (.ref b1), .val (.ref bm), .val .null, .val .null] [.null, .null])) X263 hx rfl rfl rfl (pc0 := 149) (pc' := 152) (same := true) rfl (hb hby at_149) rfl (decide_eq_true rfl) (by decide) (by decide) (XS.iconst X263.here hx rfl (hb hby at_152) (XS.goto X263.here hx rfl (pc0 := 153) (pc' := 157) rfl (hb hby at_153) (by decide) (by decide) kq)))))))) ?_
          exact own_retZH X263 hS (by rw [e263]; exact hk) hZ hEL (by rw [e263]; exact C230) hx hret hlk (hb hby at_157) (by decide) (by decide) (Or.inr rfl) ⟨rfl, N263⟩
  · skip
    refine own_toH s₁ (mkF m 13 #[.val (.int i0), .val (.long i1), .second, .val (.int (Int32.ofNat n)), .unset, .unset, .unset, .unset] []) (fun tq kq => XS.ifNo X0.here hx rfl (hb hby at_10) rfl ((if0 _ _).trans (feq c10).1) kq) ?_
    obtain ⟨b264, T264, h264, k264, t264, kc264, X264, e264, E264, hS, hk, hZ, hown, Eb264, Cb264, Vb264, Ab264, la264, lb264, hC264, hL264, hsf264, st264⟩ := ldcCH X0 hx hZ hown (own_w hw 102 rfl) own_wS e0 hS hk hEL (by decide) C0.1 (vs := ([(99 : Int32), (108 : Int32), (105 : Int32), (99 : Int32), (107 : Int32)] : List Int32).map Value.int) (z := Int32.ofNat 5) ⟨by decide, by decide⟩ (by decide) (by decide) (g := (mkF m 13 #[.val (.int i0), .val (.long i1), .second, .val (.int (Int32.ofNat n)), .unset, .unset, .unset, .unset] [])) rfl (hb hby at_13) (n := 20) (by decide) (by decide) (by decide) (by decide)
    have f265 := EQ.ext E264
    have f266 := IQ.ext E264
    have f267 := EC.ext E264
    have f268 := IC.ext E264
    have f269 := EJQ.ext E264
    have f270 := VJQ.ext E264
    have f271 := CJQ.ext E264
    have f272 := BQ.ext E264
    have f273 := EJC.ext E264
    have f274 := VJC.ext E264
    have f275 := CJC.ext E264
    have f276 := BC.ext E264
    have f277 := O2.ext E264
    have f278 := O4.ext E264
    have f279 := StV.ext E264
    have f280 := StQ.ext E264
    have f281 := StC.ext E264
    have f282 := EV.ext E264
    have f283 := AV.ext E264
    have Zs264 : n0 ≤ h264.size := Nat.le_trans Z0 E264.1
    have C264 := C0.trans hC264
    have Vt264 : BArr Z h264 t264 5 (fun i => ([(99 : Int32), (108 : Int32), (105 : Int32), (99 : Int32), (107 : Int32)] : List Int32).getD i 0) := own_barr Ab264 (by decide) (by decide)
    refine own_toH T264 (mkF m 15 #[.val (.int i0), .val (.long i1), .second, .val (.int (Int32.ofNat n)), .unset, .unset, .unset, .unset] [(.ref b264)]) (fun tq kq => st264 _ kq) ?_
    have u284 : BArr Z h264 t264 5 own_fc := Vt264
    refine own_toH T264 (mkF m 25 #[.val (.int i0), .val (.long i1), .second, .val (.int (Int32.ofNat n)), .val (.ref b264), .unset, .unset, .unset] [(.int (7 : Int32)), (.int (Int32.ofNat n))]) (fun tq kq => XS.goto X264.here hx rfl (pc0 := 15) (pc' := 20) rfl (hb hby at_15) (by decide) (by decide) (XS.astore X264.here hx rfl (hb hby at_20) rfl rfl (l' := #[.val (.int i0), .val (.long i1), .second, .val (.int (Int32.ofNat n)), .val (.ref b264), .unset, .unset, .unset]) rfl (XS.iloadN X264.here hx rfl (hb hby at_22) rfl (XS.bipush X264.here hx rfl (hb hby at_23) kq)))) ?_
    by_cases c25 : (Int32.ofNat n) = (7 : Int32)
    · skip
      refine own_toH T264 (mkF m 90 #[.val (.int i0), .val (.long i1), .second, .val (.int (Int32.ofNat n)), .val (.ref b264), .val .null, .unset, .unset] [.null]) (fun tq kq => XS.icmpNo X264.here hx rfl (hb hby at_25) rfl (teq c25).2 (XS.aconstNull X264.here hx rfl (hb hby at_28) (XS.astore X264.here hx rfl (hb hby at_29) rfl rfl (l' := #[.val (.int i0), .val (.long i1), .second, .val (.int (Int32.ofNat n)), .val (.ref b264), .val .null, .unset, .unset]) rfl (XS.goto X264.here hx rfl (pc0 := 31) (pc' := 88) rfl (hb hby at_31) (by decide) (by decide) (XS.aload X264.here hx rfl (hb hby at_88) rfl rfl kq))))) ?_
      obtain ⟨_, _, ⟨T285, L285, k285, n285⟩, -, X285, ⟨Lc285, hQ285, l285, y285, z285⟩, st285⟩ := Jvm.LawKit.callS X264 hx (y := (⟨"com/example/interest_ranker/interestranker/model/Event$Type", "byId", "(Ljava/lang/String;)Lcom/example/interest_ranker/interestranker/model/Event$Type;"⟩ : MethodName)) hown (mvT hZ (own_w hw 64 rfl)) (mvT hZ (own_w hw 65 rfl)) (mvT hZ (own_w hw 66 rfl)) (mvT hZ (own_w hw 67 rfl)) (by decide) (backOf (W := 0) (rmByN l Z a0 hw [] av aq ac jq jc tq tc kv G1 h264 n0 Zs264 f277 hG f279 f282 f283 f265 f266 f267 f268 f269 f270 f271 f272 f273 f274 f275 f276) hZ (own_w hw 67 rfl) (own_w hw 66 rfl) (by decide) (by decide)) (g := (mkF m 90 #[.val (.int i0), .val (.long i1), .second, .val (.int (Int32.ofNat n)), .val (.ref b264), .val .null, .unset, .unset] [.null])) rfl (by rw [hml]; rfl) (argsL := [.null]) (rest := []) (lenOf pd_12 rfl) rfl (by show 2 * 0 + _ ≤ _; exact Nat.le_of_eq rfl) (hb hby at_90) (fun _ _ => ⟨rfl, e264, (by decide : 2 + 1 ≤ _), (by decide : 24 + 2 ≤ _)⟩)
      dsimp only [Pt.U, Pt.locs, Pt.cells, Pt.slots] at X285 l285 y285 z285 st285 hQ285
      have l285y := l285.symm
      clear l285
      subst l285y
      obtain rfl : k285 = 3 := y285
      obtain rfl : n285 = 26 := z285
      obtain ⟨rfl, N285q, K285q⟩ := hQ285
      have N285 := Fr.app (Fr.nil n0) N285q
      have f286 := f265.keep K285q
      have f287 := f266.keep K285q nin0
      have f288 := f267.keep K285q
      have f289 := f268.keep K285q nin0
      have f290 := f269.keep K285q
      have f291 := f270.keep K285q nin0
      have f292 := f271.keep K285q nin0
      have f293 := f272.keep K285q nin0
      have f294 := f273.keep K285q
      have f295 := f274.keep K285q nin0
      have f296 := f275.keep K285q nin0
      have f297 := f276.keep K285q nin0
      have f298 := own_staK f277 K285q
      have f299 := own_staK f278 K285q
      have f300 := own_staK f279 K285q
      have f301 := own_staK f280 K285q
      have f302 := own_staK f281 K285q
      have f303 := f282.keep K285q
      have f304 := f283.keep K285q nin0
      have f305 := Eb264.keep K285q
      have f306 := Vb264.keep K285q nin0
      have f307 := Cb264.keep K285q nin0
      have f308 := u284.keep K285q nin0
      have Zs285 : n0 ≤ T285.heap.size := Nat.le_trans Zs264 K285q.1
      have hk := Nat.le_trans hk K285q.1
      have C285 := C264.trans (CHr.keep K285q all0 C264.1)
      refine own_toH T285 (mkF m 152 #[.val (.int i0), .val (.long i1), .second, .val (.int (Int32.ofNat n)), .val (.ref b264), .val .null, .val .null, .val .null] []) (fun tq kq => st285 _ (XS.astore X285.here hx rfl (hb hby at_93) rfl rfl (l' := #[.val (.int i0), .val (.long i1), .second, .val (.int (Int32.ofNat n)), .val (.ref b264), .val .null, .val .null, .unset]) rfl (XS.aload X285.here hx rfl (hb hby at_95) rfl rfl (XS.ifnonnullNo X285.here hx rfl (hb hby at_97) rfl (XS.aconstNull X285.here hx rfl (hb hby at_100) (XS.astore X285.here hx rfl (hb hby at_101) rfl rfl (l' := #[.val (.int i0), .val (.long i1), .second, .val (.int (Int32.ofNat n)), .val (.ref b264), .val .null, .val .null, .val .null]) rfl (XS.goto X285.here hx rfl (pc0 := 103) (pc' := 145) rfl (hb hby at_103) (by decide) (by decide) (XS.aload X285.here hx rfl (hb hby at_145) rfl rfl (XS.aload X285.here hx rfl (hb hby at_147) rfl rfl (Jvm.RoadKit.acmp (g := (mkF m 149 #[.val (.int i0), .val (.long i1), .second, .val (.int (Int32.ofNat n)), .val (.ref b264), .val .null, .val .null, .val .null] [.null, .null])) X285 hx rfl rfl rfl (pc0 := 149) (pc' := 152) (same := true) rfl (hb hby at_149) rfl (decide_eq_true rfl) (by decide) (by decide) kq)))))))))) ?_
      refine own_toH T285 (mkF m 157 #[.val (.int i0), .val (.long i1), .second, .val (.int (Int32.ofNat n)), .val (.ref b264), .val .null, .val .null, .val .null] [(.int (1 : Int32))]) (fun tq kq => XS.iconst X285.here hx rfl (hb hby at_152) (XS.goto X285.here hx rfl (pc0 := 153) (pc' := 157) rfl (hb hby at_153) (by decide) (by decide) kq)) ?_
      exact own_retZH X285 hS hk hZ hEL C285 hx hret hlk (hb hby at_157) (by decide) (by decide) (Or.inr rfl) ⟨rfl, N285⟩
    · skip
      refine own_toH T264 (mkF m 40 #[.val (.int i0), .val (.long i1), .second, .val (.int (Int32.ofNat n)), .val (.ref b264), .unset, .unset, .unset] [(.ref b264), (.long i1), (.int i0), (.int (0 : Int32)), (.int (Int32.ofNat n))]) (fun tq kq => XS.icmpYes X264.here hx rfl (pc0 := 25) (pc' := 34) rfl (hb hby at_25) rfl (feq c25).2 (by decide) (by decide) (XS.iloadN X264.here hx rfl (hb hby at_34) rfl (XS.iconst X264.here hx rfl (hb hby at_35) (XS.iloadN X264.here hx rfl (hb hby at_36) rfl (XS.lloadN X264.here hx rfl (hb hby at_37) rfl (XS.aload X264.here hx rfl (hb hby at_38) rfl rfl kq)))))) ?_
      obtain ⟨_, _, ⟨T309, L309, k309, n309⟩, -, X309, ⟨Lc309, hQ309, l309, y309, z309⟩, st309⟩ := Jvm.LawKit.callS X264 hx (y := (⟨"com/example/interest_ranker/interestranker/model/TypeByIdPinLaw", "pick", "(IIJLjava/lang/String;)C"⟩ : MethodName)) hown (mvT hZ (own_w hw 8 rfl)) (mvT hZ (own_w hw 9 rfl)) (mvT hZ (own_w hw 10 rfl)) (mvT hZ (own_w hw 11 rfl)) (by decide) (backOf (W := 1) (rmPick l Z a0 hw [] 0 i0 i1 b264 t264 own_fc G1 vF h264 n0 Zs264 f277 hG f278 hvF Eb264 Vb264 Cb264 u284 (by decide)) hZ (own_w hw 11 rfl) (own_w hw 10 rfl) (by decide) (by decide)) (g := (mkF m 40 #[.val (.int i0), .val (.long i1), .second, .val (.int (Int32.ofNat n)), .val (.ref b264), .unset, .unset, .unset] [(.ref b264), (.long i1), (.int i0), (.int (0 : Int32)), (.int (Int32.ofNat n))])) rfl (by rw [hml]; rfl) (argsL := [(.int (0 : Int32)), (.int i0), (.long i1), (.ref b264)]) (rest := [(.int (Int32.ofNat n))]) (lenOf pd_0 rfl) rfl (by show 2 * 0 + _ ≤ _; exact Nat.le_of_eq rfl) (hb hby at_40) (fun _ _ => ⟨rfl, e264, (by decide : 2 + 0 ≤ _), (by decide : 24 + 0 ≤ _)⟩)
      dsimp only [Pt.U, Pt.locs, Pt.cells, Pt.slots] at X309 l309 y309 z309 st309 hQ309
      have l309y := l309.symm
      clear l309
      subst l309y
      obtain rfl : k309 = 2 := y309
      obtain rfl : n309 = 24 := z309
      obtain ⟨va, rfl, hcva, N309q, e309⟩ := hQ309
      have N309 := Fr.app (Fr.nil n0) N309q
      refine own_toH T309 (mkF m 48 #[.val (.int i0), .val (.long i1), .second, .val (.int (Int32.ofNat n)), .val (.ref b264), .unset, .unset, .unset] [(.ref b264), (.long i1), (.int i0), (.int (1 : Int32)), (.int va), (.int (Int32.ofNat n))]) (fun tq kq => st309 _ (XS.iconst X309.here hx rfl (hb hby at_43) (XS.iloadN X309.here hx rfl (hb hby at_44) rfl (XS.lloadN X309.here hx rfl (hb hby at_45) rfl (XS.aload X309.here hx rfl (hb hby at_46) rfl rfl kq))))) ?_
      obtain ⟨_, _, ⟨T310, L310, k310, n310⟩, -, X310, ⟨Lc310, hQ310, l310, y310, z310⟩, st310⟩ := Jvm.LawKit.callS X309 hx (y := (⟨"com/example/interest_ranker/interestranker/model/TypeByIdPinLaw", "pick", "(IIJLjava/lang/String;)C"⟩ : MethodName)) hown (mvT hZ (own_w hw 8 rfl)) (mvT hZ (own_w hw 9 rfl)) (mvT hZ (own_w hw 10 rfl)) (mvT hZ (own_w hw 11 rfl)) (by decide) (backOf (W := 2) (rmPick l Z a0 hw [] 1 i0 i1 b264 t264 own_fc G1 vF h264 n0 Zs264 f277 hG f278 hvF Eb264 Vb264 Cb264 u284 (by decide)) hZ (own_w hw 11 rfl) (own_w hw 10 rfl) (by decide) (by decide)) (g := (mkF m 48 #[.val (.int i0), .val (.long i1), .second, .val (.int (Int32.ofNat n)), .val (.ref b264), .unset, .unset, .unset] [(.ref b264), (.long i1), (.int i0), (.int (1 : Int32)), (.int va), (.int (Int32.ofNat n))])) rfl (by rw [hml]; rfl) (argsL := [(.int (1 : Int32)), (.int i0), (.long i1), (.ref b264)]) (rest := [(.int va), (.int (Int32.ofNat n))]) (lenOf pd_0 rfl) rfl (by show 2 * 0 + _ ≤ _; exact Nat.le_of_eq rfl) (hb hby at_48) (fun _ _ => ⟨rfl, e309, (by decide : 2 + 0 ≤ _), (by decide : 24 + 0 ≤ _)⟩)
      dsimp only [Pt.U, Pt.locs, Pt.cells, Pt.slots] at X310 l310 y310 z310 st310 hQ310
      have l310y := l310.symm
      clear l310
      subst l310y
      obtain rfl : k310 = 2 := y310
      obtain rfl : n310 = 24 := z310
      obtain ⟨vb, rfl, hcvb, N310q, e310⟩ := hQ310
      have N310 := Fr.app N309 N310q
      refine own_toH T310 (mkF m 56 #[.val (.int i0), .val (.long i1), .second, .val (.int (Int32.ofNat n)), .val (.ref b264), .unset, .unset, .unset] [(.ref b264), (.long i1), (.int i0), (.int (2 : Int32)), (.int vb), (.int va), (.int (Int32.ofNat n))]) (fun tq kq => st310 _ (XS.iconst X310.here hx rfl (hb hby at_51) (XS.iloadN X310.here hx rfl (hb hby at_52) rfl (XS.lloadN X310.here hx rfl (hb hby at_53) rfl (XS.aload X310.here hx rfl (hb hby at_54) rfl rfl kq))))) ?_
      obtain ⟨_, _, ⟨T311, L311, k311, n311⟩, -, X311, ⟨Lc311, hQ311, l311, y311, z311⟩, st311⟩ := Jvm.LawKit.callS X310 hx (y := (⟨"com/example/interest_ranker/interestranker/model/TypeByIdPinLaw", "pick", "(IIJLjava/lang/String;)C"⟩ : MethodName)) hown (mvT hZ (own_w hw 8 rfl)) (mvT hZ (own_w hw 9 rfl)) (mvT hZ (own_w hw 10 rfl)) (mvT hZ (own_w hw 11 rfl)) (by decide) (backOf (W := 3) (rmPick l Z a0 hw [] 2 i0 i1 b264 t264 own_fc G1 vF h264 n0 Zs264 f277 hG f278 hvF Eb264 Vb264 Cb264 u284 (by decide)) hZ (own_w hw 11 rfl) (own_w hw 10 rfl) (by decide) (by decide)) (g := (mkF m 56 #[.val (.int i0), .val (.long i1), .second, .val (.int (Int32.ofNat n)), .val (.ref b264), .unset, .unset, .unset] [(.ref b264), (.long i1), (.int i0), (.int (2 : Int32)), (.int vb), (.int va), (.int (Int32.ofNat n))])) rfl (by rw [hml]; rfl) (argsL := [(.int (2 : Int32)), (.int i0), (.long i1), (.ref b264)]) (rest := [(.int vb), (.int va), (.int (Int32.ofNat n))]) (lenOf pd_0 rfl) rfl (by show 2 * 0 + _ ≤ _; exact Nat.le_of_eq rfl) (hb hby at_56) (fun _ _ => ⟨rfl, e310, (by decide : 2 + 0 ≤ _), (by decide : 24 + 0 ≤ _)⟩)
      dsimp only [Pt.U, Pt.locs, Pt.cells, Pt.slots] at X311 l311 y311 z311 st311 hQ311
      have l311y := l311.symm
      clear l311
      subst l311y
      obtain rfl : k311 = 2 := y311
      obtain rfl : n311 = 24 := z311
      obtain ⟨vc, rfl, hcvc, N311q, e311⟩ := hQ311
      have N311 := Fr.app N310 N311q
      refine own_toH T311 (mkF m 64 #[.val (.int i0), .val (.long i1), .second, .val (.int (Int32.ofNat n)), .val (.ref b264), .unset, .unset, .unset] [(.ref b264), (.long i1), (.int i0), (.int (3 : Int32)), (.int vc), (.int vb), (.int va), (.int (Int32.ofNat n))]) (fun tq kq => st311 _ (XS.iconst X311.here hx rfl (hb hby at_59) (XS.iloadN X311.here hx rfl (hb hby at_60) rfl (XS.lloadN X311.here hx rfl (hb hby at_61) rfl (XS.aload X311.here hx rfl (hb hby at_62) rfl rfl kq))))) ?_
      obtain ⟨_, _, ⟨T312, L312, k312, n312⟩, -, X312, ⟨Lc312, hQ312, l312, y312, z312⟩, st312⟩ := Jvm.LawKit.callS X311 hx (y := (⟨"com/example/interest_ranker/interestranker/model/TypeByIdPinLaw", "pick", "(IIJLjava/lang/String;)C"⟩ : MethodName)) hown (mvT hZ (own_w hw 8 rfl)) (mvT hZ (own_w hw 9 rfl)) (mvT hZ (own_w hw 10 rfl)) (mvT hZ (own_w hw 11 rfl)) (by decide) (backOf (W := 4) (rmPick l Z a0 hw [] 3 i0 i1 b264 t264 own_fc G1 vF h264 n0 Zs264 f277 hG f278 hvF Eb264 Vb264 Cb264 u284 (by decide)) hZ (own_w hw 11 rfl) (own_w hw 10 rfl) (by decide) (by decide)) (g := (mkF m 64 #[.val (.int i0), .val (.long i1), .second, .val (.int (Int32.ofNat n)), .val (.ref b264), .unset, .unset, .unset] [(.ref b264), (.long i1), (.int i0), (.int (3 : Int32)), (.int vc), (.int vb), (.int va), (.int (Int32.ofNat n))])) rfl (by rw [hml]; rfl) (argsL := [(.int (3 : Int32)), (.int i0), (.long i1), (.ref b264)]) (rest := [(.int vc), (.int vb), (.int va), (.int (Int32.ofNat n))]) (lenOf pd_0 rfl) rfl (by show 2 * 0 + _ ≤ _; exact Nat.le_of_eq rfl) (hb hby at_64) (fun _ _ => ⟨rfl, e311, (by decide : 2 + 0 ≤ _), (by decide : 24 + 0 ≤ _)⟩)
      dsimp only [Pt.U, Pt.locs, Pt.cells, Pt.slots] at X312 l312 y312 z312 st312 hQ312
      have l312y := l312.symm
      clear l312
      subst l312y
      obtain rfl : k312 = 2 := y312
      obtain rfl : n312 = 24 := z312
      obtain ⟨vd, rfl, hcvd, N312q, e312⟩ := hQ312
      have N312 := Fr.app N311 N312q
      refine own_toH T312 (mkF m 72 #[.val (.int i0), .val (.long i1), .second, .val (.int (Int32.ofNat n)), .val (.ref b264), .unset, .unset, .unset] [(.ref b264), (.long i1), (.int i0), (.int (4 : Int32)), (.int vd), (.int vc), (.int vb), (.int va), (.int (Int32.ofNat n))]) (fun tq kq => st312 _ (XS.iconst X312.here hx rfl (hb hby at_67) (XS.iloadN X312.here hx rfl (hb hby at_68) rfl (XS.lloadN X312.here hx rfl (hb hby at_69) rfl (XS.aload X312.here hx rfl (hb hby at_70) rfl rfl kq))))) ?_
      obtain ⟨_, _, ⟨T313, L313, k313, n313⟩, -, X313, ⟨Lc313, hQ313, l313, y313, z313⟩, st313⟩ := Jvm.LawKit.callS X312 hx (y := (⟨"com/example/interest_ranker/interestranker/model/TypeByIdPinLaw", "pick", "(IIJLjava/lang/String;)C"⟩ : MethodName)) hown (mvT hZ (own_w hw 8 rfl)) (mvT hZ (own_w hw 9 rfl)) (mvT hZ (own_w hw 10 rfl)) (mvT hZ (own_w hw 11 rfl)) (by decide) (backOf (W := 5) (rmPick l Z a0 hw [] 4 i0 i1 b264 t264 own_fc G1 vF h264 n0 Zs264 f277 hG f278 hvF Eb264 Vb264 Cb264 u284 (by decide)) hZ (own_w hw 11 rfl) (own_w hw 10 rfl) (by decide) (by decide)) (g := (mkF m 72 #[.val (.int i0), .val (.long i1), .second, .val (.int (Int32.ofNat n)), .val (.ref b264), .unset, .unset, .unset] [(.ref b264), (.long i1), (.int i0), (.int (4 : Int32)), (.int vd), (.int vc), (.int vb), (.int va), (.int (Int32.ofNat n))])) rfl (by rw [hml]; rfl) (argsL := [(.int (4 : Int32)), (.int i0), (.long i1), (.ref b264)]) (rest := [(.int vd), (.int vc), (.int vb), (.int va), (.int (Int32.ofNat n))]) (lenOf pd_0 rfl) rfl (by show 2 * 0 + _ ≤ _; exact Nat.le_of_eq rfl) (hb hby at_72) (fun _ _ => ⟨rfl, e312, (by decide : 2 + 0 ≤ _), (by decide : 24 + 0 ≤ _)⟩)
      dsimp only [Pt.U, Pt.locs, Pt.cells, Pt.slots] at X313 l313 y313 z313 st313 hQ313
      have l313y := l313.symm
      clear l313
      subst l313y
      obtain rfl : k313 = 2 := y313
      obtain rfl : n313 = 24 := z313
      obtain ⟨ve, rfl, hcve, N313q, e313⟩ := hQ313
      have N313 := Fr.app N312 N313q
      refine own_toH T313 (mkF m 80 #[.val (.int i0), .val (.long i1), .second, .val (.int (Int32.ofNat n)), .val (.ref b264), .unset, .unset, .unset] [(.ref b264), (.long i1), (.int i0), (.int (5 : Int32)), (.int ve), (.int vd), (.int vc), (.int vb), (.int va), (.int (Int32.ofNat n))]) (fun tq kq => st313 _ (XS.iconst X313.here hx rfl (hb hby at_75) (XS.iloadN X313.here hx rfl (hb hby at_76) rfl (XS.lloadN X313.here hx rfl (hb hby at_77) rfl (XS.aload X313.here hx rfl (hb hby at_78) rfl rfl kq))))) ?_
      obtain ⟨_, _, ⟨T314, L314, k314, n314⟩, -, X314, ⟨Lc314, hQ314, l314, y314, z314⟩, st314⟩ := Jvm.LawKit.callS X313 hx (y := (⟨"com/example/interest_ranker/interestranker/model/TypeByIdPinLaw", "pick", "(IIJLjava/lang/String;)C"⟩ : MethodName)) hown (mvT hZ (own_w hw 8 rfl)) (mvT hZ (own_w hw 9 rfl)) (mvT hZ (own_w hw 10 rfl)) (mvT hZ (own_w hw 11 rfl)) (by decide) (backOf (W := 6) (rmPick l Z a0 hw [] 5 i0 i1 b264 t264 own_fc G1 vF h264 n0 Zs264 f277 hG f278 hvF Eb264 Vb264 Cb264 u284 (by decide)) hZ (own_w hw 11 rfl) (own_w hw 10 rfl) (by decide) (by decide)) (g := (mkF m 80 #[.val (.int i0), .val (.long i1), .second, .val (.int (Int32.ofNat n)), .val (.ref b264), .unset, .unset, .unset] [(.ref b264), (.long i1), (.int i0), (.int (5 : Int32)), (.int ve), (.int vd), (.int vc), (.int vb), (.int va), (.int (Int32.ofNat n))])) rfl (by rw [hml]; rfl) (argsL := [(.int (5 : Int32)), (.int i0), (.long i1), (.ref b264)]) (rest := [(.int ve), (.int vd), (.int vc), (.int vb), (.int va), (.int (Int32.ofNat n))]) (lenOf pd_0 rfl) rfl (by show 2 * 0 + _ ≤ _; exact Nat.le_of_eq rfl) (hb hby at_80) (fun _ _ => ⟨rfl, e313, (by decide : 2 + 0 ≤ _), (by decide : 24 + 0 ≤ _)⟩)
      dsimp only [Pt.U, Pt.locs, Pt.cells, Pt.slots] at X314 l314 y314 z314 st314 hQ314
      have l314y := l314.symm
      clear l314
      subst l314y
      obtain rfl : k314 = 2 := y314
      obtain rfl : n314 = 24 := z314
      obtain ⟨vf, rfl, hcvf, N314q, e314⟩ := hQ314
      have N314 := Fr.app N313 N314q
      refine own_toH T314 (mkF m 83 #[.val (.int i0), .val (.long i1), .second, .val (.int (Int32.ofNat n)), .val (.ref b264), .unset, .unset, .unset] [(.int vf), (.int ve), (.int vd), (.int vc), (.int vb), (.int va), (.int (Int32.ofNat n))]) (fun tq kq => st314 _ kq) ?_
      have hn6 : n ≤ 6 := (by have hz : n ≠ 7 := (fun z => c25 (by rw [z]; rfl)); omega)
      obtain ⟨_, _, ⟨T315, L315, k315, n315⟩, -, X315, hS315, hgr315, ⟨Lc315, hQ315, l315, y315, z315, hC315⟩, st315⟩ := callSS X314 hx (y := (⟨"com/example/interest_ranker/interestranker/model/TypeByIdPinLaw", "make", "(ICCCCCC)Ljava/lang/String;"⟩ : MethodName)) hown (mvT hZ (own_w hw 48 rfl)) (mvT hZ (own_w hw 49 rfl)) (mvT hZ (own_w hw 10 rfl)) (mvT hZ (own_w hw 50 rfl)) (by decide) (backOfSH (W := 0) (rmMake l Z a0 hw [] n va vb vc vd ve vf G1 h264 n0 Zs264 f277 hG hEL hcva hcvb hcvc hcvd hcve hcvf hn6) hZ (own_w hw 50 rfl) (own_w hw 10 rfl) (by decide) (by decide) hEL C264.1) (g := (mkF m 83 #[.val (.int i0), .val (.long i1), .second, .val (.int (Int32.ofNat n)), .val (.ref b264), .unset, .unset, .unset] [(.int vf), (.int ve), (.int vd), (.int vc), (.int vb), (.int va), (.int (Int32.ofNat n))])) rfl (by rw [hml]; rfl) (argsL := [(.int (Int32.ofNat n)), (.int va), (.int vb), (.int vc), (.int vd), (.int ve), (.int vf)]) (rest := []) (lenOf pd_8 rfl) rfl (by show 2 * 0 + _ ≤ _; exact Nat.le_of_eq rfl) (hb hby at_83) (fun _ _ => ⟨rfl, e314, (by decide : 2 + 6 ≤ _), (by decide : 24 + 16 ≤ _)⟩)
      dsimp only [Pt.U, Pt.locs, Pt.cells, Pt.slots] at X315 l315 y315 z315 st315 hQ315
      have l315y := l315.symm
      clear l315
      subst l315y
      obtain rfl : k315 = 8 := y315
      obtain rfl : n315 = 40 := z315
      dsimp only [Pt.U, Pt.locs, Pt.cells, Pt.slots] at hS315 hgr315 hC315
      have C315 := C264.trans hC315
      obtain ⟨X315, hS, hZ, hown⟩ := rebS hS hk X315 hS315 (by rw [← e314]; exact hgr315) hZ hown
      have hk := Nat.le_refl T315.heap.size
      obtain ⟨bm, tm, gm, rfl, N315q, K315q, -, Em, Cm, Vm, Am⟩ := hQ315
      have N315 := Fr.app N314 N315q
      have f316 := f265.keep K315q
      have f317 := f266.keep K315q nin0
      have f318 := f267.keep K315q
      have f319 := f268.keep K315q nin0
      have f320 := f269.keep K315q
      have f321 := f270.keep K315q nin0
      have f322 := f271.keep K315q nin0
      have f323 := f272.keep K315q nin0
      have f324 := f273.keep K315q
      have f325 := f274.keep K315q nin0
      have f326 := f275.keep K315q nin0
      have f327 := f276.keep K315q nin0
      have f328 := own_staK f277 K315q
      have f329 := own_staK f278 K315q
      have f330 := own_staK f279 K315q
      have f331 := own_staK f280 K315q
      have f332 := own_staK f281 K315q
      have f333 := f282.keep K315q
      have f334 := f283.keep K315q nin0
      have f335 := Eb264.keep K315q
      have f336 := Vb264.keep K315q nin0
      have f337 := Cb264.keep K315q nin0
      have f338 := u284.keep K315q nin0
      have Zs315 : n0 ≤ T315.heap.size := Nat.le_trans Zs264 K315q.1
      refine own_toH T315 (mkF m 90 #[.val (.int i0), .val (.long i1), .second, .val (.int (Int32.ofNat n)), .val (.ref b264), .val (.ref bm), .unset, .unset] [(.ref bm)]) (fun tq kq => st315.trans (XS.astore X315.here hx rfl (hb hby at_86) rfl rfl (l' := #[.val (.int i0), .val (.long i1), .second, .val (.int (Int32.ofNat n)), .val (.ref b264), .val (.ref bm), .unset, .unset]) rfl (XS.aload X315.here hx rfl (hb hby at_88) rfl rfl kq))) ?_
      obtain ⟨_, _, ⟨T339, L339, k339, n339⟩, -, X339, ⟨Lc339, hQ339, l339, y339, z339⟩, st339⟩ := Jvm.LawKit.callS X315 hx (y := (⟨"com/example/interest_ranker/interestranker/model/Event$Type", "byId", "(Ljava/lang/String;)Lcom/example/interest_ranker/interestranker/model/Event$Type;"⟩ : MethodName)) hown (mvT hZ (own_w hw 64 rfl)) (mvT hZ (own_w hw 65 rfl)) (mvT hZ (own_w hw 66 rfl)) (mvT hZ (own_w hw 67 rfl)) (by decide) (backOf (W := 0) (rmBy l Z a0 hw [] av aq ac jq jc tq tc kv bm tm n gm G1 T315.heap n0 Zs315 f328 hG f330 f333 f334 f316 f317 f318 f319 f320 f321 f322 f323 f324 f325 f326 f327 Em Vm Cm Am (by omega)) hZ (own_w hw 67 rfl) (own_w hw 66 rfl) (by decide) (by decide)) (g := (mkF m 90 #[.val (.int i0), .val (.long i1), .second, .val (.int (Int32.ofNat n)), .val (.ref b264), .val (.ref bm), .unset, .unset] [(.ref bm)])) rfl (by rw [hml]; rfl) (argsL := [(.ref bm)]) (rest := []) (lenOf pd_12 rfl) rfl (by show 2 * 0 + _ ≤ _; exact Nat.le_of_eq rfl) (hb hby at_90) (fun _ _ => ⟨rfl, rfl, (by decide : 8 + 1 ≤ _), (by decide : 40 + 2 ≤ _)⟩)
      dsimp only [Pt.U, Pt.locs, Pt.cells, Pt.slots] at X339 l339 y339 z339 st339 hQ339
      have l339y := l339.symm
      clear l339
      subst l339y
      obtain rfl : k339 = 9 := y339
      obtain rfl : n339 = 42 := z339
      obtain ⟨rfl, N339q, K339q⟩ := hQ339
      have N339 := Fr.app N315 N339q
      have f340 := f316.keep K339q
      have f341 := f317.keep K339q nin0
      have f342 := f318.keep K339q
      have f343 := f319.keep K339q nin0
      have f344 := f320.keep K339q
      have f345 := f321.keep K339q nin0
      have f346 := f322.keep K339q nin0
      have f347 := f323.keep K339q nin0
      have f348 := f324.keep K339q
      have f349 := f325.keep K339q nin0
      have f350 := f326.keep K339q nin0
      have f351 := f327.keep K339q nin0
      have f352 := own_staK f328 K339q
      have f353 := own_staK f329 K339q
      have f354 := own_staK f330 K339q
      have f355 := own_staK f331 K339q
      have f356 := own_staK f332 K339q
      have f357 := f333.keep K339q
      have f358 := f334.keep K339q nin0
      have f359 := f335.keep K339q
      have f360 := f336.keep K339q nin0
      have f361 := f337.keep K339q nin0
      have f362 := f338.keep K339q nin0
      have f363 := Em.keep K339q
      have f364 := Vm.keep K339q nin0
      have f365 := Cm.keep K339q nin0
      have f366 := Am.keep K339q nin0
      have Zs339 : n0 ≤ T339.heap.size := Nat.le_trans Zs315 K339q.1
      have hk := Nat.le_trans hk K339q.1
      have C339 := C315.trans (CHr.keep K339q all0 C315.1)
      refine own_toH T339 (mkF m 93 #[.val (.int i0), .val (.long i1), .second, .val (.int (Int32.ofNat n)), .val (.ref b264), .val (.ref bm), .unset, .unset] [(own_by aq ac n gm)]) (fun tq kq => st339 _ kq) ?_
      by_cases sq : own_same 5 own_fq n gm
      · have hq := own_eqT sq
        have hc := own_eqF (fun z => own_apart sq z)
        rw [own_by_10 hq hc]
        refine own_toH T339 (mkF m 108 #[.val (.int i0), .val (.long i1), .second, .val (.int (Int32.ofNat n)), .val (.ref b264), .val (.ref bm), .val (.ref aq), .unset] [(.ref bm)]) (fun tq kq => XS.astore X339.here hx rfl (hb hby at_93) rfl rfl (l' := #[.val (.int i0), .val (.long i1), .second, .val (.int (Int32.ofNat n)), .val (.ref b264), .val (.ref bm), .val (.ref aq), .unset]) rfl (XS.aload X339.here hx rfl (hb hby at_95) rfl rfl (XS.ifnonnullYes X339.here hx rfl (pc0 := 97) (pc' := 106) rfl (hb hby at_97) rfl (by decide) (by decide) (XS.aload X339.here hx rfl (hb hby at_106) rfl rfl kq)))) ?_
        obtain ⟨b367, T367, h367, k367, t367, kc367, X367, e367, E367, hS, hk, hZ, hown, Eb367, Cb367, Vb367, Ab367, la367, lb367, hC367, hL367, hsf367, st367⟩ := ldcCH X339 hx hZ hown (own_w hw 0 rfl) own_wS rfl hS hk hEL (by decide) C339.1 (vs := ([(113 : Int32), (117 : Int32), (101 : Int32), (114 : Int32), (121 : Int32)] : List Int32).map Value.int) (z := Int32.ofNat 5) ⟨by decide, by decide⟩ (by decide) (by decide) (g := (mkF m 108 #[.val (.int i0), .val (.long i1), .second, .val (.int (Int32.ofNat n)), .val (.ref b264), .val (.ref bm), .val (.ref aq), .unset] [(.ref bm)])) rfl (hb hby at_108) (n := 20) (by decide) (by decide) (by decide) (by decide)
        have f368 := f340.ext E367
        have f369 := f341.ext E367
        have f370 := f342.ext E367
        have f371 := f343.ext E367
        have f372 := f344.ext E367
        have f373 := f345.ext E367
        have f374 := f346.ext E367
        have f375 := f347.ext E367
        have f376 := f348.ext E367
        have f377 := f349.ext E367
        have f378 := f350.ext E367
        have f379 := f351.ext E367
        have f380 := f352.ext E367
        have f381 := f353.ext E367
        have f382 := f354.ext E367
        have f383 := f355.ext E367
        have f384 := f356.ext E367
        have f385 := f357.ext E367
        have f386 := f358.ext E367
        have f387 := f359.ext E367
        have f388 := f360.ext E367
        have f389 := f361.ext E367
        have f390 := f362.ext E367
        have f391 := f363.ext E367
        have f392 := f364.ext E367
        have f393 := f365.ext E367
        have f394 := f366.ext E367
        have Zs367 : n0 ≤ h367.size := Nat.le_trans Zs339 E367.1
        have C367 := C339.trans hC367
        have Vt367 : BArr Z h367 t367 5 (fun i => ([(113 : Int32), (117 : Int32), (101 : Int32), (114 : Int32), (121 : Int32)] : List Int32).getD i 0) := own_barr Ab367 (by decide) (by decide)
        refine own_toH T367 (mkF m 110 #[.val (.int i0), .val (.long i1), .second, .val (.int (Int32.ofNat n)), .val (.ref b264), .val (.ref bm), .val (.ref aq), .unset] [(.ref b367), (.ref bm)]) (fun tq kq => st367 _ kq) ?_
        have u395 : BArr Z h367 t367 5 own_fq := Vt367
        obtain ⟨cq396, kq396, q396a, q396b, q396c⟩ := isOf hZ e367 f391
        obtain ⟨_, _, ⟨T396, L396, k396, n396⟩, -, X396, ⟨Lc396, hQ396, l396, y396, z396⟩, st396⟩ := X367.virtualBack hx (y := (⟨"java/lang/String", "equals", "(Ljava/lang/Object;)Z"⟩ : MethodName)) (z := (⟨"java/lang/String", "equals", "(Ljava/lang/Object;)Z"⟩ : MethodName)) hown (mvT hZ (own_w hw 101 rfl)) (mvT hZ (own_w hw 93 rfl)) (notFace_of_selects (args := #[]) (mvT hZ (own_w hw 95 rfl))) (mvT hZ (own_w hw 95 rfl)) (mvT hZ (own_w hw 94 rfl)) (by decide) (backOf (W := 0) (rmEq l Z a0 hw [] bm tm b367 t367 n 5 gm own_fq G1 h367 n0 Zs367 f380 hG f391 f392 f393 f394 Eb367 Vb367 Cb367 u395 (by omega) (by decide)) hZ (own_w hw 96 rfl) (own_w hw 1 rfl) (by decide) (by decide)) q396a q396c (g := (mkF m 110 #[.val (.int i0), .val (.long i1), .second, .val (.int (Int32.ofNat n)), .val (.ref b264), .val (.ref bm), .val (.ref aq), .unset] [(.ref b367), (.ref bm)])) rfl (by rw [hml]; rfl) (Steps.refl _) (argsL := [(.ref b367)]) (rest := []) (lenOf pd_16 rfl) rfl (by show 2 * 0 + _ ≤ _; exact Nat.le_of_eq rfl) (hb hby at_110) (fun _ _ => ⟨rfl, e367, (by decide : 11 + 0 ≤ _), (by decide : 66 + 0 ≤ _)⟩)
        dsimp only [Pt.U, Pt.locs, Pt.cells, Pt.slots] at X396 l396 y396 z396 st396 hQ396
        have l396y := l396.symm
        clear l396
        subst l396y
        obtain rfl : k396 = 11 := y396
        obtain rfl : n396 = 66 := z396
        obtain ⟨rfl, N396q, e396⟩ := hQ396
        have N396 := Fr.app N339 N396q
        refine own_toH T396 (mkF m 113 #[.val (.int i0), .val (.long i1), .second, .val (.int (Int32.ofNat n)), .val (.ref b264), .val (.ref bm), .val (.ref aq), .unset] [(.int (own_eq n gm 5 own_fq))]) (fun tq kq => st396.trans kq) ?_
        rw [show (own_eq n gm 5 own_fq) = (1 : Int32) from own_eqT (own_same_comm sq)]
        refine own_toH T396 (mkF m 116 #[.val (.int i0), .val (.long i1), .second, .val (.int (Int32.ofNat n)), .val (.ref b264), .val (.ref bm), .val (.ref aq), .unset] []) (fun tq kq => XS.ifNo X396.here hx rfl (hb hby at_113) rfl ((if0 _ _).trans (feq (by decide : ¬ ((1 : Int32) = (0 : Int32)))).1) kq) ?_
        obtain ⟨T397, X397, e397, st397⟩ := getS2 X396 hx hZ hown (host := "") (Or.inl (own_w hw 114 rfl)) Via.refl e396 f383 (g := (mkF m 116 #[.val (.int i0), .val (.long i1), .second, .val (.int (Int32.ofNat n)), .val (.ref b264), .val (.ref bm), .val (.ref aq), .unset] [])) rfl (hb hby at_116)
        refine own_toH T397 (mkF m 157 #[.val (.int i0), .val (.long i1), .second, .val (.int (Int32.ofNat n)), .val (.ref b264), .val (.ref bm), .val (.ref aq), .val (.ref aq)] [(.int (1 : Int32))]) (fun tq kq => st397 _ (XS.astore X397.here hx rfl (hb hby at_119) rfl rfl (l' := #[.val (.int i0), .val (.long i1), .second, .val (.int (Int32.ofNat n)), .val (.ref b264), .val (.ref bm), .val (.ref aq), .val (.ref aq)]) rfl (XS.goto X397.here hx rfl (pc0 := 121) (pc' := 145) rfl (hb hby at_121) (by decide) (by decide) (XS.aload X397.here hx rfl (hb hby at_145) rfl rfl (XS.aload X397.here hx rfl (hb hby at_147) rfl rfl (Jvm.RoadKit.acmp (g := (mkF m 149 #[.val (.int i0), .val (.long i1), .second, .val (.int (Int32.ofNat n)), .val (.ref b264), .val (.ref bm), .val (.ref aq), .val (.ref aq)] [(.ref aq), (.ref aq)])) X397 hx rfl rfl rfl (pc0 := 149) (pc' := 152) (same := true) rfl (hb hby at_149) rfl (decide_eq_true rfl) (by decide) (by decide) (XS.iconst X397.here hx rfl (hb hby at_152) (XS.goto X397.here hx rfl (pc0 := 153) (pc' := 157) rfl (hb hby at_153) (by decide) (by decide) kq)))))))) ?_
        exact own_retZH X397 hS (by rw [e397]; exact hk) hZ hEL (by rw [e397]; exact C367) hx hret hlk (hb hby at_157) (by decide) (by decide) (Or.inr rfl) ⟨rfl, N396⟩
      · have hq := own_eqF sq
        by_cases sc : own_same 5 own_fc n gm
        · have hc := own_eqT sc
          rw [own_by_01 hq hc]
          refine own_toH T339 (mkF m 108 #[.val (.int i0), .val (.long i1), .second, .val (.int (Int32.ofNat n)), .val (.ref b264), .val (.ref bm), .val (.ref ac), .unset] [(.ref bm)]) (fun tq kq => XS.astore X339.here hx rfl (hb hby at_93) rfl rfl (l' := #[.val (.int i0), .val (.long i1), .second, .val (.int (Int32.ofNat n)), .val (.ref b264), .val (.ref bm), .val (.ref ac), .unset]) rfl (XS.aload X339.here hx rfl (hb hby at_95) rfl rfl (XS.ifnonnullYes X339.here hx rfl (pc0 := 97) (pc' := 106) rfl (hb hby at_97) rfl (by decide) (by decide) (XS.aload X339.here hx rfl (hb hby at_106) rfl rfl kq)))) ?_
          obtain ⟨b398, T398, h398, k398, t398, kc398, X398, e398, E398, hS, hk, hZ, hown, Eb398, Cb398, Vb398, Ab398, la398, lb398, hC398, hL398, hsf398, st398⟩ := ldcCH X339 hx hZ hown (own_w hw 0 rfl) own_wS rfl hS hk hEL (by decide) C339.1 (vs := ([(113 : Int32), (117 : Int32), (101 : Int32), (114 : Int32), (121 : Int32)] : List Int32).map Value.int) (z := Int32.ofNat 5) ⟨by decide, by decide⟩ (by decide) (by decide) (g := (mkF m 108 #[.val (.int i0), .val (.long i1), .second, .val (.int (Int32.ofNat n)), .val (.ref b264), .val (.ref bm), .val (.ref ac), .unset] [(.ref bm)])) rfl (hb hby at_108) (n := 20) (by decide) (by decide) (by decide) (by decide)
          have f399 := f340.ext E398
          have f400 := f341.ext E398
          have f401 := f342.ext E398
          have f402 := f343.ext E398
          have f403 := f344.ext E398
          have f404 := f345.ext E398
          have f405 := f346.ext E398
          have f406 := f347.ext E398
          have f407 := f348.ext E398
          have f408 := f349.ext E398
          have f409 := f350.ext E398
          have f410 := f351.ext E398
          have f411 := f352.ext E398
          have f412 := f353.ext E398
          have f413 := f354.ext E398
          have f414 := f355.ext E398
          have f415 := f356.ext E398
          have f416 := f357.ext E398
          have f417 := f358.ext E398
          have f418 := f359.ext E398
          have f419 := f360.ext E398
          have f420 := f361.ext E398
          have f421 := f362.ext E398
          have f422 := f363.ext E398
          have f423 := f364.ext E398
          have f424 := f365.ext E398
          have f425 := f366.ext E398
          have Zs398 : n0 ≤ h398.size := Nat.le_trans Zs339 E398.1
          have C398 := C339.trans hC398
          have Vt398 : BArr Z h398 t398 5 (fun i => ([(113 : Int32), (117 : Int32), (101 : Int32), (114 : Int32), (121 : Int32)] : List Int32).getD i 0) := own_barr Ab398 (by decide) (by decide)
          refine own_toH T398 (mkF m 110 #[.val (.int i0), .val (.long i1), .second, .val (.int (Int32.ofNat n)), .val (.ref b264), .val (.ref bm), .val (.ref ac), .unset] [(.ref b398), (.ref bm)]) (fun tq kq => st398 _ kq) ?_
          have u426 : BArr Z h398 t398 5 own_fq := Vt398
          obtain ⟨cq427, kq427, q427a, q427b, q427c⟩ := isOf hZ e398 f422
          obtain ⟨_, _, ⟨T427, L427, k427, n427⟩, -, X427, ⟨Lc427, hQ427, l427, y427, z427⟩, st427⟩ := X398.virtualBack hx (y := (⟨"java/lang/String", "equals", "(Ljava/lang/Object;)Z"⟩ : MethodName)) (z := (⟨"java/lang/String", "equals", "(Ljava/lang/Object;)Z"⟩ : MethodName)) hown (mvT hZ (own_w hw 101 rfl)) (mvT hZ (own_w hw 93 rfl)) (notFace_of_selects (args := #[]) (mvT hZ (own_w hw 95 rfl))) (mvT hZ (own_w hw 95 rfl)) (mvT hZ (own_w hw 94 rfl)) (by decide) (backOf (W := 0) (rmEq l Z a0 hw [] bm tm b398 t398 n 5 gm own_fq G1 h398 n0 Zs398 f411 hG f422 f423 f424 f425 Eb398 Vb398 Cb398 u426 (by omega) (by decide)) hZ (own_w hw 96 rfl) (own_w hw 1 rfl) (by decide) (by decide)) q427a q427c (g := (mkF m 110 #[.val (.int i0), .val (.long i1), .second, .val (.int (Int32.ofNat n)), .val (.ref b264), .val (.ref bm), .val (.ref ac), .unset] [(.ref b398), (.ref bm)])) rfl (by rw [hml]; rfl) (Steps.refl _) (argsL := [(.ref b398)]) (rest := []) (lenOf pd_16 rfl) rfl (by show 2 * 0 + _ ≤ _; exact Nat.le_of_eq rfl) (hb hby at_110) (fun _ _ => ⟨rfl, e398, (by decide : 11 + 0 ≤ _), (by decide : 66 + 0 ≤ _)⟩)
          dsimp only [Pt.U, Pt.locs, Pt.cells, Pt.slots] at X427 l427 y427 z427 st427 hQ427
          have l427y := l427.symm
          clear l427
          subst l427y
          obtain rfl : k427 = 11 := y427
          obtain rfl : n427 = 66 := z427
          obtain ⟨rfl, N427q, e427⟩ := hQ427
          have N427 := Fr.app N339 N427q
          refine own_toH T427 (mkF m 113 #[.val (.int i0), .val (.long i1), .second, .val (.int (Int32.ofNat n)), .val (.ref b264), .val (.ref bm), .val (.ref ac), .unset] [(.int (own_eq n gm 5 own_fq))]) (fun tq kq => st427.trans kq) ?_
          rw [show (own_eq n gm 5 own_fq) = (0 : Int32) from own_eqF (fun z => sq (own_same_comm z))]
          refine own_toH T427 (mkF m 126 #[.val (.int i0), .val (.long i1), .second, .val (.int (Int32.ofNat n)), .val (.ref b264), .val (.ref bm), .val (.ref ac), .unset] [(.ref bm)]) (fun tq kq => XS.ifYes X427.here hx rfl (pc0 := 113) (pc' := 124) rfl (hb hby at_113) rfl ((if0 _ _).trans (teq (by decide : (0 : Int32) = (0 : Int32))).1) (by decide) (by decide) (XS.aload X427.here hx rfl (hb hby at_124) rfl rfl kq)) ?_
          obtain ⟨b428, T428, h428, k428, t428, kc428, X428, e428, E428, hS, hk, hZ, hown, Eb428, Cb428, Vb428, Ab428, la428, lb428, hC428, hL428, hsf428, st428⟩ := ldcCH X427 hx hZ hown (own_w hw 102 rfl) own_wS e427 hS hk hEL (by decide) C398.1 (vs := ([(99 : Int32), (108 : Int32), (105 : Int32), (99 : Int32), (107 : Int32)] : List Int32).map Value.int) (z := Int32.ofNat 5) ⟨by decide, by decide⟩ (by decide) (by decide) (g := (mkF m 126 #[.val (.int i0), .val (.long i1), .second, .val (.int (Int32.ofNat n)), .val (.ref b264), .val (.ref bm), .val (.ref ac), .unset] [(.ref bm)])) rfl (hb hby at_126) (n := 20) (by decide) (by decide) (by decide) (by decide)
          have f429 := f399.ext E428
          have f430 := f400.ext E428
          have f431 := f401.ext E428
          have f432 := f402.ext E428
          have f433 := f403.ext E428
          have f434 := f404.ext E428
          have f435 := f405.ext E428
          have f436 := f406.ext E428
          have f437 := f407.ext E428
          have f438 := f408.ext E428
          have f439 := f409.ext E428
          have f440 := f410.ext E428
          have f441 := f411.ext E428
          have f442 := f412.ext E428
          have f443 := f413.ext E428
          have f444 := f414.ext E428
          have f445 := f415.ext E428
          have f446 := f416.ext E428
          have f447 := f417.ext E428
          have f448 := f418.ext E428
          have f449 := f419.ext E428
          have f450 := f420.ext E428
          have f451 := f421.ext E428
          have f452 := f422.ext E428
          have f453 := f423.ext E428
          have f454 := f424.ext E428
          have f455 := f425.ext E428
          have f456 := Eb398.ext E428
          have f457 := Vb398.ext E428
          have f458 := Cb398.ext E428
          have f459 := u426.ext E428
          have Zs428 : n0 ≤ h428.size := Nat.le_trans Zs398 E428.1
          have C428 := C398.trans hC428
          have Vt428 : BArr Z h428 t428 5 (fun i => ([(99 : Int32), (108 : Int32), (105 : Int32), (99 : Int32), (107 : Int32)] : List Int32).getD i 0) := own_barr Ab428 (by decide) (by decide)
          refine own_toH T428 (mkF m 128 #[.val (.int i0), .val (.long i1), .second, .val (.int (Int32.ofNat n)), .val (.ref b264), .val (.ref bm), .val (.ref ac), .unset] [(.ref b428), (.ref bm)]) (fun tq kq => st428 _ kq) ?_
          have u460 : BArr Z h428 t428 5 own_fc := Vt428
          obtain ⟨cq461, kq461, q461a, q461b, q461c⟩ := isOf hZ e428 f452
          obtain ⟨_, _, ⟨T461, L461, k461, n461⟩, -, X461, ⟨Lc461, hQ461, l461, y461, z461⟩, st461⟩ := X428.virtualBack hx (y := (⟨"java/lang/String", "equals", "(Ljava/lang/Object;)Z"⟩ : MethodName)) (z := (⟨"java/lang/String", "equals", "(Ljava/lang/Object;)Z"⟩ : MethodName)) hown (mvT hZ (own_w hw 101 rfl)) (mvT hZ (own_w hw 93 rfl)) (notFace_of_selects (args := #[]) (mvT hZ (own_w hw 95 rfl))) (mvT hZ (own_w hw 95 rfl)) (mvT hZ (own_w hw 94 rfl)) (by decide) (backOf (W := 0) (rmEq l Z a0 hw [] bm tm b428 t428 n 5 gm own_fc G1 h428 n0 Zs428 f441 hG f452 f453 f454 f455 Eb428 Vb428 Cb428 u460 (by omega) (by decide)) hZ (own_w hw 96 rfl) (own_w hw 1 rfl) (by decide) (by decide)) q461a q461c (g := (mkF m 128 #[.val (.int i0), .val (.long i1), .second, .val (.int (Int32.ofNat n)), .val (.ref b264), .val (.ref bm), .val (.ref ac), .unset] [(.ref b428), (.ref bm)])) rfl (by rw [hml]; rfl) (Steps.refl _) (argsL := [(.ref b428)]) (rest := []) (lenOf pd_16 rfl) rfl (by show 2 * 0 + _ ≤ _; exact Nat.le_of_eq rfl) (hb hby at_128) (fun _ _ => ⟨rfl, e428, (by decide : 13 + 0 ≤ _), (by decide : 90 + 0 ≤ _)⟩)
          dsimp only [Pt.U, Pt.locs, Pt.cells, Pt.slots] at X461 l461 y461 z461 st461 hQ461
          have l461y := l461.symm
          clear l461
          subst l461y
          obtain rfl : k461 = 13 := y461
          obtain rfl : n461 = 90 := z461
          obtain ⟨rfl, N461q, e461⟩ := hQ461
          have N461 := Fr.app N427 N461q
          refine own_toH T461 (mkF m 131 #[.val (.int i0), .val (.long i1), .second, .val (.int (Int32.ofNat n)), .val (.ref b264), .val (.ref bm), .val (.ref ac), .unset] [(.int (own_eq n gm 5 own_fc))]) (fun tq kq => st461.trans kq) ?_
          rw [show (own_eq n gm 5 own_fc) = (1 : Int32) from own_eqT (own_same_comm sc)]
          refine own_toH T461 (mkF m 134 #[.val (.int i0), .val (.long i1), .second, .val (.int (Int32.ofNat n)), .val (.ref b264), .val (.ref bm), .val (.ref ac), .unset] []) (fun tq kq => XS.ifNo X461.here hx rfl (hb hby at_131) rfl ((if0 _ _).trans (feq (by decide : ¬ ((1 : Int32) = (0 : Int32)))).1) kq) ?_
          obtain ⟨T462, X462, e462, st462⟩ := getS2 X461 hx hZ hown (host := "") (Or.inl (own_w hw 113 rfl)) Via.refl e461 f445 (g := (mkF m 134 #[.val (.int i0), .val (.long i1), .second, .val (.int (Int32.ofNat n)), .val (.ref b264), .val (.ref bm), .val (.ref ac), .unset] [])) rfl (hb hby at_134)
          refine own_toH T462 (mkF m 157 #[.val (.int i0), .val (.long i1), .second, .val (.int (Int32.ofNat n)), .val (.ref b264), .val (.ref bm), .val (.ref ac), .val (.ref ac)] [(.int (1 : Int32))]) (fun tq kq => st462 _ (XS.astore X462.here hx rfl (hb hby at_137) rfl rfl (l' := #[.val (.int i0), .val (.long i1), .second, .val (.int (Int32.ofNat n)), .val (.ref b264), .val (.ref bm), .val (.ref ac), .val (.ref ac)]) rfl (XS.goto X462.here hx rfl (pc0 := 139) (pc' := 145) rfl (hb hby at_139) (by decide) (by decide) (XS.aload X462.here hx rfl (hb hby at_145) rfl rfl (XS.aload X462.here hx rfl (hb hby at_147) rfl rfl (Jvm.RoadKit.acmp (g := (mkF m 149 #[.val (.int i0), .val (.long i1), .second, .val (.int (Int32.ofNat n)), .val (.ref b264), .val (.ref bm), .val (.ref ac), .val (.ref ac)] [(.ref ac), (.ref ac)])) X462 hx rfl rfl rfl (pc0 := 149) (pc' := 152) (same := true) rfl (hb hby at_149) rfl (decide_eq_true rfl) (by decide) (by decide) (XS.iconst X462.here hx rfl (hb hby at_152) (XS.goto X462.here hx rfl (pc0 := 153) (pc' := 157) rfl (hb hby at_153) (by decide) (by decide) kq)))))))) ?_
          exact own_retZH X462 hS (by rw [e462]; exact hk) hZ hEL (by rw [e462]; exact C428) hx hret hlk (hb hby at_157) (by decide) (by decide) (Or.inr rfl) ⟨rfl, N461⟩
        · have hc := own_eqF sc
          rw [own_by_00 hq hc]
          refine own_toH T339 (mkF m 108 #[.val (.int i0), .val (.long i1), .second, .val (.int (Int32.ofNat n)), .val (.ref b264), .val (.ref bm), .val .null, .unset] [(.ref bm)]) (fun tq kq => XS.astore X339.here hx rfl (hb hby at_93) rfl rfl (l' := #[.val (.int i0), .val (.long i1), .second, .val (.int (Int32.ofNat n)), .val (.ref b264), .val (.ref bm), .val .null, .unset]) rfl (XS.aload X339.here hx rfl (hb hby at_95) rfl rfl (XS.ifnonnullYes X339.here hx rfl (pc0 := 97) (pc' := 106) rfl (hb hby at_97) rfl (by decide) (by decide) (XS.aload X339.here hx rfl (hb hby at_106) rfl rfl kq)))) ?_
          obtain ⟨b463, T463, h463, k463, t463, kc463, X463, e463, E463, hS, hk, hZ, hown, Eb463, Cb463, Vb463, Ab463, la463, lb463, hC463, hL463, hsf463, st463⟩ := ldcCH X339 hx hZ hown (own_w hw 0 rfl) own_wS rfl hS hk hEL (by decide) C339.1 (vs := ([(113 : Int32), (117 : Int32), (101 : Int32), (114 : Int32), (121 : Int32)] : List Int32).map Value.int) (z := Int32.ofNat 5) ⟨by decide, by decide⟩ (by decide) (by decide) (g := (mkF m 108 #[.val (.int i0), .val (.long i1), .second, .val (.int (Int32.ofNat n)), .val (.ref b264), .val (.ref bm), .val .null, .unset] [(.ref bm)])) rfl (hb hby at_108) (n := 20) (by decide) (by decide) (by decide) (by decide)
          have f464 := f340.ext E463
          have f465 := f341.ext E463
          have f466 := f342.ext E463
          have f467 := f343.ext E463
          have f468 := f344.ext E463
          have f469 := f345.ext E463
          have f470 := f346.ext E463
          have f471 := f347.ext E463
          have f472 := f348.ext E463
          have f473 := f349.ext E463
          have f474 := f350.ext E463
          have f475 := f351.ext E463
          have f476 := f352.ext E463
          have f477 := f353.ext E463
          have f478 := f354.ext E463
          have f479 := f355.ext E463
          have f480 := f356.ext E463
          have f481 := f357.ext E463
          have f482 := f358.ext E463
          have f483 := f359.ext E463
          have f484 := f360.ext E463
          have f485 := f361.ext E463
          have f486 := f362.ext E463
          have f487 := f363.ext E463
          have f488 := f364.ext E463
          have f489 := f365.ext E463
          have f490 := f366.ext E463
          have Zs463 : n0 ≤ h463.size := Nat.le_trans Zs339 E463.1
          have C463 := C339.trans hC463
          have Vt463 : BArr Z h463 t463 5 (fun i => ([(113 : Int32), (117 : Int32), (101 : Int32), (114 : Int32), (121 : Int32)] : List Int32).getD i 0) := own_barr Ab463 (by decide) (by decide)
          refine own_toH T463 (mkF m 110 #[.val (.int i0), .val (.long i1), .second, .val (.int (Int32.ofNat n)), .val (.ref b264), .val (.ref bm), .val .null, .unset] [(.ref b463), (.ref bm)]) (fun tq kq => st463 _ kq) ?_
          have u491 : BArr Z h463 t463 5 own_fq := Vt463
          obtain ⟨cq492, kq492, q492a, q492b, q492c⟩ := isOf hZ e463 f487
          obtain ⟨_, _, ⟨T492, L492, k492, n492⟩, -, X492, ⟨Lc492, hQ492, l492, y492, z492⟩, st492⟩ := X463.virtualBack hx (y := (⟨"java/lang/String", "equals", "(Ljava/lang/Object;)Z"⟩ : MethodName)) (z := (⟨"java/lang/String", "equals", "(Ljava/lang/Object;)Z"⟩ : MethodName)) hown (mvT hZ (own_w hw 101 rfl)) (mvT hZ (own_w hw 93 rfl)) (notFace_of_selects (args := #[]) (mvT hZ (own_w hw 95 rfl))) (mvT hZ (own_w hw 95 rfl)) (mvT hZ (own_w hw 94 rfl)) (by decide) (backOf (W := 0) (rmEq l Z a0 hw [] bm tm b463 t463 n 5 gm own_fq G1 h463 n0 Zs463 f476 hG f487 f488 f489 f490 Eb463 Vb463 Cb463 u491 (by omega) (by decide)) hZ (own_w hw 96 rfl) (own_w hw 1 rfl) (by decide) (by decide)) q492a q492c (g := (mkF m 110 #[.val (.int i0), .val (.long i1), .second, .val (.int (Int32.ofNat n)), .val (.ref b264), .val (.ref bm), .val .null, .unset] [(.ref b463), (.ref bm)])) rfl (by rw [hml]; rfl) (Steps.refl _) (argsL := [(.ref b463)]) (rest := []) (lenOf pd_16 rfl) rfl (by show 2 * 0 + _ ≤ _; exact Nat.le_of_eq rfl) (hb hby at_110) (fun _ _ => ⟨rfl, e463, (by decide : 11 + 0 ≤ _), (by decide : 66 + 0 ≤ _)⟩)
          dsimp only [Pt.U, Pt.locs, Pt.cells, Pt.slots] at X492 l492 y492 z492 st492 hQ492
          have l492y := l492.symm
          clear l492
          subst l492y
          obtain rfl : k492 = 11 := y492
          obtain rfl : n492 = 66 := z492
          obtain ⟨rfl, N492q, e492⟩ := hQ492
          have N492 := Fr.app N339 N492q
          refine own_toH T492 (mkF m 113 #[.val (.int i0), .val (.long i1), .second, .val (.int (Int32.ofNat n)), .val (.ref b264), .val (.ref bm), .val .null, .unset] [(.int (own_eq n gm 5 own_fq))]) (fun tq kq => st492.trans kq) ?_
          rw [show (own_eq n gm 5 own_fq) = (0 : Int32) from own_eqF (fun z => sq (own_same_comm z))]
          refine own_toH T492 (mkF m 126 #[.val (.int i0), .val (.long i1), .second, .val (.int (Int32.ofNat n)), .val (.ref b264), .val (.ref bm), .val .null, .unset] [(.ref bm)]) (fun tq kq => XS.ifYes X492.here hx rfl (pc0 := 113) (pc' := 124) rfl (hb hby at_113) rfl ((if0 _ _).trans (teq (by decide : (0 : Int32) = (0 : Int32))).1) (by decide) (by decide) (XS.aload X492.here hx rfl (hb hby at_124) rfl rfl kq)) ?_
          obtain ⟨b493, T493, h493, k493, t493, kc493, X493, e493, E493, hS, hk, hZ, hown, Eb493, Cb493, Vb493, Ab493, la493, lb493, hC493, hL493, hsf493, st493⟩ := ldcCH X492 hx hZ hown (own_w hw 102 rfl) own_wS e492 hS hk hEL (by decide) C463.1 (vs := ([(99 : Int32), (108 : Int32), (105 : Int32), (99 : Int32), (107 : Int32)] : List Int32).map Value.int) (z := Int32.ofNat 5) ⟨by decide, by decide⟩ (by decide) (by decide) (g := (mkF m 126 #[.val (.int i0), .val (.long i1), .second, .val (.int (Int32.ofNat n)), .val (.ref b264), .val (.ref bm), .val .null, .unset] [(.ref bm)])) rfl (hb hby at_126) (n := 20) (by decide) (by decide) (by decide) (by decide)
          have f494 := f464.ext E493
          have f495 := f465.ext E493
          have f496 := f466.ext E493
          have f497 := f467.ext E493
          have f498 := f468.ext E493
          have f499 := f469.ext E493
          have f500 := f470.ext E493
          have f501 := f471.ext E493
          have f502 := f472.ext E493
          have f503 := f473.ext E493
          have f504 := f474.ext E493
          have f505 := f475.ext E493
          have f506 := f476.ext E493
          have f507 := f477.ext E493
          have f508 := f478.ext E493
          have f509 := f479.ext E493
          have f510 := f480.ext E493
          have f511 := f481.ext E493
          have f512 := f482.ext E493
          have f513 := f483.ext E493
          have f514 := f484.ext E493
          have f515 := f485.ext E493
          have f516 := f486.ext E493
          have f517 := f487.ext E493
          have f518 := f488.ext E493
          have f519 := f489.ext E493
          have f520 := f490.ext E493
          have f521 := Eb463.ext E493
          have f522 := Vb463.ext E493
          have f523 := Cb463.ext E493
          have f524 := u491.ext E493
          have Zs493 : n0 ≤ h493.size := Nat.le_trans Zs463 E493.1
          have C493 := C463.trans hC493
          have Vt493 : BArr Z h493 t493 5 (fun i => ([(99 : Int32), (108 : Int32), (105 : Int32), (99 : Int32), (107 : Int32)] : List Int32).getD i 0) := own_barr Ab493 (by decide) (by decide)
          refine own_toH T493 (mkF m 128 #[.val (.int i0), .val (.long i1), .second, .val (.int (Int32.ofNat n)), .val (.ref b264), .val (.ref bm), .val .null, .unset] [(.ref b493), (.ref bm)]) (fun tq kq => st493 _ kq) ?_
          have u525 : BArr Z h493 t493 5 own_fc := Vt493
          obtain ⟨cq526, kq526, q526a, q526b, q526c⟩ := isOf hZ e493 f517
          obtain ⟨_, _, ⟨T526, L526, k526, n526⟩, -, X526, ⟨Lc526, hQ526, l526, y526, z526⟩, st526⟩ := X493.virtualBack hx (y := (⟨"java/lang/String", "equals", "(Ljava/lang/Object;)Z"⟩ : MethodName)) (z := (⟨"java/lang/String", "equals", "(Ljava/lang/Object;)Z"⟩ : MethodName)) hown (mvT hZ (own_w hw 101 rfl)) (mvT hZ (own_w hw 93 rfl)) (notFace_of_selects (args := #[]) (mvT hZ (own_w hw 95 rfl))) (mvT hZ (own_w hw 95 rfl)) (mvT hZ (own_w hw 94 rfl)) (by decide) (backOf (W := 0) (rmEq l Z a0 hw [] bm tm b493 t493 n 5 gm own_fc G1 h493 n0 Zs493 f506 hG f517 f518 f519 f520 Eb493 Vb493 Cb493 u525 (by omega) (by decide)) hZ (own_w hw 96 rfl) (own_w hw 1 rfl) (by decide) (by decide)) q526a q526c (g := (mkF m 128 #[.val (.int i0), .val (.long i1), .second, .val (.int (Int32.ofNat n)), .val (.ref b264), .val (.ref bm), .val .null, .unset] [(.ref b493), (.ref bm)])) rfl (by rw [hml]; rfl) (Steps.refl _) (argsL := [(.ref b493)]) (rest := []) (lenOf pd_16 rfl) rfl (by show 2 * 0 + _ ≤ _; exact Nat.le_of_eq rfl) (hb hby at_128) (fun _ _ => ⟨rfl, e493, (by decide : 13 + 0 ≤ _), (by decide : 90 + 0 ≤ _)⟩)
          dsimp only [Pt.U, Pt.locs, Pt.cells, Pt.slots] at X526 l526 y526 z526 st526 hQ526
          have l526y := l526.symm
          clear l526
          subst l526y
          obtain rfl : k526 = 13 := y526
          obtain rfl : n526 = 90 := z526
          obtain ⟨rfl, N526q, e526⟩ := hQ526
          have N526 := Fr.app N492 N526q
          refine own_toH T526 (mkF m 131 #[.val (.int i0), .val (.long i1), .second, .val (.int (Int32.ofNat n)), .val (.ref b264), .val (.ref bm), .val .null, .unset] [(.int (own_eq n gm 5 own_fc))]) (fun tq kq => st526.trans kq) ?_
          rw [show (own_eq n gm 5 own_fc) = (0 : Int32) from own_eqF (fun z => sc (own_same_comm z))]
          refine own_toH T526 (mkF m 157 #[.val (.int i0), .val (.long i1), .second, .val (.int (Int32.ofNat n)), .val (.ref b264), .val (.ref bm), .val .null, .val .null] [(.int (1 : Int32))]) (fun tq kq => XS.ifYes X526.here hx rfl (pc0 := 131) (pc' := 142) rfl (hb hby at_131) rfl ((if0 _ _).trans (teq (by decide : (0 : Int32) = (0 : Int32))).1) (by decide) (by decide) (XS.aconstNull X526.here hx rfl (hb hby at_142) (XS.astore X526.here hx rfl (hb hby at_143) rfl rfl (l' := #[.val (.int i0), .val (.long i1), .second, .val (.int (Int32.ofNat n)), .val (.ref b264), .val (.ref bm), .val .null, .val .null]) rfl (XS.aload X526.here hx rfl (hb hby at_145) rfl rfl (XS.aload X526.here hx rfl (hb hby at_147) rfl rfl (Jvm.RoadKit.acmp (g := (mkF m 149 #[.val (.int i0), .val (.long i1), .second, .val (.int (Int32.ofNat n)), .val (.ref b264), .val (.ref bm), .val .null, .val .null] [.null, .null])) X526 hx rfl rfl rfl (pc0 := 149) (pc' := 152) (same := true) rfl (hb hby at_149) rfl (decide_eq_true rfl) (by decide) (by decide) (XS.iconst X526.here hx rfl (hb hby at_152) (XS.goto X526.here hx rfl (pc0 := 153) (pc' := 157) rfl (hb hby at_153) (by decide) (by decide) kq)))))))) ?_
          exact own_retZH X526 hS (by rw [e526]; exact hk) hZ hEL (by rw [e526]; exact C493) hx hret hlk (hb hby at_157) (by decide) (by decide) (Or.inr rfl) ⟨rfl, N526⟩
theorem own_eqR {args : Array Value} {s : State} {t u : Term} {w : Addr} (h : (Jvm.Cond.eq t u).value args s none s [] = some true) (hb : u.eval args s none [] s = some (.ref w)) : t.eval args s none [] s = some (.ref w) := by
  obtain ⟨x, y, ha, hb', k1, k2⟩ := cmp_v (Or.inl h)
  rw [hb] at hb'
  cases hb'
  have hx : x.isRef = true := by cases x <;> simp_all [Kin, Value.isRef]
  have q := gotT (eq_R ha hb hx rfl) h
  rw [ha, q]
theorem own_eqI {args : Array Value} {s : State} {t : Term} {n : Int32} (h : (Jvm.Cond.eq t (.int n)).value args s none s [] = some true) : t.eval args s none [] s = some (.int n) := by
  obtain ⟨x, y, ha, hb', k1, k2⟩ := cmp_v (Or.inl h)
  have hb : (Term.int n).eval args s none [] s = some (.int n) := Term.int_eval n
  rw [hb] at hb'
  cases hb'
  obtain ⟨z, rfl⟩ := k2
  have q : (Jvm.Cond.eq t (.int n)).value args s none s [] = some (decide (z = n)) := by simp [Jvm.Cond.value, ha, hb]
  have q' : z = n := gotT q h
  rw [ha, q']
theorem own_lenS {args : Array Value} {s : State} {t : Term} {a : Addr} {cl : Cell} {z : Int32} (h : (Term.length t).eval args s none [] s = some (.int z)) (ev : t.eval args s none [] s = some (.ref a)) (AA : s.arrayAt? a = some cl) : cl.slots.size < 2 ^ 31 ∧ cl.slots.size.toInt32 = z := by
  by_cases hl : cl.slots.size < 2 ^ 31
  · rw [len_f ev AA hl] at h
    injection h with h
    injection h with h
    exact ⟨hl, h⟩
  · simp [Term.eval, ev, AA, hl] at h
set_option maxRecDepth 65536 in
set_option maxHeartbeats 40000000 in
theorem comes_1 {Post : Tables → Env → Array Value → State → Outcome → State → Prop} (hpost : ∀ tb e args s v u, (limb_1_1.after args s (.returned v) u = true ∧ limb_1_2.after args s (.returned v) u = true ∧ True) → FramedW s (.returned v) u (Jvm.fieldLocs frame_1_writes args s ++ Jvm.arrayLocs frame_1_arrays args s ++ Jvm.staticLocs frame_1_statics s) 24 3200 → Post tb e args s (.returned v) u) :
    ArmFor flags0 classFile x code maxLocals ret World_1 tables_1 room_1 Calls_1 rest_1 Pre_1 Post := by
  intro l hfl _ _ p e ha hc hk s m args below hf hA hF happ hP
  obtain ⟨hcalls, hrest, hpre⟩ := hP
  obtain ⟨-, -, -, hnamed, -, -, -, hat⟩ := (Spec.applies_iff hf).mp happ
  obtain ⟨hg, hn⟩ := and_e (Cond.before_iff.mp (show (Jvm.Cond.and given_1 narrow_1).before args s = true from hpre))
  obtain ⟨q1, q2⟩ := and_e hg
  obtain ⟨q3, q4⟩ := and_e q2
  obtain ⟨w0, w1, rfl⟩ : ∃ w0 w1 : Value, args = #[w0, w1] := by
    have hs : args.size = 2 := by simpa [Cond.value, given_1] using q1
    obtain ⟨L⟩ := args
    match L, hs with
    | [w0, w1], _ => exact ⟨w0, w1, rfl⟩
  have hw := fun d (hd : d ∈ tables_1) => atoms_spec (ws := Jvm.Cond.code x code maxLocals ret :: tables_1) hat d (List.mem_cons_of_mem _ hd)
  have hfit : Fit s := fun {y c} hc i hi => by
    obtain ⟨ha, rfl⟩ := Array.getElem?_eq_some_iff.mp hc
    have q := List.all_eq_true.mp ((Array.all_eq_true_iff_forall_mem.mp hF) _ (Array.getElem_mem ha)) i (List.mem_range.mpr hi)
    simpa [Array.getElem?_eq_getElem hi] using q
  obtain ⟨hsets, hown0⟩ := atoms_of _ (rest_1_c_eq ▸ (show rest_1_c.before _ s = true from hrest))
  have hr0 := Cond.before_iff.mp hown0
  obtain ⟨i0, ei0⟩ := is_v q3
  obtain rfl : w0 = (.int i0) := Option.some.inj ei0
  obtain ⟨i1, ei1⟩ := isL_v q4
  obtain rfl : w1 = (.long i1) := Option.some.inj ei1
  obtain ⟨nn1, nn2⟩ := and_e hn
  obtain ⟨nn3, nn4⟩ := and_e nn2
  obtain ⟨nn5, nn6⟩ := and_e nn4
  obtain ⟨nn7, nn8⟩ := and_e nn6
  obtain ⟨nn9, nn10⟩ := and_e nn8
  obtain ⟨nn11, nn12⟩ := and_e nn10
  obtain ⟨nn13, nn14⟩ := and_e nn12
  obtain ⟨nn15, nn16⟩ := and_e nn14
  obtain ⟨nn17, nn18⟩ := and_e nn16
  obtain ⟨nn19, nn20⟩ := and_e nn18
  obtain ⟨nn21, nn22⟩ := and_e nn20
  obtain ⟨nn23, nn24⟩ := and_e nn22
  obtain ⟨nn25, nn26⟩ := and_e nn24
  obtain ⟨nn27, nn28⟩ := and_e nn26
  obtain ⟨nn29, nn30⟩ := and_e nn28
  obtain ⟨nn31, nn32⟩ := and_e nn30
  obtain ⟨nn33, nn34⟩ := and_e nn32
  obtain ⟨nn35, nn36⟩ := and_e nn34
  obtain ⟨nn37, nn38⟩ := and_e nn36
  obtain ⟨nn39, nn40⟩ := and_e nn38
  obtain ⟨nn41, nn42⟩ := and_e nn40
  obtain ⟨nn43, nn44⟩ := and_e nn42
  obtain ⟨nn45, nn46⟩ := and_e nn44
  obtain ⟨nn47, nn48⟩ := and_e nn46
  obtain ⟨aq, evq⟩ := exa_v nn7
  have StQ := Sta.start evq (Or.inr ⟨(own_w hw 66 rfl), (own_w hw 80 rfl)⟩)
  have EQ := Exa.start evq nn7
  obtain ⟨jq, ejq⟩ := exa_v nn15
  have IQ := Fld.start ((fld_at evq).symm.trans ejq)
  have EJQ := Exa.start ejq nn15
  have CJQ := Fld.start ((fld_at ejq).symm.trans (own_eqI nn17))
  obtain ⟨tq, etq⟩ := arr_v nn19
  have VJQ := Fld.start ((fld_at ejq).symm.trans etq)
  obtain ⟨clq, Arq⟩ := Arr.start etq nn19
  have AAq := Arq.fin (Vm.Alike.refl _)
  have lnq := own_lenS (own_eqI nn21) etq AAq
  have Avq := Arv.start (dv := .int 0) (vs := ([(113 : Int32), (117 : Int32), (101 : Int32), (114 : Int32), (121 : Int32)] : List Int32).map Value.int) hfit Arq lnq.1 lnq.2 (by decide) (by decide) ⟨(elem_f etq (Term.int_eval (0)) AAq (by decide)).symm.trans (own_eqI nn31), (elem_f etq (Term.int_eval (1)) AAq (by decide)).symm.trans (own_eqI nn33), (elem_f etq (Term.int_eval (2)) AAq (by decide)).symm.trans (own_eqI nn35), (elem_f etq (Term.int_eval (3)) AAq (by decide)).symm.trans (own_eqI nn37), (elem_f etq (Term.int_eval (4)) AAq (by decide)).symm.trans (own_eqI nn39), trivial⟩
  have BQ : BArr s s.heap tq 5 own_fq := own_barr Avq (by decide) (by decide)
  obtain ⟨ac, evc⟩ := exa_v nn11
  have StC := Sta.start evc (Or.inr ⟨(own_w hw 66 rfl), (own_w hw 81 rfl)⟩)
  have EC := Exa.start evc nn11
  obtain ⟨jc, ejc⟩ := exa_v nn23
  have IC := Fld.start ((fld_at evc).symm.trans ejc)
  have EJC := Exa.start ejc nn23
  have CJC := Fld.start ((fld_at ejc).symm.trans (own_eqI nn25))
  obtain ⟨tc, etc⟩ := arr_v nn27
  have VJC := Fld.start ((fld_at ejc).symm.trans etc)
  obtain ⟨clc, Arc⟩ := Arr.start etc nn27
  have AAc := Arc.fin (Vm.Alike.refl _)
  have lnc := own_lenS (own_eqI nn29) etc AAc
  have Avc := Arv.start (dv := .int 0) (vs := ([(99 : Int32), (108 : Int32), (105 : Int32), (99 : Int32), (107 : Int32)] : List Int32).map Value.int) hfit Arc lnc.1 lnc.2 (by decide) (by decide) ⟨(elem_f etc (Term.int_eval (0)) AAc (by decide)).symm.trans (own_eqI nn41), (elem_f etc (Term.int_eval (1)) AAc (by decide)).symm.trans (own_eqI nn43), (elem_f etc (Term.int_eval (2)) AAc (by decide)).symm.trans (own_eqI nn45), (elem_f etc (Term.int_eval (3)) AAc (by decide)).symm.trans (own_eqI nn47), (elem_f etc (Term.int_eval (4)) AAc (by decide)).symm.trans (own_eqI nn48), trivial⟩
  have BC : BArr s s.heap tc 5 own_fc := own_barr Avc (by decide) (by decide)
  obtain ⟨av, evv⟩ := exa_v nn3
  have StV := Sta.start evv (Or.inr ⟨(own_w hw 66 rfl), (own_w hw 72 rfl)⟩)
  have EV := Exa.start evv nn3
  obtain ⟨clv, Arv_⟩ := Arr.start evv nn1
  have AAv := Arv_.fin (Vm.Alike.refl _)
  have lnv := own_lenS (own_eqI nn5) evv AAv
  have AV := Arv.start (dv := .null) (vs := [.ref aq, .ref ac]) hfit Arv_ lnv.1 lnv.2 (by decide) rfl ⟨(elem_f evv (Term.int_eval (0)) AAv (by decide)).symm.trans (own_eqR nn9 evq), (elem_f evv (Term.int_eval (1)) AAv (by decide)).symm.trans (own_eqR nn13 evc), trivial⟩
  have nC := not_v (Cond.before_iff.mp (hsets _ (List.mem_of_getElem? (i := 2) rfl)))
  obtain ⟨G1, eG1⟩ := is_v (Cond.before_iff.mp (hsets _ (List.mem_of_getElem? (i := 1) rfl)))
  have O2 : Sta s s.heap "java/lang/String" "COMPACT_STRINGS" "Z" (.int G1) := Sta.start eG1 (Or.inl (hsets _ (List.mem_of_getElem? (i := 0) rfl)))
  have hG1 : ¬ (G1 = (0 : Int32)) := gotF (Cond.eq_ints eG1 (Term.int_eval (0))) nC
  obtain ⟨vF, eF, hvF⟩ := isR_v (Cond.before_iff.mp (hsets _ (List.mem_of_getElem? (i := 8) rfl)))
  have O4 : Sta s s.heap "jdk/internal/util/Preconditions" "SIOOBE_FORMATTER" "Ljava/util/function/BiFunction;" vF := Sta.start eF (Or.inl (hsets _ (List.mem_of_getElem? (i := 7) rfl)))
  have hEL : EW s _ consts_1 := (EW.cons (own_w hw 102 rfl) (by decide) (EW.cons (own_w hw 0 rfl) (by decide) (EW.cons (own_w hw 63 rfl) (by decide) EW.nil)))
  have hCH0 : CHv s consts_1 s.vm s.heap := CHv.start hEL hcalls.1 (hsets _ (List.mem_of_getElem? (i := 2) rfl)) (own_w hw 3 rfl) (own_w hw 2 rfl)
  obtain ⟨n, o, h1, h2, h3, _, L, rfl, ⟨rfl, N⟩, -, hq⟩ := rm0 l s _ hw tables_1 i0 i1 G1 vF av aq ac jq jc tq tc clv.cls s.heap s.heap.size (Nat.le_refl _) O2 hG1 O4 hvF hEL StV EV AV StQ StC EQ IQ EC IC EJQ VJQ CJQ BQ EJC VJC CJC BC p e ha hc hk s m _ below hf ((Spec.applies_iff_loose hf).mp happ).1 ⟨rfl, State.Warmed39.refl s, rfl, hCH0⟩ trivial
  refine ⟨n, _, h1, h2, h3, hpost _ _ _ _ _ _ ⟨Cond.after_iff.mpr rfl, Cond.after_iff.mpr (eq_i res_at (Term.int_eval (1)) rfl), trivial⟩ ⟨hq.1, hq.2.1, hq.2.2.1, (hq.2.2.2.sift fun y hy => Or.inr (N y hy)).mono (by decide) (by decide)⟩⟩
theorem main_1_1 : Claimed_1_1 := comes_1 fun _ _ _ _ _ _ h hF => ⟨h.1, hF⟩
theorem main_1_2 : Claimed_1_2 := comes_1 fun _ _ _ _ _ _ h hF => ⟨h.2.1, hF⟩
end Jvm.Pilot.@@N@@
namespace Jvm.Pilot.@@N@@
open Jvm Jvm.ClassFile Sem Op Lib Jvm.Free Jvm.Stand Jvm.Pilot.@@N@@.Jvm.D
/-! MADE BY PROGRAM (witnessworld.py) out of the Statement's table words and the real class files: 22 classes; the members and pool entries that the words name. The judged class is class 1, her method 3. -/
namespace start1
open Jvm.ClassFile
def u (s : String) : CpInfo := .utf8 (stringToUtf16 s)
/-- a pool by its gaps: so many unusable entries, then the entry; so many at the end -/
def gap : Nat → List CpInfo → List CpInfo
  | 0, r => r
  | n + 1, r => .unusable :: gap n r
def poolList (es : List (Nat × CpInfo)) (last : Nat) : List CpInfo := es.foldr (fun e r => gap e.1 (e.2 :: r)) (gap last [])
def pool (es : List (Nat × CpInfo)) (last : Nat) : Array CpInfo := ⟨poolList es last⟩
def fileOf (pool : Array CpInfo) (this : Nat) (attrs : Array Attribute := #[]) (ms : Array MethodInfo := #[]) (fl : Nat := 33) (sup : Nat := 0) (ifs : Array Nat := #[]) (fds : Array FieldInfo := #[]) : ClassFile where
  minorVersion := 0
  majorVersion := 65
  constantPool := pool
  accessFlags := fl
  thisClass := this
  superClass := sup
  interfaces := ifs
  fields := fds
  methods := ms
  attributes := attrs
def plain (name : String) (sup : Option ClassId) : Class where
  name := name
  kind := .ordinary
  loader := none
  accessFlags := 33
  super := sup
  interfaces := #[]
  cf := none
  fields := #[]
  methods := #[]
  instanceTypes := #[]
  staticTypes := #[]
  resolved := #[]
  callSites := []
  init := .initialized
  statics := none
  mirror := none

def pool0 : Array CpInfo := pool [(5, u "<init>"), (0, u "()V"), (1, .class_ 10), (1, u "java/lang/Object"), (85, u "clone"), (0, u "()Ljava/lang/Object;")] 26

def k0c0 : Code := { maxStack := 0, maxLocals := 1, code := object_method_1_code, exceptionTable := #[], attributes := #[] }
def k0m0 : Method := { name := "<init>", desc := "()V", sig := { parameters := [], returnType := none }, accessFlags := 1, code := some k0c0 }
def k0m1 : Method := { name := "clone", desc := "()Ljava/lang/Object;", sig := { parameters := [], returnType := some (.object "java/lang/Object") }, accessFlags := 260, code := none }
/-- java/lang/Object -/
def k0 : Class := { plain "java/lang/Object" none with
  accessFlags := 33
  interfaces := #[]
  cf := some (fileOf pool0 8 #[] #[{ accessFlags := 1, nameIndex := 5, descriptorIndex := 6, attributes := #[] }, { accessFlags := 260, nameIndex := 96, descriptorIndex := 97, attributes := #[] }] 33 0 #[] #[])
  fields := #[]
  methods := #[k0m0, k0m1]
  instanceTypes := #[]
  staticTypes := #[]
  resolved := Array.replicate 124 none
  statics := none }

def pool1 : Array CpInfo := pool [(2, .class_ 4), (1, u "java/lang/Object"), (0, u "<init>"), (0, u "()V"), (0, .long 255), (1, .methodref 10 11), (0, .class_ 12), (0, .nameAndType 13 14), (0, u "java/lang/String"), (0, u "length"), (0, u "()I"), (0, .methodref 10 16), (0, .nameAndType 17 18), (0, u "charAt"), (0, u "(I)C"), (0, .methodref 10 20), (0, .nameAndType 5 21), (0, u "([C)V"), (0, .string 23), (0, u "click"), (0, .string 25), (0, u "query"), (0, .methodref 27 28), (0, .class_ 29), (0, .nameAndType 30 31), (0, u "com/example/interest_ranker/interestranker/model/TypeByIdPinLaw"), (0, u "pick"), (0, u "(IIJLjava/lang/String;)C"), (0, .methodref 27 33), (0, .nameAndType 34 35), (0, u "make"), (0, u "(ICCCCCC)Ljava/lang/String;"), (0, .methodref 37 38), (0, .class_ 39), (0, .nameAndType 40 41), (0, u "com/example/interest_ranker/interestranker/model/Event$Type"), (0, u "byId"), (0, u "(Ljava/lang/String;)Lcom/example/interest_ranker/interestranker/model/Event$Type;"), (0, .methodref 10 43), (0, .nameAndType 44 45), (0, u "equals"), (0, u "(Ljava/lang/Object;)Z"), (0, .fieldref 37 47), (0, .nameAndType 48 49), (0, u "QUERY"), (0, u "Lcom/example/interest_ranker/interestranker/model/Event$Type;"), (0, .fieldref 37 51), (0, .nameAndType 52 49), (0, u "CLICK"), (3, u "law"), (0, u "(IJ)Z")] 6

def k1m0 : Method := { name := "<init>", desc := "()V", sig := { parameters := [], returnType := none }, accessFlags := 1, code := none }
def k1c1 : Code := { maxStack := 4, maxLocals := 7, code := method_2_code, exceptionTable := #[], attributes := #[] }
def k1m1 : Method := { name := "pick", desc := "(IIJLjava/lang/String;)C", sig := { parameters := [.int, .int, .long, (.object "java/lang/String")], returnType := some .char }, accessFlags := 10, code := some k1c1 }
def k1c2 : Code := { maxStack := 6, maxLocals := 7, code := method_3_code, exceptionTable := #[], attributes := #[] }
def k1m2 : Method := { name := "make", desc := "(ICCCCCC)Ljava/lang/String;", sig := { parameters := [.int, .char, .char, .char, .char, .char, .char], returnType := some (.object "java/lang/String") }, accessFlags := 10, code := some k1c2 }
def k1c3 : Code := { maxStack := 11, maxLocals := 8, code := code, exceptionTable := #[], attributes := #[] }
def k1m3 : Method := { name := "law", desc := "(IJ)Z", sig := { parameters := [.int, .long], returnType := some .boolean }, accessFlags := 9, code := some k1c3 }
/-- com/example/interest_ranker/interestranker/model/TypeByIdPinLaw -/
def k1 : Class := { plain "com/example/interest_ranker/interestranker/model/TypeByIdPinLaw" (some 0) with
  accessFlags := 49
  interfaces := #[]
  cf := some (fileOf pool1 27 #[] #[{ accessFlags := 1, nameIndex := 5, descriptorIndex := 6, attributes := #[] }, { accessFlags := 10, nameIndex := 30, descriptorIndex := 31, attributes := #[] }, { accessFlags := 10, nameIndex := 34, descriptorIndex := 35, attributes := #[] }, { accessFlags := 9, nameIndex := 56, descriptorIndex := 57, attributes := #[] }] 49 2 #[] #[])
  fields := #[]
  methods := #[k1m0, k1m1, k1m2, k1m3]
  instanceTypes := #[]
  staticTypes := #[]
  resolved := Array.replicate 64 none
  statics := none }

def pool2 : Array CpInfo := pool [(1, .class_ 2), (0, u "java/io/Serializable"), (0, .class_ 4), (0, u "java/lang/Object")] 2

/-- java/io/Serializable -/
def k2 : Class := { plain "java/io/Serializable" (some 0) with
  accessFlags := 1537
  interfaces := #[]
  cf := some (fileOf pool2 1 #[] #[] 1537 3 #[] #[])
  fields := #[]
  methods := #[]
  instanceTypes := #[]
  staticTypes := #[]
  resolved := Array.replicate 7 none
  statics := none }

def pool3 : Array CpInfo := pool [(1, .class_ 2), (0, u "java/lang/Comparable"), (0, .class_ 4), (0, u "java/lang/Object")] 7

/-- java/lang/Comparable -/
def k3 : Class := { plain "java/lang/Comparable" (some 0) with
  accessFlags := 1537
  interfaces := #[]
  cf := some (fileOf pool3 1 #[] #[] 1537 3 #[] #[])
  fields := #[]
  methods := #[]
  instanceTypes := #[]
  staticTypes := #[]
  resolved := Array.replicate 12 none
  statics := none }

def pool4 : Array CpInfo := pool [(2, .class_ 4), (1, u "java/lang/CharSequence"), (42, .class_ 48), (0, u "java/lang/CharSequence$1CodePointIterator"), (10, .class_ 60), (0, u "java/lang/CharSequence$1CharIterator"), (5, .class_ 67), (0, u "java/lang/Object")] 63

/-- java/lang/CharSequence -/
def k4 : Class := { plain "java/lang/CharSequence" (some 0) with
  accessFlags := 1537
  interfaces := #[]
  cf := some (fileOf pool4 2 #[.nestMembers #[47, 59]] #[] 1537 66 #[] #[])
  fields := #[]
  methods := #[]
  instanceTypes := #[]
  staticTypes := #[]
  resolved := Array.replicate 131 none
  statics := none }

def pool5 : Array CpInfo := pool [(1, .class_ 2), (0, u "java/lang/constant/Constable"), (0, .class_ 4), (0, u "java/lang/Object")] 6

/-- java/lang/constant/Constable -/
def k5 : Class := { plain "java/lang/constant/Constable" (some 0) with
  accessFlags := 1537
  interfaces := #[]
  cf := some (fileOf pool5 1 #[] #[] 1537 3 #[] #[])
  fields := #[]
  methods := #[]
  instanceTypes := #[]
  staticTypes := #[]
  resolved := Array.replicate 11 none
  statics := none }

def pool6 : Array CpInfo := pool [(1, .class_ 2), (0, u "java/lang/constant/ConstantDesc"), (0, .class_ 4), (0, u "java/lang/Object")] 32

/-- java/lang/constant/ConstantDesc -/
def k6 : Class := { plain "java/lang/constant/ConstantDesc" (some 0) with
  accessFlags := 1537
  interfaces := #[]
  cf := some (fileOf pool6 1 #[] #[] 1537 3 #[] #[])
  fields := #[]
  methods := #[]
  instanceTypes := #[]
  staticTypes := #[]
  resolved := Array.replicate 37 none
  statics := none }

def pool7 : Array CpInfo := pool [(1, .methodref 2 3), (0, .class_ 4), (0, .nameAndType 5 6), (0, u "java/lang/Object"), (0, u "<init>"), (0, u "()V"), (0, .string 8), (0, u ""), (0, .fieldref 10 11), (0, .class_ 12), (0, .nameAndType 13 14), (0, u "java/lang/String"), (0, u "value"), (0, u "[B"), (0, .fieldref 10 16), (0, .nameAndType 17 18), (0, u "coder"), (0, u "B"), (2, u "hash"), (0, u "I"), (2, u "hashIsZero"), (0, u "Z"), (0, .methodref 10 28), (0, .nameAndType 5 29), (0, u "([CIILjava/lang/Void;)V"), (8, .fieldref 10 39), (0, .nameAndType 40 26), (0, u "COMPACT_STRINGS"), (1, .class_ 44), (1, u "java/lang/StringUTF16"), (0, u "compress"), (1, .methodref 42 48), (0, .nameAndType 49 50), (0, u "coderFromArrayLen"), (0, u "([BI)B"), (56, .class_ 109), (1, u "java/lang/StringLatin1"), (32, u "()Z"), (34, .methodref 42 178), (0, .nameAndType 45 179), (0, u "([CII)[B"), (154, u "()I"), (0, .methodref 10 336), (0, .nameAndType 17 337), (0, u "()B"), (25, u "([BI)C"), (27, u "(II)V"), (35, u "(I)C"), (64, .methodref 10 493), (0, .nameAndType 494 142), (0, u "isLatin1"), (0, .methodref 107 496), (0, .nameAndType 497 363), (0, u "charAt"), (3, u "checkIndex"), (5, u "length"), (33, .methodref 107 542), (0, .nameAndType 543 544), (0, u "equals"), (0, u "([B[B)Z"), (28, u "(Ljava/lang/Object;)Z"), (1, .class_ 576), (0, u "java/lang/CharSequence"), (22, u "CASE_INSENSITIVE_ORDER"), (0, u "Ljava/util/Comparator;"), (409, u "([C)V"), (42, .fieldref 1054 1055), (0, .class_ 1056), (0, .nameAndType 1057 1058), (0, u "jdk/internal/util/Preconditions"), (0, u "SIOOBE_FORMATTER"), (0, u "Ljava/util/function/BiFunction;"), (0, .methodref 1054 1060), (0, .nameAndType 501 1061), (0, u "(IILjava/util/function/BiFunction;)I"), (39, u "serialPersistentFields"), (0, u "[Ljava/io/ObjectStreamField;"), (0, .class_ 1104), (0, u "java/lang/String$CaseInsensitiveComparator"), (1, .class_ 1107), (0, u "java/io/Serializable"), (0, .class_ 1109), (0, u "java/lang/Comparable"), (0, .class_ 1111), (0, u "java/lang/constant/Constable"), (0, .class_ 1113), (0, u "java/lang/constant/ConstantDesc"), (2, u "serialVersionUID"), (0, u "J"), (3, u "REPL"), (0, u "C"), (2, u "LATIN1"), (1, u "UTF16")] 323

def k7m0 : Method := { name := "<init>", desc := "()V", sig := { parameters := [], returnType := none }, accessFlags := 1, code := none }
def k7c1 : Code := { maxStack := 5, maxLocals := 2, code := jdk_42_method_3_code, exceptionTable := #[], attributes := #[] }
def k7m1 : Method := { name := "<init>", desc := "([C)V", sig := { parameters := [(.array .char)], returnType := none }, accessFlags := 1, code := some k7c1 }
def k7c2 : Code := { maxStack := 2, maxLocals := 1, code := jdk_42_method_54_code, exceptionTable := #[], attributes := #[] }
def k7m2 : Method := { name := "length", desc := "()I", sig := { parameters := [], returnType := some .int }, accessFlags := 1, code := some k7c2 }
def k7c3 : Code := { maxStack := 2, maxLocals := 2, code := jdk_42_method_56_code, exceptionTable := #[], attributes := #[] }
def k7m3 : Method := { name := "charAt", desc := "(I)C", sig := { parameters := [.int], returnType := some .char }, accessFlags := 1, code := some k7c3 }
def k7c4 : Code := { maxStack := 2, maxLocals := 3, code := jdk_42_method_66_code, exceptionTable := #[], attributes := #[] }
def k7m4 : Method := { name := "equals", desc := "(Ljava/lang/Object;)Z", sig := { parameters := [(.object "java/lang/Object")], returnType := some .boolean }, accessFlags := 1, code := some k7c4 }
def k7c5 : Code := { maxStack := 4, maxLocals := 6, code := jdk_42_method_149_code, exceptionTable := #[], attributes := #[] }
def k7m5 : Method := { name := "<init>", desc := "([CIILjava/lang/Void;)V", sig := { parameters := [(.array .char), .int, .int, (.object "java/lang/Void")], returnType := none }, accessFlags := 2, code := some k7c5 }
def k7c6 : Code := { maxStack := 1, maxLocals := 1, code := jdk_42_method_152_code, exceptionTable := #[], attributes := #[] }
def k7m6 : Method := { name := "coder", desc := "()B", sig := { parameters := [], returnType := some .byte }, accessFlags := 0, code := some k7c6 }
def k7c7 : Code := { maxStack := 1, maxLocals := 1, code := jdk_42_method_154_code, exceptionTable := #[], attributes := #[] }
def k7m7 : Method := { name := "isLatin1", desc := "()Z", sig := { parameters := [], returnType := some .boolean }, accessFlags := 0, code := some k7c7 }
def k7c8 : Code := { maxStack := 3, maxLocals := 2, code := jdk_42_method_155_code, exceptionTable := #[], attributes := #[] }
def k7m8 : Method := { name := "checkIndex", desc := "(II)V", sig := { parameters := [.int, .int], returnType := none }, accessFlags := 8, code := some k7c8 }
/-- java/lang/String -/
def k7 : Class := { plain "java/lang/String" (some 0) with
  accessFlags := 49
  interfaces := #[2, 3, 4, 5, 6]
  cf := some (fileOf pool7 10 #[.nestMembers #[1103]] #[{ accessFlags := 1, nameIndex := 5, descriptorIndex := 6, attributes := #[] }, { accessFlags := 1, nameIndex := 5, descriptorIndex := 1010, attributes := #[] }, { accessFlags := 1, nameIndex := 507, descriptorIndex := 334, attributes := #[] }, { accessFlags := 1, nameIndex := 497, descriptorIndex := 427, attributes := #[] }, { accessFlags := 1, nameIndex := 543, descriptorIndex := 573, attributes := #[] }, { accessFlags := 2, nameIndex := 5, descriptorIndex := 29, attributes := #[] }, { accessFlags := 0, nameIndex := 17, descriptorIndex := 337, attributes := #[] }, { accessFlags := 0, nameIndex := 494, descriptorIndex := 142, attributes := #[] }, { accessFlags := 8, nameIndex := 501, descriptorIndex := 391, attributes := #[] }] 49 2 #[1106, 1108, 575, 1110, 1112] #[{ accessFlags := 18, nameIndex := 13, descriptorIndex := 14, attributes := #[] }, { accessFlags := 18, nameIndex := 17, descriptorIndex := 18, attributes := #[] }, { accessFlags := 2, nameIndex := 21, descriptorIndex := 22, attributes := #[] }, { accessFlags := 2, nameIndex := 25, descriptorIndex := 26, attributes := #[] }, { accessFlags := 26, nameIndex := 1116, descriptorIndex := 1117, attributes := #[] }, { accessFlags := 24, nameIndex := 40, descriptorIndex := 26, attributes := #[] }, { accessFlags := 26, nameIndex := 1101, descriptorIndex := 1102, attributes := #[] }, { accessFlags := 26, nameIndex := 1121, descriptorIndex := 1122, attributes := #[] }, { accessFlags := 25, nameIndex := 599, descriptorIndex := 600, attributes := #[] }, { accessFlags := 24, nameIndex := 1125, descriptorIndex := 18, attributes := #[] }, { accessFlags := 24, nameIndex := 1127, descriptorIndex := 18, attributes := #[] }])
  fields := #[{ name := "value", type := (.array .byte), accessFlags := 18, slot := 0, constantValue := 0 }, { name := "coder", type := .byte, accessFlags := 18, slot := 1, constantValue := 0 }, { name := "hash", type := .int, accessFlags := 2, slot := 2, constantValue := 0 }, { name := "hashIsZero", type := .boolean, accessFlags := 2, slot := 3, constantValue := 0 }, { name := "serialVersionUID", type := .long, accessFlags := 26, slot := 0, constantValue := 0 }, { name := "COMPACT_STRINGS", type := .boolean, accessFlags := 24, slot := 1, constantValue := 0 }, { name := "serialPersistentFields", type := (.array (.object "java/io/ObjectStreamField")), accessFlags := 26, slot := 2, constantValue := 0 }, { name := "REPL", type := .char, accessFlags := 26, slot := 3, constantValue := 0 }, { name := "CASE_INSENSITIVE_ORDER", type := (.object "java/util/Comparator"), accessFlags := 25, slot := 4, constantValue := 0 }, { name := "LATIN1", type := .byte, accessFlags := 24, slot := 5, constantValue := 0 }, { name := "UTF16", type := .byte, accessFlags := 24, slot := 6, constantValue := 0 }]
  methods := #[k7m0, k7m1, k7m2, k7m3, k7m4, k7m5, k7m6, k7m7, k7m8]
  instanceTypes := #[(.array .byte), .byte, .int, .boolean]
  staticTypes := #[.long, .boolean, (.array (.object "java/io/ObjectStreamField")), .char, (.object "java/util/Comparator"), .byte, .byte]
  resolved := Array.replicate 1451 none
  statics := some 0 }

def pool8 : Array CpInfo := pool [(1, .class_ 2), (0, u "java/lang/String"), (1, .class_ 6), (1, u "java/lang/Object"), (0, u "<init>"), (0, u "()V"), (0, .methodref 1 10), (0, .nameAndType 11 12), (0, u "checkIndex"), (0, u "(II)V"), (1, .class_ 16), (1, u "java/lang/StringLatin1"), (36, u "([BI)C"), (67, u "$assertionsDisabled"), (0, u "Z"), (98, .class_ 223), (1, u "java/lang/StringLatin1$LinesSpliterator"), (28, u "charAt"), (28, u "equals"), (0, u "([B[B)Z"), (107, .class_ 391), (0, u "java/lang/StringLatin1$CharsSpliterator")] 3

def k8m0 : Method := { name := "<init>", desc := "()V", sig := { parameters := [], returnType := none }, accessFlags := 0, code := none }
def k8c1 : Code := { maxStack := 2, maxLocals := 2, code := jdk_43_method_2_code, exceptionTable := #[], attributes := #[] }
def k8m1 : Method := { name := "charAt", desc := "([BI)C", sig := { parameters := [(.array .byte), .int], returnType := some .char }, accessFlags := 9, code := some k8c1 }
def k8c2 : Code := { maxStack := 3, maxLocals := 3, code := jdk_43_method_13_code, exceptionTable := #[], attributes := #[] }
def k8m2 : Method := { name := "equals", desc := "([B[B)Z", sig := { parameters := [(.array .byte), (.array .byte)], returnType := some .boolean }, accessFlags := 9, code := some k8c2 }
/-- java/lang/StringLatin1 -/
def k8 : Class := { plain "java/lang/StringLatin1" (some 0) with
  accessFlags := 48
  interfaces := #[]
  cf := some (fileOf pool8 14 #[.nestMembers #[390, 221]] #[{ accessFlags := 0, nameIndex := 7, descriptorIndex := 8, attributes := #[] }, { accessFlags := 9, nameIndex := 252, descriptorIndex := 53, attributes := #[] }, { accessFlags := 9, nameIndex := 281, descriptorIndex := 282, attributes := #[] }] 48 4 #[] #[{ accessFlags := 4120, nameIndex := 121, descriptorIndex := 122, attributes := #[] }])
  fields := #[{ name := "$assertionsDisabled", type := .boolean, accessFlags := 4120, slot := 0, constantValue := 0 }]
  methods := #[k8m0, k8m1, k8m2]
  instanceTypes := #[]
  staticTypes := #[.boolean]
  resolved := Array.replicate 395 none
  statics := none }

def pool9 : Array CpInfo := pool [(2, .class_ 4), (1, u "java/lang/Object"), (0, u "<init>"), (0, u "()V"), (17, .class_ 26), (1, u "jdk/internal/util/Preconditions"), (6, u "checkIndex"), (21, .class_ 56), (0, u "jdk/internal/util/Preconditions$4"), (57, .class_ 115), (0, u "jdk/internal/util/Preconditions$1"), (7, u "SIOOBE_FORMATTER"), (0, u "Ljava/util/function/BiFunction;"), (0, .class_ 126), (0, u "jdk/internal/util/Preconditions$2"), (3, u "AIOOBE_FORMATTER"), (0, .class_ 132), (0, u "jdk/internal/util/Preconditions$3"), (3, u "IOOBE_FORMATTER"), (41, u "(IILjava/util/function/BiFunction;)I")] 15

def k9m0 : Method := { name := "<init>", desc := "()V", sig := { parameters := [], returnType := none }, accessFlags := 1, code := none }
def k9c1 : Code := { maxStack := 3, maxLocals := 3, code := jdk_41_method_11_code, exceptionTable := #[], attributes := #[] }
def k9m1 : Method := { name := "checkIndex", desc := "(IILjava/util/function/BiFunction;)I", sig := { parameters := [.int, .int, (.object "java/util/function/BiFunction")], returnType := some .int }, accessFlags := 9, code := some k9c1 }
/-- jdk/internal/util/Preconditions -/
def k9 : Class := { plain "jdk/internal/util/Preconditions" (some 0) with
  accessFlags := 33
  interfaces := #[]
  cf := some (fileOf pool9 24 #[.nestMembers #[55, 131, 125, 114]] #[{ accessFlags := 1, nameIndex := 5, descriptorIndex := 6, attributes := #[] }, { accessFlags := 9, nameIndex := 33, descriptorIndex := 178, attributes := #[] }] 33 2 #[] #[{ accessFlags := 25, nameIndex := 123, descriptorIndex := 124, attributes := #[] }, { accessFlags := 25, nameIndex := 130, descriptorIndex := 124, attributes := #[] }, { accessFlags := 25, nameIndex := 136, descriptorIndex := 124, attributes := #[] }])
  fields := #[{ name := "SIOOBE_FORMATTER", type := (.object "java/util/function/BiFunction"), accessFlags := 25, slot := 0, constantValue := 0 }, { name := "AIOOBE_FORMATTER", type := (.object "java/util/function/BiFunction"), accessFlags := 25, slot := 1, constantValue := 0 }, { name := "IOOBE_FORMATTER", type := (.object "java/util/function/BiFunction"), accessFlags := 25, slot := 2, constantValue := 0 }]
  methods := #[k9m0, k9m1]
  instanceTypes := #[]
  staticTypes := #[(.object "java/util/function/BiFunction"), (.object "java/util/function/BiFunction"), (.object "java/util/function/BiFunction")]
  resolved := Array.replicate 194 none
  statics := some 1 }

def pool10 : Array CpInfo := pool [(2, .class_ 4), (1, u "java/lang/Enum"), (0, u "name"), (0, u "Ljava/lang/String;"), (2, u "ordinal"), (0, u "I"), (1, .class_ 14), (1, u "java/lang/Object"), (4, u "hash"), (86, .class_ 108), (1, u "java/lang/Enum$EnumDesc"), (2, .class_ 112), (0, u "java/lang/constant/Constable"), (0, .class_ 114), (0, u "java/lang/Comparable"), (0, .class_ 116), (0, u "java/io/Serializable")] 87

/-- java/lang/Enum -/
def k10 : Class := { plain "java/lang/Enum" (some 0) with
  accessFlags := 1057
  interfaces := #[5, 3, 2]
  cf := some (fileOf pool10 2 #[.nestMembers #[106]] #[] 1057 12 #[111, 113, 115] #[{ accessFlags := 18, nameIndex := 5, descriptorIndex := 6, attributes := #[] }, { accessFlags := 18, nameIndex := 9, descriptorIndex := 10, attributes := #[] }, { accessFlags := 2, nameIndex := 19, descriptorIndex := 10, attributes := #[] }])
  fields := #[{ name := "name", type := (.object "java/lang/String"), accessFlags := 18, slot := 0, constantValue := 0 }, { name := "ordinal", type := .int, accessFlags := 18, slot := 1, constantValue := 0 }, { name := "hash", type := .int, accessFlags := 2, slot := 2, constantValue := 0 }]
  methods := #[]
  instanceTypes := #[(.object "java/lang/String"), .int, .int]
  staticTypes := #[]
  resolved := Array.replicate 204 none
  statics := none }

def pool11 : Array CpInfo := pool [(1, .class_ 2), (0, u "com/example/interest_ranker/interestranker/model/Event$Type"), (2, u "QUERY"), (0, u "Lcom/example/interest_ranker/interestranker/model/Event$Type;"), (2, u "CLICK"), (0, .fieldref 1 11), (0, .nameAndType 12 13), (0, u "$VALUES"), (0, u "[Lcom/example/interest_ranker/interestranker/model/Event$Type;"), (0, .methodref 15 16), (0, .class_ 13), (0, .nameAndType 17 18), (0, u "clone"), (0, u "()Ljava/lang/Object;"), (1, .class_ 22), (1, u "java/lang/Enum"), (6, .fieldref 1 30), (0, .nameAndType 31 32), (0, u "id"), (0, u "Ljava/lang/String;"), (0, .methodref 1 34), (0, .nameAndType 35 36), (0, u "values"), (0, u "()[Lcom/example/interest_ranker/interestranker/model/Event$Type;"), (0, .methodref 1 38), (0, .nameAndType 31 39), (0, u "()Ljava/lang/String;"), (0, .methodref 41 42), (0, .class_ 43), (0, .nameAndType 44 45), (0, u "java/lang/String"), (0, u "equals"), (0, u "(Ljava/lang/Object;)Z"), (14, u "(Ljava/lang/String;)Lcom/example/interest_ranker/interestranker/model/Event$Type;"), (3, u "byId"), (7, .class_ 73), (0, u "com/example/interest_ranker/interestranker/model/Event")] 2

def k11c0 : Code := { maxStack := 1, maxLocals := 0, code := prog_11_method_1_code, exceptionTable := #[], attributes := #[] }
def k11m0 : Method := { name := "values", desc := "()[Lcom/example/interest_ranker/interestranker/model/Event$Type;", sig := { parameters := [], returnType := some (.array (.object "com/example/interest_ranker/interestranker/model/Event$Type")) }, accessFlags := 9, code := some k11c0 }
def k11c1 : Code := { maxStack := 1, maxLocals := 1, code := prog_11_method_4_code, exceptionTable := #[], attributes := #[] }
def k11m1 : Method := { name := "id", desc := "()Ljava/lang/String;", sig := { parameters := [], returnType := some (.object "java/lang/String") }, accessFlags := 1, code := some k11c1 }
def k11c2 : Code := { maxStack := 2, maxLocals := 6, code := prog_11_method_5_code, exceptionTable := #[], attributes := #[] }
def k11m2 : Method := { name := "byId", desc := "(Ljava/lang/String;)Lcom/example/interest_ranker/interestranker/model/Event$Type;", sig := { parameters := [(.object "java/lang/String")], returnType := some (.object "com/example/interest_ranker/interestranker/model/Event$Type") }, accessFlags := 9, code := some k11c2 }
/-- com/example/interest_ranker/interestranker/model/Event$Type -/
def k11 : Class := { plain "com/example/interest_ranker/interestranker/model/Event$Type" (some 10) with
  accessFlags := 16433
  interfaces := #[]
  cf := some (fileOf pool11 1 #[.nestHost 72] #[{ accessFlags := 9, nameIndex := 35, descriptorIndex := 36, attributes := #[] }, { accessFlags := 1, nameIndex := 31, descriptorIndex := 39, attributes := #[] }, { accessFlags := 9, nameIndex := 64, descriptorIndex := 60, attributes := #[] }] 16433 20 #[] #[{ accessFlags := 16409, nameIndex := 5, descriptorIndex := 6, attributes := #[] }, { accessFlags := 16409, nameIndex := 9, descriptorIndex := 6, attributes := #[] }, { accessFlags := 18, nameIndex := 31, descriptorIndex := 32, attributes := #[] }, { accessFlags := 4122, nameIndex := 12, descriptorIndex := 13, attributes := #[] }])
  fields := #[{ name := "QUERY", type := (.object "com/example/interest_ranker/interestranker/model/Event$Type"), accessFlags := 16409, slot := 0, constantValue := 0 }, { name := "CLICK", type := (.object "com/example/interest_ranker/interestranker/model/Event$Type"), accessFlags := 16409, slot := 1, constantValue := 0 }, { name := "id", type := (.object "java/lang/String"), accessFlags := 18, slot := 3, constantValue := 0 }, { name := "$VALUES", type := (.array (.object "com/example/interest_ranker/interestranker/model/Event$Type")), accessFlags := 4122, slot := 2, constantValue := 0 }]
  methods := #[k11m0, k11m1, k11m2]
  instanceTypes := #[(.object "java/lang/String"), .int, .int, (.object "java/lang/String")]
  staticTypes := #[(.object "com/example/interest_ranker/interestranker/model/Event$Type"), (.object "com/example/interest_ranker/interestranker/model/Event$Type"), (.array (.object "com/example/interest_ranker/interestranker/model/Event$Type"))]
  resolved := Array.replicate 76 none
  statics := some 2 }

def pool12 : Array CpInfo := pool [(1, .class_ 2), (0, u "java/lang/Cloneable"), (0, .class_ 4), (0, u "java/lang/Object")] 2

/-- java/lang/Cloneable -/
def k12 : Class := { plain "java/lang/Cloneable" (some 0) with
  accessFlags := 1537
  interfaces := #[]
  cf := some (fileOf pool12 1 #[] #[] 1537 3 #[] #[])
  fields := #[]
  methods := #[]
  instanceTypes := #[]
  staticTypes := #[]
  resolved := Array.replicate 7 none
  statics := none }

def pool13 : Array CpInfo := pool [(6, .class_ 8), (1, u "java/lang/Object"), (0, u "<init>"), (0, u "()V"), (1, .class_ 14), (1, u "java/lang/StringUTF16"), (31, u "$assertionsDisabled"), (0, u "Z"), (13, u "HI_BYTE_SHIFT"), (0, u "I"), (2, u "LO_BYTE_SHIFT"), (49, .methodref 12 116), (0, .nameAndType 117 118), (0, u "compress"), (0, u "([CI[BII)I"), (3, u "([CII)[B"), (138, u "coderFromArrayLen"), (0, u "([BI)B"), (106, .class_ 371), (1, u "java/lang/StringUTF16$LinesSpliterator"), (58, u "MAX_LENGTH"), (196, .class_ 628), (0, u "java/lang/StringUTF16$CodePointsSpliterator"), (0, .class_ 630), (0, u "java/lang/StringUTF16$CharsSpliterator")] 4

def k13m0 : Method := { name := "<init>", desc := "()V", sig := { parameters := [], returnType := none }, accessFlags := 0, code := none }
def k13c1 : Code := { maxStack := 2, maxLocals := 2, code := jdk_52_method_15_code, exceptionTable := #[], attributes := #[] }
def k13m1 : Method := { name := "coderFromArrayLen", desc := "([BI)B", sig := { parameters := [(.array .byte), .int], returnType := some .byte }, accessFlags := 8, code := some k13c1 }
def k13c2 : Code := { maxStack := 5, maxLocals := 6, code := jdk_52_method_16_code, exceptionTable := #[], attributes := #[] }
def k13m2 : Method := { name := "compress", desc := "([CII)[B", sig := { parameters := [(.array .char), .int, .int], returnType := some (.array .byte) }, accessFlags := 9, code := some k13c2 }
def k13c3 : Code := { maxStack := 3, maxLocals := 7, code := jdk_52_method_21_code, exceptionTable := #[], attributes := #[] }
def k13m3 : Method := { name := "compress", desc := "([CI[BII)I", sig := { parameters := [(.array .char), .int, (.array .byte), .int, .int], returnType := some .int }, accessFlags := 9, code := some k13c3 }
/-- java/lang/StringUTF16 -/
def k13 : Class := { plain "java/lang/StringUTF16" (some 0) with
  accessFlags := 48
  interfaces := #[]
  cf := some (fileOf pool13 12 #[.nestMembers #[627, 629, 369]] #[{ accessFlags := 0, nameIndex := 9, descriptorIndex := 10, attributes := #[] }, { accessFlags := 8, nameIndex := 261, descriptorIndex := 262, attributes := #[] }, { accessFlags := 9, nameIndex := 117, descriptorIndex := 122, attributes := #[] }, { accessFlags := 9, nameIndex := 117, descriptorIndex := 118, attributes := #[] }] 48 6 #[] #[{ accessFlags := 26, nameIndex := 61, descriptorIndex := 62, attributes := #[] }, { accessFlags := 26, nameIndex := 65, descriptorIndex := 62, attributes := #[] }, { accessFlags := 24, nameIndex := 430, descriptorIndex := 62, attributes := #[] }, { accessFlags := 4120, nameIndex := 46, descriptorIndex := 47, attributes := #[] }])
  fields := #[{ name := "HI_BYTE_SHIFT", type := .int, accessFlags := 26, slot := 0, constantValue := 0 }, { name := "LO_BYTE_SHIFT", type := .int, accessFlags := 26, slot := 1, constantValue := 0 }, { name := "MAX_LENGTH", type := .int, accessFlags := 24, slot := 2, constantValue := 0 }, { name := "$assertionsDisabled", type := .boolean, accessFlags := 4120, slot := 3, constantValue := 0 }]
  methods := #[k13m0, k13m1, k13m2, k13m3]
  instanceTypes := #[]
  staticTypes := #[.int, .int, .int, .boolean]
  resolved := Array.replicate 635 none
  statics := none }

def pool14 : Array CpInfo := pool [(9, u "<init>"), (6, .class_ 18), (1, u "java/lang/Object"), (0, u "()V"), (1, .class_ 23), (1, u "jdk/internal/util/ArraysSupport"), (0, u "LOG2_ARRAY_LONG_INDEX_SCALE"), (0, u "I"), (2, u "U"), (0, u "Ljdk/internal/misc/Unsafe;"), (8, u "BIG_ENDIAN"), (0, u "Z"), (8, u "LOG2_BYTE_BIT_SIZE"), (4, u "LOG2_ARRAY_INT_INDEX_SCALE"), (54, u "JLA"), (0, u "Ljdk/internal/access/JavaLangAccess;"), (11, u "LOG2_ARRAY_BOOLEAN_INDEX_SCALE"), (9, u "LOG2_ARRAY_BYTE_INDEX_SCALE"), (5, u "LOG2_ARRAY_CHAR_INDEX_SCALE"), (5, u "LOG2_ARRAY_SHORT_INDEX_SCALE"), (18, u "LOG2_ARRAY_FLOAT_INDEX_SCALE"), (24, u "LOG2_ARRAY_DOUBLE_INDEX_SCALE"), (89, u "T_BOOLEAN"), (2, u "T_CHAR"), (1, u "T_FLOAT"), (1, u "T_DOUBLE"), (1, u "T_BYTE"), (1, u "T_SHORT"), (1, u "T_INT"), (1, u "T_LONG"), (1, u "SOFT_MAX_ARRAY_LENGTH")] 83

def k14m0 : Method := { name := "<init>", desc := "()V", sig := { parameters := [], returnType := none }, accessFlags := 2, code := none }
/-- jdk/internal/util/ArraysSupport -/
def k14 : Class := { plain "jdk/internal/util/ArraysSupport" (some 0) with
  accessFlags := 33
  interfaces := #[]
  cf := some (fileOf pool14 21 #[] #[{ accessFlags := 2, nameIndex := 9, descriptorIndex := 19, attributes := #[] }] 33 16 #[] #[{ accessFlags := 24, nameIndex := 28, descriptorIndex := 29, attributes := #[] }, { accessFlags := 26, nameIndex := 38, descriptorIndex := 39, attributes := #[] }, { accessFlags := 25, nameIndex := 121, descriptorIndex := 25, attributes := #[] }, { accessFlags := 25, nameIndex := 131, descriptorIndex := 25, attributes := #[] }, { accessFlags := 25, nameIndex := 137, descriptorIndex := 25, attributes := #[] }, { accessFlags := 25, nameIndex := 143, descriptorIndex := 25, attributes := #[] }, { accessFlags := 25, nameIndex := 53, descriptorIndex := 25, attributes := #[] }, { accessFlags := 25, nameIndex := 24, descriptorIndex := 25, attributes := #[] }, { accessFlags := 25, nameIndex := 162, descriptorIndex := 25, attributes := #[] }, { accessFlags := 25, nameIndex := 187, descriptorIndex := 25, attributes := #[] }, { accessFlags := 26, nameIndex := 48, descriptorIndex := 25, attributes := #[] }, { accessFlags := 25, nameIndex := 277, descriptorIndex := 25, attributes := #[] }, { accessFlags := 25, nameIndex := 280, descriptorIndex := 25, attributes := #[] }, { accessFlags := 25, nameIndex := 282, descriptorIndex := 25, attributes := #[] }, { accessFlags := 25, nameIndex := 284, descriptorIndex := 25, attributes := #[] }, { accessFlags := 25, nameIndex := 286, descriptorIndex := 25, attributes := #[] }, { accessFlags := 25, nameIndex := 288, descriptorIndex := 25, attributes := #[] }, { accessFlags := 25, nameIndex := 290, descriptorIndex := 25, attributes := #[] }, { accessFlags := 25, nameIndex := 292, descriptorIndex := 25, attributes := #[] }, { accessFlags := 26, nameIndex := 108, descriptorIndex := 109, attributes := #[] }, { accessFlags := 25, nameIndex := 294, descriptorIndex := 25, attributes := #[] }])
  fields := #[{ name := "U", type := (.object "jdk/internal/misc/Unsafe"), accessFlags := 24, slot := 0, constantValue := 0 }, { name := "BIG_ENDIAN", type := .boolean, accessFlags := 26, slot := 1, constantValue := 0 }, { name := "LOG2_ARRAY_BOOLEAN_INDEX_SCALE", type := .int, accessFlags := 25, slot := 2, constantValue := 0 }, { name := "LOG2_ARRAY_BYTE_INDEX_SCALE", type := .int, accessFlags := 25, slot := 3, constantValue := 0 }, { name := "LOG2_ARRAY_CHAR_INDEX_SCALE", type := .int, accessFlags := 25, slot := 4, constantValue := 0 }, { name := "LOG2_ARRAY_SHORT_INDEX_SCALE", type := .int, accessFlags := 25, slot := 5, constantValue := 0 }, { name := "LOG2_ARRAY_INT_INDEX_SCALE", type := .int, accessFlags := 25, slot := 6, constantValue := 0 }, { name := "LOG2_ARRAY_LONG_INDEX_SCALE", type := .int, accessFlags := 25, slot := 7, constantValue := 0 }, { name := "LOG2_ARRAY_FLOAT_INDEX_SCALE", type := .int, accessFlags := 25, slot := 8, constantValue := 0 }, { name := "LOG2_ARRAY_DOUBLE_INDEX_SCALE", type := .int, accessFlags := 25, slot := 9, constantValue := 0 }, { name := "LOG2_BYTE_BIT_SIZE", type := .int, accessFlags := 26, slot := 10, constantValue := 0 }, { name := "T_BOOLEAN", type := .int, accessFlags := 25, slot := 11, constantValue := 0 }, { name := "T_CHAR", type := .int, accessFlags := 25, slot := 12, constantValue := 0 }, { name := "T_FLOAT", type := .int, accessFlags := 25, slot := 13, constantValue := 0 }, { name := "T_DOUBLE", type := .int, accessFlags := 25, slot := 14, constantValue := 0 }, { name := "T_BYTE", type := .int, accessFlags := 25, slot := 15, constantValue := 0 }, { name := "T_SHORT", type := .int, accessFlags := 25, slot := 16, constantValue := 0 }, { name := "T_INT", type := .int, accessFlags := 25, slot := 17, constantValue := 0 }, { name := "T_LONG", type := .int, accessFlags := 25, slot := 18, constantValue := 0 }, { name := "JLA", type := (.object "jdk/internal/access/JavaLangAccess"), accessFlags := 26, slot := 19, constantValue := 0 }, { name := "SOFT_MAX_ARRAY_LENGTH", type := .int, accessFlags := 25, slot := 20, constantValue := 0 }]
  methods := #[k14m0]
  instanceTypes := #[]
  staticTypes := #[(.object "jdk/internal/misc/Unsafe"), .boolean, .int, .int, .int, .int, .int, .int, .int, .int, .int, .int, .int, .int, .int, .int, .int, .int, .int, (.object "jdk/internal/access/JavaLangAccess"), .int]
  resolved := Array.replicate 378 none
  statics := none }

/-- the primitive byte -/
def k15 : Class := { plain "byte" none with kind := .primitive 'B', accessFlags := 0x411 }
/-- [B -/
def k16 : Class := { plain "[B" (some 0) with kind := .array 15 .byte, interfaces := #[12, 2], accessFlags := 1041 }

/-- the primitive char -/
def k17 : Class := { plain "char" none with kind := .primitive 'C', accessFlags := 0x411 }
/-- [C -/
def k18 : Class := { plain "[C" (some 0) with kind := .array 17 .char, interfaces := #[12, 2], accessFlags := 1041 }

/-- the primitive int -/
def k19 : Class := { plain "int" none with kind := .primitive 'I', accessFlags := 0x411 }
/-- [I -/
def k20 : Class := { plain "[I" (some 0) with kind := .array 19 .int, interfaces := #[12, 2], accessFlags := 1041 }

/-- [Lcom/example/interest_ranker/interestranker/model/Event$Type; -/
def k21 : Class := { plain "[Lcom/example/interest_ranker/interestranker/model/Event$Type;" (some 0) with kind := .array 11 (.object "com/example/interest_ranker/interestranker/model/Event$Type"), interfaces := #[12, 2], accessFlags := 1041 }

def heap : Heap := #[{ cls := 7, slots := #[.long 0, .int 1, .null, .int 0, .null, .int 0, .int 0], vm := .statics 7 },
  { cls := 9, slots := #[.null, .null, .null], vm := .statics 9 },
  { cls := 11, slots := #[.ref 4, .ref 5, .ref 3], vm := .statics 11 },
  { cls := 21, slots := #[.ref 4, .ref 5], vm := .none },
  { cls := 11, slots := #[.null, .int 0, .int 0, .ref 6], vm := .none },
  { cls := 11, slots := #[.null, .int 1, .int 0, .ref 7], vm := .none },
  { cls := 7, slots := #[.ref 8, .int 0, .int 0, .int 0], vm := .none },
  { cls := 7, slots := #[.ref 9, .int 0, .int 0, .int 0], vm := .none },
  { cls := 16, slots := #[.int 113, .int 117, .int 101, .int 114, .int 121], vm := .none },
  { cls := 16, slots := #[.int 99, .int 108, .int 105, .int 99, .int 107], vm := .none }]
def classes : Array Class := #[k0, k1, k2, k3, k4, k5, k6, k7, k8, k9, k10, k11, k12, k13, k14, k15, k16, k17, k18, k19, k20, k21]
def interned : List (Array UInt16 × Addr) := []
def slotsUsed : Nat := 41
def theMethod : MethodId := ⟨1, 3⟩
def args0 : Array Value := #[.int 21, .long 5]
def aboutOver (below : List Frame) : State where
  vm := { classes := classes, interned := interned.toArray }
  heap := heap
  slotsUsed := slotsUsed
  threads := #[{ frames := .invoking theMethod args0 :: below }]
def below0 : List Frame := [.native { method := ⟨0, 0⟩, args := #[] }]
def about1 : State := aboutOver below0
def p0 : Program := .bare "" "" ""
def e0 : Env := launch0.env 0 0 0
theorem w_frames : about1.frames = Frame.invoking theMethod args0 :: below0 := rfl
set_option maxRecDepth 65536 in
theorem w_args : argsFit about1.vm theMethod args0 = true := by decide +kernel
set_option maxRecDepth 65536 in
theorem w_heap : heapFits about1 = true := by decide +kernel
set_option maxRecDepth 65536 in
theorem w_runnable : about1.curStatus? = some .runnable := by decide +kernel
set_option maxRecDepth 65536 in
theorem w_alone : about1.alone = true := by decide +kernel
set_option maxRecDepth 65536 in
theorem w_named : about1.methodNamed? x = some theMethod := by decide +kernel
set_option maxRecDepth 65536 in
theorem w_hears : about1.hears theMethod below0 = true := by decide +kernel
set_option maxRecDepth 65536 in
theorem w_ripe : about1.ripe theMethod args0 below0 = true := by decide +kernel
theorem w_running : about1.status = .running := rfl
set_option maxRecDepth 65536 in
theorem w_room : about1.hasRoom e0.platform room_1 = true :=
  launch0.hasRoom_least _ room_1 (by decide +kernel) (by decide +kernel) (by decide +kernel) (by decide +kernel) (by decide +kernel) (by decide +kernel)
theorem allAtoms_all (ts : List Jvm.Cond) (a : Array Jvm.Value) (st : Jvm.State) : (allAtoms ts).before a st = ts.all (fun c => c.before a st) := by
  induction ts with
  | nil => rfl
  | cons c t ih =>
    show (Jvm.Cond.and c (allAtoms t)).before a st = _
    rw [Jvm.Cond.before_and, ih, List.all_cons]
def words1 : List Jvm.Cond := Jvm.Cond.code x code maxLocals ret :: tables_1
/-- a 'code' word, met by the world's own term for the bytes: nothing is compared byte by byte -/
theorem code_word {y : MethodName} {bytes : ByteArray} {mx : Nat} {rt : Option FieldType} {a : Array Value} {s : State} {m : MethodId} {meth : Method} {c : Code} (h1 : s.methodNamed? y = some m) (h2 : s.vm.method? m = some meth) (h3 : meth.code = some c) (h4 : c.code = bytes)
    (h5 : (c.maxLocals == mx && c.exceptionTable.isEmpty && decide (c.maxStack ≤ mostOperands) && decide (meth.sig.returnType = rt) && !meth.locks && decide (parseMethodDescriptor y.desc = some meth.sig)) = true) : (Jvm.Cond.code y bytes mx rt).before a s = true := by
  simp only [Bool.and_eq_true, beq_iff_eq, Bool.not_eq_true', decide_eq_true_eq] at h5
  obtain ⟨⟨⟨⟨⟨g1, g2⟩, g3⟩, g4⟩, g5⟩, g6⟩ := h5
  simp [Cond.before, Cond.holds, Cond.value, h1, h2, h3, h4, g1, g2, g3, g4, g5, g6]
def isCode : Jvm.Cond → Bool
  | .code _ _ _ _ => true
  | _ => false
theorem all_split {L : List Jvm.Cond} {P : Jvm.Cond → Bool} (h1 : L.all (fun c => isCode c || P c) = true) (h2 : ∀ c ∈ L.filter isCode, P c = true) : L.all P = true := by
  refine List.all_eq_true.mpr fun c hc => ?_
  have h := List.all_eq_true.mp h1 c hc
  rcases Bool.eq_false_or_eq_true (isCode c) with hi | hi
  · exact h2 c (List.mem_filter.mpr ⟨hc, hi⟩)
  · simpa [hi] using h
set_option maxRecDepth 65536 in
theorem w_c0 : (Jvm.Cond.code x code maxLocals ret).before args0 about1 = true := code_word (m := ⟨1, 3⟩) (meth := k1m3) (c := k1c3) (by decide +kernel) rfl rfl rfl (by decide +kernel)
set_option maxRecDepth 65536 in
theorem w_c1 : (Jvm.Cond.code ({ cls := "com/example/interest_ranker/interestranker/model/TypeByIdPinLaw", name := "pick", desc := "(IIJLjava/lang/String;)C" } : Jvm.MethodName) method_2_code (7 : Nat) (Option.some Jvm.ClassFile.FieldType.char)).before args0 about1 = true := code_word (m := ⟨1, 1⟩) (meth := k1m1) (c := k1c1) (by decide +kernel) rfl rfl rfl (by decide +kernel)
set_option maxRecDepth 65536 in
theorem w_c2 : (Jvm.Cond.code ({ cls := "java/lang/String", name := "length", desc := "()I" } : Jvm.MethodName) jdk_42_method_54_code (1 : Nat) (Option.some Jvm.ClassFile.FieldType.int)).before args0 about1 = true := code_word (m := ⟨7, 2⟩) (meth := k7m2) (c := k7c2) (by decide +kernel) rfl rfl rfl (by decide +kernel)
set_option maxRecDepth 65536 in
theorem w_c3 : (Jvm.Cond.code ({ cls := "java/lang/String", name := "coder", desc := "()B" } : Jvm.MethodName) jdk_42_method_152_code (1 : Nat) (Option.some Jvm.ClassFile.FieldType.byte)).before args0 about1 = true := code_word (m := ⟨7, 6⟩) (meth := k7m6) (c := k7c6) (by decide +kernel) rfl rfl rfl (by decide +kernel)
set_option maxRecDepth 65536 in
theorem w_c4 : (Jvm.Cond.code ({ cls := "java/lang/String", name := "charAt", desc := "(I)C" } : Jvm.MethodName) jdk_42_method_56_code (2 : Nat) (Option.some Jvm.ClassFile.FieldType.char)).before args0 about1 = true := code_word (m := ⟨7, 3⟩) (meth := k7m3) (c := k7c3) (by decide +kernel) rfl rfl rfl (by decide +kernel)
set_option maxRecDepth 65536 in
theorem w_c5 : (Jvm.Cond.code ({ cls := "java/lang/String", name := "isLatin1", desc := "()Z" } : Jvm.MethodName) jdk_42_method_154_code (1 : Nat) (Option.some Jvm.ClassFile.FieldType.boolean)).before args0 about1 = true := code_word (m := ⟨7, 7⟩) (meth := k7m7) (c := k7c7) (by decide +kernel) rfl rfl rfl (by decide +kernel)
set_option maxRecDepth 65536 in
theorem w_c6 : (Jvm.Cond.code ({ cls := "java/lang/StringLatin1", name := "charAt", desc := "([BI)C" } : Jvm.MethodName) jdk_43_method_2_code (2 : Nat) (Option.some Jvm.ClassFile.FieldType.char)).before args0 about1 = true := code_word (m := ⟨8, 1⟩) (meth := k8m1) (c := k8c1) (by decide +kernel) rfl rfl rfl (by decide +kernel)
set_option maxRecDepth 65536 in
theorem w_c7 : (Jvm.Cond.code ({ cls := "java/lang/String", name := "checkIndex", desc := "(II)V" } : Jvm.MethodName) jdk_42_method_155_code (2 : Nat) (Option.none : Option Jvm.ClassFile.FieldType)).before args0 about1 = true := code_word (m := ⟨7, 8⟩) (meth := k7m8) (c := k7c8) (by decide +kernel) rfl rfl rfl (by decide +kernel)
set_option maxRecDepth 65536 in
theorem w_c8 : (Jvm.Cond.code ({ cls := "jdk/internal/util/Preconditions", name := "checkIndex", desc := "(IILjava/util/function/BiFunction;)I" } : Jvm.MethodName) jdk_41_method_11_code (3 : Nat) (Option.some Jvm.ClassFile.FieldType.int)).before args0 about1 = true := code_word (m := ⟨9, 1⟩) (meth := k9m1) (c := k9c1) (by decide +kernel) rfl rfl rfl (by decide +kernel)
set_option maxRecDepth 65536 in
theorem w_c9 : (Jvm.Cond.code ({ cls := "com/example/interest_ranker/interestranker/model/TypeByIdPinLaw", name := "make", desc := "(ICCCCCC)Ljava/lang/String;" } : Jvm.MethodName) method_3_code (7 : Nat) (Option.some (Jvm.ClassFile.FieldType.object "java/lang/String"))).before args0 about1 = true := code_word (m := ⟨1, 2⟩) (meth := k1m2) (c := k1c2) (by decide +kernel) rfl rfl rfl (by decide +kernel)
set_option maxRecDepth 65536 in
theorem w_c10 : (Jvm.Cond.code ({ cls := "java/lang/String", name := "<init>", desc := "([C)V" } : Jvm.MethodName) jdk_42_method_3_code (2 : Nat) (Option.none : Option Jvm.ClassFile.FieldType)).before args0 about1 = true := code_word (m := ⟨7, 1⟩) (meth := k7m1) (c := k7c1) (by decide +kernel) rfl rfl rfl (by decide +kernel)
set_option maxRecDepth 65536 in
theorem w_c11 : (Jvm.Cond.code ({ cls := "java/lang/String", name := "<init>", desc := "([CIILjava/lang/Void;)V" } : Jvm.MethodName) jdk_42_method_149_code (6 : Nat) (Option.none : Option Jvm.ClassFile.FieldType)).before args0 about1 = true := code_word (m := ⟨7, 5⟩) (meth := k7m5) (c := k7c5) (by decide +kernel) rfl rfl rfl (by decide +kernel)
set_option maxRecDepth 65536 in
theorem w_c12 : (Jvm.Cond.code ({ cls := "java/lang/Object", name := "<init>", desc := "()V" } : Jvm.MethodName) object_method_1_code (1 : Nat) (Option.none : Option Jvm.ClassFile.FieldType)).before args0 about1 = true := code_word (m := ⟨0, 0⟩) (meth := k0m0) (c := k0c0) (by decide +kernel) rfl rfl rfl (by decide +kernel)
set_option maxRecDepth 65536 in
theorem w_c13 : (Jvm.Cond.code ({ cls := "com/example/interest_ranker/interestranker/model/Event$Type", name := "byId", desc := "(Ljava/lang/String;)Lcom/example/interest_ranker/interestranker/model/Event$Type;" } : Jvm.MethodName) prog_11_method_5_code (6 : Nat) (Option.some (Jvm.ClassFile.FieldType.object "com/example/interest_ranker/interestranker/model/Event$Type"))).before args0 about1 = true := code_word (m := ⟨11, 2⟩) (meth := k11m2) (c := k11c2) (by decide +kernel) rfl rfl rfl (by decide +kernel)
set_option maxRecDepth 65536 in
theorem w_c14 : (Jvm.Cond.code ({ cls := "com/example/interest_ranker/interestranker/model/Event$Type", name := "values", desc := "()[Lcom/example/interest_ranker/interestranker/model/Event$Type;" } : Jvm.MethodName) prog_11_method_1_code (0 : Nat) (Option.some (Jvm.ClassFile.FieldType.array (Jvm.ClassFile.FieldType.object "com/example/interest_ranker/interestranker/model/Event$Type")))).before args0 about1 = true := code_word (m := ⟨11, 0⟩) (meth := k11m0) (c := k11c0) (by decide +kernel) rfl rfl rfl (by decide +kernel)
set_option maxRecDepth 65536 in
theorem w_c15 : (Jvm.Cond.code ({ cls := "com/example/interest_ranker/interestranker/model/Event$Type", name := "id", desc := "()Ljava/lang/String;" } : Jvm.MethodName) prog_11_method_4_code (1 : Nat) (Option.some (Jvm.ClassFile.FieldType.object "java/lang/String"))).before args0 about1 = true := code_word (m := ⟨11, 1⟩) (meth := k11m1) (c := k11c1) (by decide +kernel) rfl rfl rfl (by decide +kernel)
set_option maxRecDepth 65536 in
theorem w_c16 : (Jvm.Cond.code ({ cls := "java/lang/String", name := "equals", desc := "(Ljava/lang/Object;)Z" } : Jvm.MethodName) jdk_42_method_66_code (3 : Nat) (Option.some Jvm.ClassFile.FieldType.boolean)).before args0 about1 = true := code_word (m := ⟨7, 4⟩) (meth := k7m4) (c := k7c4) (by decide +kernel) rfl rfl rfl (by decide +kernel)
set_option maxRecDepth 65536 in
theorem w_c17 : (Jvm.Cond.code ({ cls := "java/lang/StringLatin1", name := "equals", desc := "([B[B)Z" } : Jvm.MethodName) jdk_43_method_13_code (3 : Nat) (Option.some Jvm.ClassFile.FieldType.boolean)).before args0 about1 = true := code_word (m := ⟨8, 2⟩) (meth := k8m2) (c := k8c2) (by decide +kernel) rfl rfl rfl (by decide +kernel)
set_option maxRecDepth 65536 in
theorem w_c18 : (Jvm.Cond.code ({ cls := "java/lang/StringUTF16", name := "compress", desc := "([CII)[B" } : Jvm.MethodName) jdk_52_method_16_code (6 : Nat) (Option.some (Jvm.ClassFile.FieldType.array Jvm.ClassFile.FieldType.byte))).before args0 about1 = true := code_word (m := ⟨13, 2⟩) (meth := k13m2) (c := k13c2) (by decide +kernel) rfl rfl rfl (by decide +kernel)
set_option maxRecDepth 65536 in
theorem w_c19 : (Jvm.Cond.code ({ cls := "java/lang/StringUTF16", name := "compress", desc := "([CI[BII)I" } : Jvm.MethodName) jdk_52_method_21_code (7 : Nat) (Option.some Jvm.ClassFile.FieldType.int)).before args0 about1 = true := code_word (m := ⟨13, 3⟩) (meth := k13m3) (c := k13c3) (by decide +kernel) rfl rfl rfl (by decide +kernel)
set_option maxRecDepth 65536 in
theorem w_c20 : (Jvm.Cond.code ({ cls := "java/lang/StringUTF16", name := "coderFromArrayLen", desc := "([BI)B" } : Jvm.MethodName) jdk_52_method_15_code (2 : Nat) (Option.some Jvm.ClassFile.FieldType.byte)).before args0 about1 = true := code_word (m := ⟨13, 1⟩) (meth := k13m1) (c := k13c1) (by decide +kernel) rfl rfl rfl (by decide +kernel)
def codes1 : List Jvm.Cond := [Jvm.Cond.code x code maxLocals ret, Jvm.Cond.code ({ cls := "com/example/interest_ranker/interestranker/model/TypeByIdPinLaw", name := "pick", desc := "(IIJLjava/lang/String;)C" } : Jvm.MethodName) method_2_code (7 : Nat) (Option.some Jvm.ClassFile.FieldType.char), Jvm.Cond.code ({ cls := "java/lang/String", name := "length", desc := "()I" } : Jvm.MethodName) jdk_42_method_54_code (1 : Nat) (Option.some Jvm.ClassFile.FieldType.int), Jvm.Cond.code ({ cls := "java/lang/String", name := "coder", desc := "()B" } : Jvm.MethodName) jdk_42_method_152_code (1 : Nat) (Option.some Jvm.ClassFile.FieldType.byte), Jvm.Cond.code ({ cls := "java/lang/String", name := "charAt", desc := "(I)C" } : Jvm.MethodName) jdk_42_method_56_code (2 : Nat) (Option.some Jvm.ClassFile.FieldType.char), Jvm.Cond.code ({ cls := "java/lang/String", name := "isLatin1", desc := "()Z" } : Jvm.MethodName) jdk_42_method_154_code (1 : Nat) (Option.some Jvm.ClassFile.FieldType.boolean), Jvm.Cond.code ({ cls := "java/lang/StringLatin1", name := "charAt", desc := "([BI)C" } : Jvm.MethodName) jdk_43_method_2_code (2 : Nat) (Option.some Jvm.ClassFile.FieldType.char), Jvm.Cond.code ({ cls := "java/lang/String", name := "checkIndex", desc := "(II)V" } : Jvm.MethodName) jdk_42_method_155_code (2 : Nat) (Option.none : Option Jvm.ClassFile.FieldType), Jvm.Cond.code ({ cls := "jdk/internal/util/Preconditions", name := "checkIndex", desc := "(IILjava/util/function/BiFunction;)I" } : Jvm.MethodName) jdk_41_method_11_code (3 : Nat) (Option.some Jvm.ClassFile.FieldType.int), Jvm.Cond.code ({ cls := "com/example/interest_ranker/interestranker/model/TypeByIdPinLaw", name := "make", desc := "(ICCCCCC)Ljava/lang/String;" } : Jvm.MethodName) method_3_code (7 : Nat) (Option.some (Jvm.ClassFile.FieldType.object "java/lang/String")), Jvm.Cond.code ({ cls := "java/lang/String", name := "<init>", desc := "([C)V" } : Jvm.MethodName) jdk_42_method_3_code (2 : Nat) (Option.none : Option Jvm.ClassFile.FieldType), Jvm.Cond.code ({ cls := "java/lang/String", name := "<init>", desc := "([CIILjava/lang/Void;)V" } : Jvm.MethodName) jdk_42_method_149_code (6 : Nat) (Option.none : Option Jvm.ClassFile.FieldType), Jvm.Cond.code ({ cls := "java/lang/Object", name := "<init>", desc := "()V" } : Jvm.MethodName) object_method_1_code (1 : Nat) (Option.none : Option Jvm.ClassFile.FieldType), Jvm.Cond.code ({ cls := "com/example/interest_ranker/interestranker/model/Event$Type", name := "byId", desc := "(Ljava/lang/String;)Lcom/example/interest_ranker/interestranker/model/Event$Type;" } : Jvm.MethodName) prog_11_method_5_code (6 : Nat) (Option.some (Jvm.ClassFile.FieldType.object "com/example/interest_ranker/interestranker/model/Event$Type")), Jvm.Cond.code ({ cls := "com/example/interest_ranker/interestranker/model/Event$Type", name := "values", desc := "()[Lcom/example/interest_ranker/interestranker/model/Event$Type;" } : Jvm.MethodName) prog_11_method_1_code (0 : Nat) (Option.some (Jvm.ClassFile.FieldType.array (Jvm.ClassFile.FieldType.object "com/example/interest_ranker/interestranker/model/Event$Type"))), Jvm.Cond.code ({ cls := "com/example/interest_ranker/interestranker/model/Event$Type", name := "id", desc := "()Ljava/lang/String;" } : Jvm.MethodName) prog_11_method_4_code (1 : Nat) (Option.some (Jvm.ClassFile.FieldType.object "java/lang/String")), Jvm.Cond.code ({ cls := "java/lang/String", name := "equals", desc := "(Ljava/lang/Object;)Z" } : Jvm.MethodName) jdk_42_method_66_code (3 : Nat) (Option.some Jvm.ClassFile.FieldType.boolean), Jvm.Cond.code ({ cls := "java/lang/StringLatin1", name := "equals", desc := "([B[B)Z" } : Jvm.MethodName) jdk_43_method_13_code (3 : Nat) (Option.some Jvm.ClassFile.FieldType.boolean), Jvm.Cond.code ({ cls := "java/lang/StringUTF16", name := "compress", desc := "([CII)[B" } : Jvm.MethodName) jdk_52_method_16_code (6 : Nat) (Option.some (Jvm.ClassFile.FieldType.array Jvm.ClassFile.FieldType.byte)), Jvm.Cond.code ({ cls := "java/lang/StringUTF16", name := "compress", desc := "([CI[BII)I" } : Jvm.MethodName) jdk_52_method_21_code (7 : Nat) (Option.some Jvm.ClassFile.FieldType.int), Jvm.Cond.code ({ cls := "java/lang/StringUTF16", name := "coderFromArrayLen", desc := "([BI)B" } : Jvm.MethodName) jdk_52_method_15_code (2 : Nat) (Option.some Jvm.ClassFile.FieldType.byte)]
set_option maxRecDepth 65536 in
theorem codes_eq : words1.filter isCode = codes1 := rfl
theorem w_codes : ∀ c ∈ words1.filter isCode, c.before args0 about1 = true := by
  rw [codes_eq]
  intro c hc
  simp only [codes1, List.mem_cons, List.not_mem_nil, or_false] at hc
  rcases hc with rfl | rfl | rfl | rfl | rfl | rfl | rfl | rfl | rfl | rfl | rfl | rfl | rfl | rfl | rfl | rfl | rfl | rfl | rfl | rfl | rfl
  · exact w_c0
  · exact w_c1
  · exact w_c2
  · exact w_c3
  · exact w_c4
  · exact w_c5
  · exact w_c6
  · exact w_c7
  · exact w_c8
  · exact w_c9
  · exact w_c10
  · exact w_c11
  · exact w_c12
  · exact w_c13
  · exact w_c14
  · exact w_c15
  · exact w_c16
  · exact w_c17
  · exact w_c18
  · exact w_c19
  · exact w_c20
set_option maxRecDepth 65536 in
theorem w_t1 : (words1.take 24).all (fun c => isCode c || c.before args0 about1) = true := by decide +kernel
set_option maxRecDepth 65536 in
theorem w_t2 : ((words1.drop 24).take 24).all (fun c => isCode c || c.before args0 about1) = true := by decide +kernel
set_option maxRecDepth 65536 in
theorem w_t3 : (((words1.drop 24).drop 24).take 24).all (fun c => isCode c || c.before args0 about1) = true := by decide +kernel
set_option maxRecDepth 65536 in
theorem w_t4 : ((((words1.drop 24).drop 24).drop 24).take 24).all (fun c => isCode c || c.before args0 about1) = true := by decide +kernel
set_option maxRecDepth 65536 in
theorem w_t5 : ((((words1.drop 24).drop 24).drop 24).drop 24).all (fun c => isCode c || c.before args0 about1) = true := by decide +kernel
theorem w_tables : (allAtoms (Jvm.Cond.code x code maxLocals ret :: tables_1)).before args0 about1 = true := by
  rw [allAtoms_all]
  show words1.all (fun c => c.before args0 about1) = true
  refine all_split ?_ w_codes
  rw [← List.take_append_drop 24 words1, List.all_append, w_t1, ← List.take_append_drop 24 (words1.drop 24), List.all_append, w_t2, ← List.take_append_drop 24 ((words1.drop 24).drop 24), List.all_append, w_t3, ← List.take_append_drop 24 (((words1.drop 24).drop 24).drop 24), List.all_append, w_t4, w_t5]
  rfl
set_option maxRecDepth 65536 in
theorem w_rest : rest_1_c.before args0 about1 = true := by decide +kernel
set_option maxRecDepth 65536 in
theorem w_case : (Jvm.Cond.and given_1 narrow_1).before args0 about1 = true := by decide +kernel
set_option maxRecDepth 65536 in
theorem w_consts : constsHeld consts_1 about1 := Jvm.Lit.constsHeldB_iff.mp (by decide +kernel)
theorem w_applies : (headSpec (Jvm.Cond.code x code maxLocals ret :: tables_1) room_1).applies x e0.platform about1 = true :=
  (Spec.applies_iff w_frames).mpr ⟨w_running, w_runnable, w_alone, w_named, w_hears, w_ripe, w_room, w_tables⟩
theorem atStart : AtStart classFile x code maxLocals ret World_1 tables_1 room_1 Calls_1 rest_1 Pre_1 launch0 p0 e0 about1 theMethod args0 below0 :=
  ⟨lists_1, trivial, launch0.admits_env _ _ _, launch0.least_env, fairChoices_fair.cas, fairChoices_fair.clock, w_frames, w_args, w_heap, w_applies, ⟨w_consts, trivial⟩, w_rest, w_case⟩
end start1
theorem witness_1 : WitnessClaimed_1 := ⟨start1.p0, start1.e0, start1.about1, start1.theMethod, start1.args0, start1.below0, start1.atStart⟩
end Jvm.Pilot.@@N@@
